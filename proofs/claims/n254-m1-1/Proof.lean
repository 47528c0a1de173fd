import JvmDerived
import JvmDerived.Pilot.@@N@@Statement
import JvmDerived.Pilot.@@N@@Code
set_option linter.unusedVariables false
set_option linter.unusedSimpArgs false
namespace Jvm.RoadKit
open Sem ClassFile Op Lib Jvm.Stand Jvm.Free Jvm.LawKit
section New
variable {p : Program} {l : Launch} {e : Env} {R : Room} {s : State} {m : MethodId} {args : Array Value} {below : List Frame} {meth : Method} {c : Code} {T : State} {locs : List Loc} {cells slots : Nat}
theorem retI (X : Stand p l e R s m args below meth c T locs cells slots) (hx : p.tables.exec = Jvm.exec) {pc : Nat} {Ls : Array Slot} {z : Int32} {rest : List Value} (hret : meth.sig.returnType = some .int) (hd : decode c.code pc = .ok (.ireturn, 1)) {fs : List Frame}
    (hl : ∀ (f : JFrame) (acts : List Action), f.method = m → f.locked = none → f.entered = [] → (doReturn e (T.setTop f) acts (some (.int z))).1 = T.setFrames fs) : Steps p.tables e below (T.setTop (mkF m pc Ls (.int z :: rest))) (T.setFrames fs) := by
  have hm' : T.vm.method? m = some meth := X.method'
  have hn : narrow .int (.int z) = .int z := rfl
  show Steps p.tables e below (T.setTop { method := m, pc := pc, locals := Ls, stack := _ :: rest, locked := none }) _
  jvm_step X.here [X.here.top, hx, hd, hm', hret, hn]
  first | (intro acts; rw [hl _ acts rfl rfl rfl]) | rw [hl _ _ rfl rfl rfl]
  exact Steps.refl _
end New
end Jvm.RoadKit
namespace Jvm.Pilot.@@N@@
open Jvm Jvm.ClassFile Sem Op Lib Jvm.Free Jvm.Stand Jvm.LawKit Jvm.RoadKit Bundle Jvm.Pilot.@@N@@.Jvm.D
abbrev own_S (p : Program) (e : Env) (below : List Frame) (T : State) (f : JFrame) (t : State) : Prop := Steps p.tables e below (T.setTop f) t
abbrev own_ushr (x y : Int32) : Int32 := (x.toUInt32 >>> (y &&& 31).toUInt32).toInt32
abbrev own_ushrL (x : Int64) (y : Int32) : Int64 := (x.toUInt64 >>> (y &&& 63).toInt64.toUInt64).toInt64
def own_Qi (z : Int32) (h0 : Heap) (n0 : Nat) (v : Option Value) (h : Heap) (L : List Loc) : Prop := v = some (.int z) ∧ Fr n0 L ∧ h = h0
theorem own_wk {Z : State} {ag : Array Value} {d : Jvm.Cond} (hw : ∀ d ∈ tables_1, d.before ag Z = true) (i : Nat) (h : tables_1[i]? = some d) : d.before ag Z = true := hw d (List.mem_of_getElem? h)
theorem own_cast {α : Sort _} {P : α → Prop} {a b : α} (h : a = b) (k : P a) : P b := h ▸ k
/-- what stands at the place j of a byte[] -/
def own_el (vs : List Value) (j : Int32) : Int32 := match vs.getD j.toNatClampNeg (.int (0 : Int32)) with | .int x => x | _ => 0
theorem own_el_at {vs : List Value} {j : Int32} (h : fits .byte (vs.getD j.toNatClampNeg (.int (0 : Int32))) = true) : vs.getD j.toNatClampNeg (.int (0 : Int32)) = .int (own_el vs j) := by
  obtain ⟨x, e⟩ := fit_I h (Or.inr (Or.inr (Or.inl rfl)))
  unfold own_el; rw [e]
theorem own_in (j n : Int32) (h0 : 0 ≤ j.toInt) (h1 : j.toInt < n.toInt) : ¬ j < 0 ∧ j < n := by
  rw [Int32.lt_iff_toInt_lt, Int32.lt_iff_toInt_lt, show (0 : Int32).toInt = 0 from rfl]; omega
theorem own_p1 (p : Int32) (h0 : 0 ≤ p.toInt) (h1 : p.toInt ≤ 65545) : (p + (1 : Int32)).toInt = p.toInt + 1 := by
  have := c_iadd p 1; have e : (1 : Int32).toInt = 1 := rfl; have := rng32 (p + 1); omega
theorem own_p2 (p : Int32) (h0 : 0 ≤ p.toInt) (h1 : p.toInt ≤ 65545) : (p + (2 : Int32)).toInt = p.toInt + 2 := by
  have := c_iadd p 2; have e : (2 : Int32).toInt = 2 := rfl; have := rng32 (p + 2); omega
theorem own_m (len q : Int32) (n : Int) (hq : q.toInt = n) (h4 : 4 ≤ len.toInt) (hm : len.toInt ≤ 65545) (h0 : 0 ≤ n) (h9 : n ≤ 65545) : (len - q).toInt = len.toInt - n := by
  have := c_isub len q; have := rng32 (len - q); omega
theorem own_fl1_0 (p1 len : Int32) (h0 : 0 ≤ p1.toInt) (h1 : p1.toInt + 1 ≤ len.toInt) (hm : len.toInt ≤ 65545) : p1 < p1 + (1 : Int32) := by
  rw [Int32.lt_iff_toInt_lt, own_p1 p1 h0 (by omega)]; omega
theorem own_fl1_1 (p1 len : Int32) (h0 : 0 ≤ p1.toInt) (h1 : p1.toInt + 1 ≤ len.toInt) (hm : len.toInt ≤ 65545) : ¬ (p1 + (1 : Int32)) < p1 + (1 : Int32) := by
  rw [Int32.lt_iff_toInt_lt]; omega
theorem own_fl2_0 (p1 len : Int32) (h0 : 0 ≤ p1.toInt) (h1 : p1.toInt + 2 ≤ len.toInt) (hm : len.toInt ≤ 65545) : p1 < p1 + (2 : Int32) := by
  rw [Int32.lt_iff_toInt_lt, own_p2 p1 h0 (by omega)]; omega
theorem own_fl2_1 (p1 len : Int32) (h0 : 0 ≤ p1.toInt) (h1 : p1.toInt + 2 ≤ len.toInt) (hm : len.toInt ≤ 65545) : (p1 + (1 : Int32)) < p1 + (2 : Int32) := by
  rw [Int32.lt_iff_toInt_lt, own_p2 p1 h0 (by omega), own_p1 p1 h0 (by omega)]; omega
theorem own_fl2_2 (p1 len : Int32) (h0 : 0 ≤ p1.toInt) (h1 : p1.toInt + 2 ≤ len.toInt) (hm : len.toInt ≤ 65545) : ¬ ((p1 + (1 : Int32)) + (1 : Int32)) < p1 + (2 : Int32) := by
  have a := own_p1 p1 h0 (by omega)
  rw [Int32.lt_iff_toInt_lt, own_p2 p1 h0 (by omega), own_p1 (p1 + 1) (by omega) (by omega)]; omega
theorem own_fi1_0 (p1 len : Int32) (h0 : 0 ≤ p1.toInt) (h1 : p1.toInt + 1 ≤ len.toInt) (hm : len.toInt ≤ 65545) : ¬ p1 < 0 ∧ p1 < len := own_in _ _ h0 (by omega)
theorem own_fi2_0 (p1 len : Int32) (h0 : 0 ≤ p1.toInt) (h1 : p1.toInt + 2 ≤ len.toInt) (hm : len.toInt ≤ 65545) : ¬ p1 < 0 ∧ p1 < len := own_in _ _ h0 (by omega)
theorem own_fi2_1 (p1 len : Int32) (h0 : 0 ≤ p1.toInt) (h1 : p1.toInt + 2 ≤ len.toInt) (hm : len.toInt ≤ 65545) : ¬ (p1 + (1 : Int32)) < 0 ∧ (p1 + (1 : Int32)) < len := by
  have a := own_p1 p1 h0 (by omega); exact own_in _ _ (by omega) (by omega)
theorem own_lm1 (len : Int32) (h4 : 4 ≤ len.toInt) (hm : len.toInt ≤ 65545) : 0 ≤ (len - (1 : Int32)).toInt ∧ (len - (1 : Int32)).toInt + 1 ≤ len.toInt := by
  have := own_m len 1 1 rfl h4 hm (by omega) (by omega); omega
theorem own_lm2 (len : Int32) (h4 : 4 ≤ len.toInt) (hm : len.toInt ≤ 65545) : 0 ≤ (len - (2 : Int32)).toInt ∧ (len - (2 : Int32)).toInt + 2 ≤ len.toInt := by
  have := own_m len 2 2 rfl h4 hm (by omega) (by omega); omega
theorem own_eq4 (len q : Int32) (n : Int) (hq : q.toInt = n) (h4 : 4 ≤ len.toInt) (hm : len.toInt ≤ 65545) : (len - (4 : Int32)) = q ↔ len.toInt - 4 = n := by
  rw [← Int32.toInt_inj, own_m len 4 4 rfl h4 hm (by omega) (by omega), hq]
theorem own_lt4 (len : Int32) (h4 : 4 ≤ len.toInt) (hm : len.toInt ≤ 65545) : (len - (4 : Int32)) < (3 : Int32) ↔ len.toInt - 4 < 3 := by
  rw [Int32.lt_iff_toInt_lt, own_m len 4 4 rfl h4 hm (by omega) (by omega), show (3 : Int32).toInt = 3 from rfl]
theorem own_a1 (len : Int32) (h4 : 4 ≤ len.toInt) (hm : len.toInt ≤ 65545) (a : ¬ (len - (4 : Int32)) = (0 : Int32)) (b : (len - (4 : Int32)) = (1 : Int32)) : (4 : Int32).toInt + 1 ≤ len.toInt := by
  rw [own_eq4 len 1 1 rfl h4 hm] at b; rw [show (4 : Int32).toInt = 4 from rfl]; omega
theorem own_a2 (len : Int32) (h4 : 4 ≤ len.toInt) (hm : len.toInt ≤ 65545) (a : ¬ (len - (4 : Int32)) = (0 : Int32)) (b : ¬ (len - (4 : Int32)) = (1 : Int32)) (c : ¬ (len - (4 : Int32)) < (3 : Int32)) {P : Prop} (d : P) : (5 : Int32).toInt + 2 ≤ len.toInt := by
  rw [own_lt4 len h4 hm] at c; rw [show (5 : Int32).toInt = 5 from rfl]; omega
theorem own_b5 (len : Int32) (h4 : 4 ≤ len.toInt) (hm : len.toInt ≤ 65545) (a : ¬ (len - (4 : Int32)) = (0 : Int32)) (b : ¬ (len - (4 : Int32)) = (1 : Int32)) : 5 ≤ len.toInt := by
  rw [own_eq4 len 0 0 rfl h4 hm] at a; omega
theorem own_b4i (len : Int32) (h4 : 4 ≤ len.toInt) (hm : len.toInt ≤ 65545) (a : ¬ (len - (4 : Int32)) = (0 : Int32)) (b : ¬ (len - (4 : Int32)) = (1 : Int32)) : ¬ (4 : Int32) < 0 ∧ (4 : Int32) < len := by
  have := own_b5 len h4 hm a b; exact own_in _ _ (by decide) (by rw [show (4 : Int32).toInt = 4 from rfl]; omega)
theorem own_b7 (len : Int32) (h4 : 4 ≤ len.toInt) (hm : len.toInt ≤ 65545) (a : ¬ (len - (4 : Int32)) = (0 : Int32)) (b : ¬ (len - (4 : Int32)) = (1 : Int32)) (c : ¬ (len - (4 : Int32)) < (3 : Int32)) (d : ¬ (len - (4 : Int32)) = (3 : Int32)) : 6 ≤ len.toInt := by
  rw [own_lt4 len h4 hm] at c; omega
theorem pn_0 : plainName "com/example/chipmantle/chipmantle/CommandApdu" = true := by first | (simp [plainName, overriddenIn]; done) | decide +kernel
theorem ef_4 (m : MethodId) (a0 : Addr) : entryFrame m #[(.ref a0)] 1 = mkF m 0 #[.val (.ref a0)] [] := by first | (simp [entryFrame, mkF, argsToLocals, Value.category]; done) | rfl
theorem d4_0 : decode prog_3_method_6_code 0 = .ok (.aload_n 0, 1) := by decide +kernel
theorem d4_1 : decode prog_3_method_6_code 1 = .ok (.getfield 7, 3) := by decide +kernel
theorem d4_4 : decode prog_3_method_6_code 4 = .ok (.areturn, 1) := by decide +kernel
def Q4 (Z : State) (a0 : Addr) (fv : Addr) (h0 : Heap) (n0 : Nat) (v : Option Value) (h : Heap) (L : List Loc) : Prop := v = some (.ref fv) ∧ Fr n0 L ∧ h = h0
set_option maxRecDepth 65536 in
set_option maxHeartbeats 40000000 in
theorem rm4 (l : Launch) (Z : State) (ag : Array Value) (hw : ∀ d ∈ tables_1, d.before ag Z = true) (ws : List Jvm.Cond) (a0 : Addr) (fv : Addr) (h0 : Heap) (n0 : Nat) (Z0 : n0 ≤ h0.size) (F_bytes_a0 : Fld Z h0 a0 "com/example/chipmantle/chipmantle/CommandApdu" "bytes" "[B" (.ref fv)) :
    MetFree l (⟨"com/example/chipmantle/chipmantle/CommandApdu", "bytes", "()[B"⟩ : MethodName) (head1 (Jvm.Cond.code (⟨"com/example/chipmantle/chipmantle/CommandApdu", "bytes", "()[B"⟩ : MethodName) prog_3_method_6_code 1 (some (.array .byte)) :: ws) ({ frames := 0, cells := 0, slots := 0, locals := 0 } : Room)) (fun a U => a = #[(.ref a0)] ∧ Z.Warmed39 U.vm ∧ U.heap = h0) (fun _ _ _ _ _ => True) (fun _ U o U' => ∃ v L, o = .returned v ∧ Q4 Z a0 fv h0 n0 v U'.heap L ∧ FrameEnd U o U' L ({ frames := 0, cells := 0, slots := 0, locals := 0 } : Room).cells ({ frames := 0, cells := 0, slots := 0, locals := 0 } : Room).slots) := by
  refine MetFree.of_bodySF (plainFor_of_name pn_0) hisR ?_
  intro p e s m args below meth c s₁ Bd hml0 hP hK
  obtain ⟨rfl, hZ, hh⟩ := hP
  have hx := Bd.exec
  have hby := Bd.bytes
  have hml : c.maxLocals = 1 := hml0
  have hown : s.vm.findClass "com/example/chipmantle/chipmantle/CommandApdu" = some m.cls := findClass_of_methodNamed Bd.named
  have hnm := (name_of_methodNamed Bd.named Bd.method).1
  have X0 : Stand p l e ({ frames := 0, cells := 0, slots := 0, locals := 0 } : Room) s m #[(.ref a0)] below meth c s₁ [] 0 0 := Stand.of_body Bd
  have e0 : s₁.heap = h0 := by rw [← hh, Bd.state]; rfl
  have N0 := Fr.nil n0
  have pre0 : ∀ t, Steps p.tables e below (s₁.setTop (mkF m 0 #[.val (.ref a0)] [])) t → Steps p.tables e below (s₁.setTop (entryFrame m #[(.ref a0)] 1)) t := fun t k => castTop (ef_4 m a0) k
  obtain ⟨T1, X1, e1, st1⟩ := getF X0 hx hZ hown (host := "") (Or.inl (hw _ (List.mem_of_getElem? (i := 14) rfl))) Via.refl e0 F_bytes_a0 (g := (mkF m 1 #[.val (.ref a0)] [(.ref a0)])) rfl rfl (hb hby d4_1)
  obtain ⟨fs, hr, hrun, hended, hW, hsame⟩ := X1.leave (v := some (.ref fv)) (fun h => by rw [Bd.returns] at h; cases h)
  refine ⟨_, _, pre0 _ ?_, hrun, hended, _, _, rfl, ?_, ⟨_, rfl⟩, hW, hsame.mono (by decide) (by decide)⟩
  · show own_S p e below s₁ (mkF m 0 #[.val (.ref a0)] []) _
    refine XS.aloadN X0.here hx rfl (hb hby d4_0) rfl rfl ?_
    show own_S p e below s₁ (mkF m 1 #[.val (.ref a0)] [(.ref a0)]) _
    refine st1 _ ?_
    show own_S p e below T1 (mkF m 4 #[.val (.ref a0)] [(.ref fv)]) _
    exact Jvm.RoadKit.retOut X1 hx Bd.returns rfl (Or.inr (Or.inr (Or.inr (Or.inr ⟨rfl, rfl, rfl⟩)))) (hb hby d4_4) hr
  · show Q4 Z a0 fv h0 n0 _ T1.heap _
    rw [e1]
    exact ⟨rfl, N0, rfl⟩
theorem ef_5 (m : MethodId) (a0 : Addr) : entryFrame m #[(.ref a0)] 1 = mkF m 0 #[.val (.ref a0)] [] := by first | (simp [entryFrame, mkF, argsToLocals, Value.category]; done) | rfl
theorem d5_0 : decode prog_3_method_14_code 0 = .ok (.aload_n 0, 1) := by decide +kernel
theorem d5_1 : decode prog_3_method_14_code 1 = .ok (.getfield 13, 3) := by decide +kernel
theorem d5_4 : decode prog_3_method_14_code 4 = .ok (.ireturn, 1) := by decide +kernel
def Q5 (Z : State) (a0 : Addr) (fv : Int32) (h0 : Heap) (n0 : Nat) (v : Option Value) (h : Heap) (L : List Loc) : Prop := v = some (.int fv) ∧ Fr n0 L ∧ h = h0
set_option maxRecDepth 65536 in
set_option maxHeartbeats 40000000 in
theorem rm5 (l : Launch) (Z : State) (ag : Array Value) (hw : ∀ d ∈ tables_1, d.before ag Z = true) (ws : List Jvm.Cond) (a0 : Addr) (fv : Int32) (h0 : Heap) (n0 : Nat) (Z0 : n0 ≤ h0.size) (F_offsetCdata_a0 : Fld Z h0 a0 "com/example/chipmantle/chipmantle/CommandApdu" "offsetCdata" "I" (.int fv)) :
    MetFree l (⟨"com/example/chipmantle/chipmantle/CommandApdu", "offsetCdata", "()I"⟩ : MethodName) (head1 (Jvm.Cond.code (⟨"com/example/chipmantle/chipmantle/CommandApdu", "offsetCdata", "()I"⟩ : MethodName) prog_3_method_14_code 1 (some .int) :: ws) ({ frames := 0, cells := 0, slots := 0, locals := 0 } : Room)) (fun a U => a = #[(.ref a0)] ∧ Z.Warmed39 U.vm ∧ U.heap = h0) (fun _ _ _ _ _ => True) (fun _ U o U' => ∃ v L, o = .returned v ∧ Q5 Z a0 fv h0 n0 v U'.heap L ∧ FrameEnd U o U' L ({ frames := 0, cells := 0, slots := 0, locals := 0 } : Room).cells ({ frames := 0, cells := 0, slots := 0, locals := 0 } : Room).slots) := by
  refine MetFree.of_bodySF (plainFor_of_name pn_0) hisR ?_
  intro p e s m args below meth c s₁ Bd hml0 hP hK
  obtain ⟨rfl, hZ, hh⟩ := hP
  have hx := Bd.exec
  have hby := Bd.bytes
  have hml : c.maxLocals = 1 := hml0
  have hown : s.vm.findClass "com/example/chipmantle/chipmantle/CommandApdu" = some m.cls := findClass_of_methodNamed Bd.named
  have hnm := (name_of_methodNamed Bd.named Bd.method).1
  have X0 : Stand p l e ({ frames := 0, cells := 0, slots := 0, locals := 0 } : Room) s m #[(.ref a0)] below meth c s₁ [] 0 0 := Stand.of_body Bd
  have e0 : s₁.heap = h0 := by rw [← hh, Bd.state]; rfl
  have N0 := Fr.nil n0
  have pre0 : ∀ t, Steps p.tables e below (s₁.setTop (mkF m 0 #[.val (.ref a0)] [])) t → Steps p.tables e below (s₁.setTop (entryFrame m #[(.ref a0)] 1)) t := fun t k => castTop (ef_5 m a0) k
  obtain ⟨T2, X2, e2, st2⟩ := getF X0 hx hZ hown (host := "") (Or.inl (hw _ (List.mem_of_getElem? (i := 16) rfl))) Via.refl e0 F_offsetCdata_a0 (g := (mkF m 1 #[.val (.ref a0)] [(.ref a0)])) rfl rfl (hb hby d5_1)
  obtain ⟨fs, hr, hrun, hended, hW, hsame⟩ := X2.leave (v := some (.int fv)) (fun h => by rw [Bd.returns] at h; cases h)
  refine ⟨_, _, pre0 _ ?_, hrun, hended, _, _, rfl, ?_, ⟨_, rfl⟩, hW, hsame.mono (by decide) (by decide)⟩
  · show own_S p e below s₁ (mkF m 0 #[.val (.ref a0)] []) _
    refine XS.aloadN X0.here hx rfl (hb hby d5_0) rfl rfl ?_
    show own_S p e below s₁ (mkF m 1 #[.val (.ref a0)] [(.ref a0)]) _
    refine st2 _ ?_
    show own_S p e below T2 (mkF m 4 #[.val (.ref a0)] [(.int fv)]) _
    exact retI X2 hx Bd.returns (hb hby d5_4) hr
  · show Q5 Z a0 fv h0 n0 _ T2.heap _
    rw [e2]
    exact ⟨rfl, N0, rfl⟩
theorem ef_6 (m : MethodId) (a0 : Addr) : entryFrame m #[(.ref a0)] 1 = mkF m 0 #[.val (.ref a0)] [] := by first | (simp [entryFrame, mkF, argsToLocals, Value.category]; done) | rfl
theorem d6_0 : decode prog_3_method_15_code 0 = .ok (.aload_n 0, 1) := by decide +kernel
theorem d6_1 : decode prog_3_method_15_code 1 = .ok (.getfield 17, 3) := by decide +kernel
theorem d6_4 : decode prog_3_method_15_code 4 = .ok (.ireturn, 1) := by decide +kernel
def Q6 (Z : State) (a0 : Addr) (fv : Int32) (h0 : Heap) (n0 : Nat) (v : Option Value) (h : Heap) (L : List Loc) : Prop := v = some (.int fv) ∧ Fr n0 L ∧ h = h0
set_option maxRecDepth 65536 in
set_option maxHeartbeats 40000000 in
theorem rm6 (l : Launch) (Z : State) (ag : Array Value) (hw : ∀ d ∈ tables_1, d.before ag Z = true) (ws : List Jvm.Cond) (a0 : Addr) (fv : Int32) (h0 : Heap) (n0 : Nat) (Z0 : n0 ≤ h0.size) (F_nc_a0 : Fld Z h0 a0 "com/example/chipmantle/chipmantle/CommandApdu" "nc" "I" (.int fv)) :
    MetFree l (⟨"com/example/chipmantle/chipmantle/CommandApdu", "nc", "()I"⟩ : MethodName) (head1 (Jvm.Cond.code (⟨"com/example/chipmantle/chipmantle/CommandApdu", "nc", "()I"⟩ : MethodName) prog_3_method_15_code 1 (some .int) :: ws) ({ frames := 0, cells := 0, slots := 0, locals := 0 } : Room)) (fun a U => a = #[(.ref a0)] ∧ Z.Warmed39 U.vm ∧ U.heap = h0) (fun _ _ _ _ _ => True) (fun _ U o U' => ∃ v L, o = .returned v ∧ Q6 Z a0 fv h0 n0 v U'.heap L ∧ FrameEnd U o U' L ({ frames := 0, cells := 0, slots := 0, locals := 0 } : Room).cells ({ frames := 0, cells := 0, slots := 0, locals := 0 } : Room).slots) := by
  refine MetFree.of_bodySF (plainFor_of_name pn_0) hisR ?_
  intro p e s m args below meth c s₁ Bd hml0 hP hK
  obtain ⟨rfl, hZ, hh⟩ := hP
  have hx := Bd.exec
  have hby := Bd.bytes
  have hml : c.maxLocals = 1 := hml0
  have hown : s.vm.findClass "com/example/chipmantle/chipmantle/CommandApdu" = some m.cls := findClass_of_methodNamed Bd.named
  have hnm := (name_of_methodNamed Bd.named Bd.method).1
  have X0 : Stand p l e ({ frames := 0, cells := 0, slots := 0, locals := 0 } : Room) s m #[(.ref a0)] below meth c s₁ [] 0 0 := Stand.of_body Bd
  have e0 : s₁.heap = h0 := by rw [← hh, Bd.state]; rfl
  have N0 := Fr.nil n0
  have pre0 : ∀ t, Steps p.tables e below (s₁.setTop (mkF m 0 #[.val (.ref a0)] [])) t → Steps p.tables e below (s₁.setTop (entryFrame m #[(.ref a0)] 1)) t := fun t k => castTop (ef_6 m a0) k
  obtain ⟨T3, X3, e3, st3⟩ := getF X0 hx hZ hown (host := "") (Or.inl (hw _ (List.mem_of_getElem? (i := 18) rfl))) Via.refl e0 F_nc_a0 (g := (mkF m 1 #[.val (.ref a0)] [(.ref a0)])) rfl rfl (hb hby d6_1)
  obtain ⟨fs, hr, hrun, hended, hW, hsame⟩ := X3.leave (v := some (.int fv)) (fun h => by rw [Bd.returns] at h; cases h)
  refine ⟨_, _, pre0 _ ?_, hrun, hended, _, _, rfl, ?_, ⟨_, rfl⟩, hW, hsame.mono (by decide) (by decide)⟩
  · show own_S p e below s₁ (mkF m 0 #[.val (.ref a0)] []) _
    refine XS.aloadN X0.here hx rfl (hb hby d6_0) rfl rfl ?_
    show own_S p e below s₁ (mkF m 1 #[.val (.ref a0)] [(.ref a0)]) _
    refine st3 _ ?_
    show own_S p e below T3 (mkF m 4 #[.val (.ref a0)] [(.int fv)]) _
    exact retI X3 hx Bd.returns (hb hby d6_4) hr
  · show Q6 Z a0 fv h0 n0 _ T3.heap _
    rw [e3]
    exact ⟨rfl, N0, rfl⟩
theorem ef_7 (m : MethodId) (a0 : Addr) : entryFrame m #[(.ref a0)] 1 = mkF m 0 #[.val (.ref a0)] [] := by first | (simp [entryFrame, mkF, argsToLocals, Value.category]; done) | rfl
theorem d7_0 : decode prog_3_method_16_code 0 = .ok (.aload_n 0, 1) := by decide +kernel
theorem d7_1 : decode prog_3_method_16_code 1 = .ok (.getfield 20, 3) := by decide +kernel
theorem d7_4 : decode prog_3_method_16_code 4 = .ok (.ireturn, 1) := by decide +kernel
def Q7 (Z : State) (a0 : Addr) (fv : Int32) (h0 : Heap) (n0 : Nat) (v : Option Value) (h : Heap) (L : List Loc) : Prop := v = some (.int fv) ∧ Fr n0 L ∧ h = h0
set_option maxRecDepth 65536 in
set_option maxHeartbeats 40000000 in
theorem rm7 (l : Launch) (Z : State) (ag : Array Value) (hw : ∀ d ∈ tables_1, d.before ag Z = true) (ws : List Jvm.Cond) (a0 : Addr) (fv : Int32) (h0 : Heap) (n0 : Nat) (Z0 : n0 ≤ h0.size) (F_ne_a0 : Fld Z h0 a0 "com/example/chipmantle/chipmantle/CommandApdu" "ne" "I" (.int fv)) :
    MetFree l (⟨"com/example/chipmantle/chipmantle/CommandApdu", "ne", "()I"⟩ : MethodName) (head1 (Jvm.Cond.code (⟨"com/example/chipmantle/chipmantle/CommandApdu", "ne", "()I"⟩ : MethodName) prog_3_method_16_code 1 (some .int) :: ws) ({ frames := 0, cells := 0, slots := 0, locals := 0 } : Room)) (fun a U => a = #[(.ref a0)] ∧ Z.Warmed39 U.vm ∧ U.heap = h0) (fun _ _ _ _ _ => True) (fun _ U o U' => ∃ v L, o = .returned v ∧ Q7 Z a0 fv h0 n0 v U'.heap L ∧ FrameEnd U o U' L ({ frames := 0, cells := 0, slots := 0, locals := 0 } : Room).cells ({ frames := 0, cells := 0, slots := 0, locals := 0 } : Room).slots) := by
  refine MetFree.of_bodySF (plainFor_of_name pn_0) hisR ?_
  intro p e s m args below meth c s₁ Bd hml0 hP hK
  obtain ⟨rfl, hZ, hh⟩ := hP
  have hx := Bd.exec
  have hby := Bd.bytes
  have hml : c.maxLocals = 1 := hml0
  have hown : s.vm.findClass "com/example/chipmantle/chipmantle/CommandApdu" = some m.cls := findClass_of_methodNamed Bd.named
  have hnm := (name_of_methodNamed Bd.named Bd.method).1
  have X0 : Stand p l e ({ frames := 0, cells := 0, slots := 0, locals := 0 } : Room) s m #[(.ref a0)] below meth c s₁ [] 0 0 := Stand.of_body Bd
  have e0 : s₁.heap = h0 := by rw [← hh, Bd.state]; rfl
  have N0 := Fr.nil n0
  have pre0 : ∀ t, Steps p.tables e below (s₁.setTop (mkF m 0 #[.val (.ref a0)] [])) t → Steps p.tables e below (s₁.setTop (entryFrame m #[(.ref a0)] 1)) t := fun t k => castTop (ef_7 m a0) k
  obtain ⟨T4, X4, e4, st4⟩ := getF X0 hx hZ hown (host := "") (Or.inl (hw _ (List.mem_of_getElem? (i := 20) rfl))) Via.refl e0 F_ne_a0 (g := (mkF m 1 #[.val (.ref a0)] [(.ref a0)])) rfl rfl (hb hby d7_1)
  obtain ⟨fs, hr, hrun, hended, hW, hsame⟩ := X4.leave (v := some (.int fv)) (fun h => by rw [Bd.returns] at h; cases h)
  refine ⟨_, _, pre0 _ ?_, hrun, hended, _, _, rfl, ?_, ⟨_, rfl⟩, hW, hsame.mono (by decide) (by decide)⟩
  · show own_S p e below s₁ (mkF m 0 #[.val (.ref a0)] []) _
    refine XS.aloadN X0.here hx rfl (hb hby d7_0) rfl rfl ?_
    show own_S p e below s₁ (mkF m 1 #[.val (.ref a0)] [(.ref a0)]) _
    refine st4 _ ?_
    show own_S p e below T4 (mkF m 4 #[.val (.ref a0)] [(.int fv)]) _
    exact retI X4 hx Bd.returns (hb hby d7_4) hr
  · show Q7 Z a0 fv h0 n0 _ T4.heap _
    rw [e4]
    exact ⟨rfl, N0, rfl⟩
theorem ef_8 (m : MethodId) (a0 : Addr) : entryFrame m #[(.ref a0)] 1 = mkF m 0 #[.val (.ref a0)] [] := by first | (simp [entryFrame, mkF, argsToLocals, Value.category]; done) | rfl
theorem d8_0 : decode prog_3_method_13_code 0 = .ok (.aload_n 0, 1) := by decide +kernel
theorem d8_1 : decode prog_3_method_13_code 1 = .ok (.getfield 13, 3) := by decide +kernel
theorem d8_4 : decode prog_3_method_13_code 4 = .ok (.bipush 7, 2) := by decide +kernel
theorem d8_6 : decode prog_3_method_13_code 6 = .ok (.if_icmp .ne 7, 3) := by decide +kernel
theorem d8_9 : decode prog_3_method_13_code 9 = .ok (.iconst 1, 1) := by decide +kernel
theorem d8_10 : decode prog_3_method_13_code 10 = .ok (.goto 4, 3) := by decide +kernel
theorem d8_13 : decode prog_3_method_13_code 13 = .ok (.iconst 0, 1) := by decide +kernel
def own_ext (fv : Int32) : Int32 := (if fv = (7 : Int32) then (1 : Int32) else (0 : Int32))
theorem d8_14 : decode prog_3_method_13_code 14 = .ok (.ireturn, 1) := by decide +kernel
def Q8 (Z : State) (a0 : Addr) (fv : Int32) (h0 : Heap) (n0 : Nat) (v : Option Value) (h : Heap) (L : List Loc) : Prop := v = some (.int (nar .boolean (own_ext fv))) ∧ Fr n0 L ∧ h = h0
set_option maxRecDepth 65536 in
set_option maxHeartbeats 40000000 in
theorem rm8 (l : Launch) (Z : State) (ag : Array Value) (hw : ∀ d ∈ tables_1, d.before ag Z = true) (ws : List Jvm.Cond) (a0 : Addr) (fv : Int32) (h0 : Heap) (n0 : Nat) (Z0 : n0 ≤ h0.size) (F_offsetCdata_a0 : Fld Z h0 a0 "com/example/chipmantle/chipmantle/CommandApdu" "offsetCdata" "I" (.int fv)) :
    MetFree l (⟨"com/example/chipmantle/chipmantle/CommandApdu", "extended", "()Z"⟩ : MethodName) (head1 (Jvm.Cond.code (⟨"com/example/chipmantle/chipmantle/CommandApdu", "extended", "()Z"⟩ : MethodName) prog_3_method_13_code 1 (some .boolean) :: ws) ({ frames := 0, cells := 0, slots := 0, locals := 0 } : Room)) (fun a U => a = #[(.ref a0)] ∧ Z.Warmed39 U.vm ∧ U.heap = h0) (fun _ _ _ _ _ => True) (fun _ U o U' => ∃ v L, o = .returned v ∧ Q8 Z a0 fv h0 n0 v U'.heap L ∧ FrameEnd U o U' L ({ frames := 0, cells := 0, slots := 0, locals := 0 } : Room).cells ({ frames := 0, cells := 0, slots := 0, locals := 0 } : Room).slots) := by
  refine MetFree.of_bodySF (plainFor_of_name pn_0) hisR ?_
  intro p e s m args below meth c s₁ Bd hml0 hP hK
  obtain ⟨rfl, hZ, hh⟩ := hP
  have hx := Bd.exec
  have hby := Bd.bytes
  have hml : c.maxLocals = 1 := hml0
  have hown : s.vm.findClass "com/example/chipmantle/chipmantle/CommandApdu" = some m.cls := findClass_of_methodNamed Bd.named
  have hnm := (name_of_methodNamed Bd.named Bd.method).1
  have X0 : Stand p l e ({ frames := 0, cells := 0, slots := 0, locals := 0 } : Room) s m #[(.ref a0)] below meth c s₁ [] 0 0 := Stand.of_body Bd
  have e0 : s₁.heap = h0 := by rw [← hh, Bd.state]; rfl
  have N0 := Fr.nil n0
  have pre0 : ∀ t, Steps p.tables e below (s₁.setTop (mkF m 0 #[.val (.ref a0)] [])) t → Steps p.tables e below (s₁.setTop (entryFrame m #[(.ref a0)] 1)) t := fun t k => castTop (ef_8 m a0) k
  obtain ⟨T5, X5, e5, st5⟩ := getF X0 hx hZ hown (host := "") (Or.inl (hw _ (List.mem_of_getElem? (i := 16) rfl))) Via.refl e0 F_offsetCdata_a0 (g := (mkF m 1 #[.val (.ref a0)] [(.ref a0)])) rfl rfl (hb hby d8_1)
  have sg7 : ∀ target, Steps p.tables e below (T5.setTop (mkF m 14 #[.val (.ref a0)] [(.int (own_ext fv))])) target → Steps p.tables e below (T5.setTop (mkF m 4 #[.val (.ref a0)] [(.int fv)])) target := by
    intro target kt
    show own_S p e below T5 (mkF m 4 #[.val (.ref a0)] [(.int fv)]) _
    refine XS.bipush X5.here hx rfl (hb hby d8_4) ?_
    by_cases hc6 : fv = (7 : Int32)
    · show own_S p e below T5 (mkF m 6 #[.val (.ref a0)] [.int 7, (.int fv)]) _
      refine XS.icmpNo X5.here hx rfl (hb hby d8_6) rfl (teq hc6).2 ?_
      show own_S p e below T5 (mkF m 9 #[.val (.ref a0)] []) _
      refine XS.iconst X5.here hx rfl (hb hby d8_9) ?_
      show own_S p e below T5 (mkF m 10 #[.val (.ref a0)] [.int 1]) _
      refine XS.goto X5.here hx rfl (pc0 := 10) (pc' := 14) rfl (hb hby d8_10) (by decide) (by decide) ?_
      show own_S p e below T5 (mkF m 14 #[.val (.ref a0)] [.int 1]) _
      have kt := own_cast (P := fun z => Steps p.tables e below (T5.setTop (mkF m 14 #[.val (.ref a0)] [(.int z)])) target) (show (own_ext fv) = (1 : Int32) from (by unfold own_ext; rw [if_pos hc6])) kt
      exact kt
    · show own_S p e below T5 (mkF m 6 #[.val (.ref a0)] [.int 7, (.int fv)]) _
      refine XS.icmpYes X5.here hx rfl (pc0 := 6) (pc' := 13) rfl (hb hby d8_6) rfl (feq hc6).2 (by decide) (by decide) ?_
      show own_S p e below T5 (mkF m 13 #[.val (.ref a0)] []) _
      refine XS.iconst X5.here hx rfl (hb hby d8_13) ?_
      show own_S p e below T5 (mkF m 14 #[.val (.ref a0)] [.int 0]) _
      have kt := own_cast (P := fun z => Steps p.tables e below (T5.setTop (mkF m 14 #[.val (.ref a0)] [(.int z)])) target) (show (own_ext fv) = (0 : Int32) from (by unfold own_ext; rw [if_neg hc6])) kt
      exact kt
  obtain ⟨fs, hr, hrun, hended, hW, hsame⟩ := X5.leave (v := some (.int (nar .boolean (own_ext fv)))) (fun h => by rw [Bd.returns] at h; cases h)
  refine ⟨_, _, pre0 _ ?_, hrun, hended, _, _, rfl, ?_, ⟨_, rfl⟩, hW, hsame.mono (by decide) (by decide)⟩
  · show own_S p e below s₁ (mkF m 0 #[.val (.ref a0)] []) _
    refine XS.aloadN X0.here hx rfl (hb hby d8_0) rfl rfl ?_
    show own_S p e below s₁ (mkF m 1 #[.val (.ref a0)] [(.ref a0)]) _
    refine st5 _ ?_
    show own_S p e below T5 (mkF m 4 #[.val (.ref a0)] [(.int fv)]) _
    refine sg7 _ ?_
    show own_S p e below T5 (mkF m 14 #[.val (.ref a0)] [(.int (own_ext fv))]) _
    exact retN X5 hx (t := .boolean) Bd.returns (by simp) (hb hby d8_14) hr
  · show Q8 Z a0 fv h0 n0 _ T5.heap _
    rw [e5]
    exact ⟨rfl, N0, rfl⟩
theorem ef_2 (m : MethodId) (a0 : Addr) (a1 : Addr) (p2 : Int32) (p3 : Int32) (p4 : Int32) : entryFrame m #[(.ref a0), (.ref a1), (.int p2), (.int p3), (.int p4)] 5 = mkF m 0 #[.val (.ref a0), .val (.ref a1), .val (.int p2), .val (.int p3), .val (.int p4)] [] := by first | (simp [entryFrame, mkF, argsToLocals, Value.category]; done) | rfl
theorem d2_0 : decode prog_3_method_1_code 0 = .ok (.aload_n 0, 1) := by decide +kernel
theorem d2_1 : decode prog_3_method_1_code 1 = .ok (.invokespecial 1, 3) := by decide +kernel
theorem d2_4 : decode prog_3_method_1_code 4 = .ok (.aload_n 0, 1) := by decide +kernel
theorem d2_5 : decode prog_3_method_1_code 5 = .ok (.aload_n 1, 1) := by decide +kernel
theorem d2_6 : decode prog_3_method_1_code 6 = .ok (.putfield 7, 3) := by decide +kernel
theorem d2_9 : decode prog_3_method_1_code 9 = .ok (.aload_n 0, 1) := by decide +kernel
theorem d2_10 : decode prog_3_method_1_code 10 = .ok (.iload_n 2, 1) := by decide +kernel
theorem d2_11 : decode prog_3_method_1_code 11 = .ok (.putfield 13, 3) := by decide +kernel
theorem d2_14 : decode prog_3_method_1_code 14 = .ok (.aload_n 0, 1) := by decide +kernel
theorem d2_15 : decode prog_3_method_1_code 15 = .ok (.iload_n 3, 1) := by decide +kernel
theorem d2_16 : decode prog_3_method_1_code 16 = .ok (.putfield 17, 3) := by decide +kernel
theorem d2_19 : decode prog_3_method_1_code 19 = .ok (.aload_n 0, 1) := by decide +kernel
theorem d2_20 : decode prog_3_method_1_code 20 = .ok (.iload 4, 2) := by decide +kernel
theorem d2_22 : decode prog_3_method_1_code 22 = .ok (.putfield 20, 3) := by decide +kernel
theorem d2_25 : decode prog_3_method_1_code 25 = .ok (.return_, 1) := by decide +kernel
def Q2 (Z : State) (a0 : Addr) (a1 : Addr) (p2 : Int32) (p3 : Int32) (p4 : Int32) (h0 : Heap) (n0 : Nat) (v : Option Value) (h : Heap) (L : List Loc) : Prop := v = none ∧ Fr n0 L ∧ Keep h0 h [a0] ∧ Fld Z h a0 "com/example/chipmantle/chipmantle/CommandApdu" "bytes" "[B" (.ref a1) ∧ Fld Z h a0 "com/example/chipmantle/chipmantle/CommandApdu" "offsetCdata" "I" (.int p2) ∧ Fld Z h a0 "com/example/chipmantle/chipmantle/CommandApdu" "nc" "I" (.int p3) ∧ Fld Z h a0 "com/example/chipmantle/chipmantle/CommandApdu" "ne" "I" (.int p4)
set_option maxRecDepth 65536 in
set_option maxHeartbeats 40000000 in
theorem rm2 (l : Launch) (Z : State) (ag : Array Value) (hw : ∀ d ∈ tables_1, d.before ag Z = true) (ws : List Jvm.Cond) (a0 : Addr) (a1 : Addr) (p2 : Int32) (p3 : Int32) (p4 : Int32) (h0 : Heap) (n0 : Nat) (Z0 : n0 ≤ h0.size) (E_a0 : Exa Z h0 a0 "com/example/chipmantle/chipmantle/CommandApdu") (ge_a0 : n0 ≤ a0) (F_bytes_a0 : Fld Z h0 a0 "com/example/chipmantle/chipmantle/CommandApdu" "bytes" "[B" .null) (F_offsetCdata_a0 : Fld Z h0 a0 "com/example/chipmantle/chipmantle/CommandApdu" "offsetCdata" "I" (.int (0 : Int32))) (F_nc_a0 : Fld Z h0 a0 "com/example/chipmantle/chipmantle/CommandApdu" "nc" "I" (.int (0 : Int32))) (F_ne_a0 : Fld Z h0 a0 "com/example/chipmantle/chipmantle/CommandApdu" "ne" "I" (.int (0 : Int32))) :
    MetFree l (⟨"com/example/chipmantle/chipmantle/CommandApdu", "<init>", "([BIII)V"⟩ : MethodName) (head1 (Jvm.Cond.code (⟨"com/example/chipmantle/chipmantle/CommandApdu", "<init>", "([BIII)V"⟩ : MethodName) prog_3_method_1_code 5 none :: ws) ({ frames := 1, cells := 0, slots := 0, locals := 12 } : Room)) (fun a U => a = #[(.ref a0), (.ref a1), (.int p2), (.int p3), (.int p4)] ∧ Z.Warmed39 U.vm ∧ U.heap = h0) (fun _ _ _ _ _ => True) (fun _ U o U' => ∃ v L, o = .returned v ∧ Q2 Z a0 a1 p2 p3 p4 h0 n0 v U'.heap L ∧ FrameEnd U o U' L ({ frames := 1, cells := 0, slots := 0, locals := 12 } : Room).cells ({ frames := 1, cells := 0, slots := 0, locals := 12 } : Room).slots) := by
  refine MetFree.of_bodySF (plainFor_of_name pn_0) hisR ?_
  intro p e s m args below meth c s₁ Bd hml0 hP hK
  obtain ⟨rfl, hZ, hh⟩ := hP
  have hx := Bd.exec
  have hby := Bd.bytes
  have hml : c.maxLocals = 5 := hml0
  have hown : s.vm.findClass "com/example/chipmantle/chipmantle/CommandApdu" = some m.cls := findClass_of_methodNamed Bd.named
  have hnm := (name_of_methodNamed Bd.named Bd.method).1
  have X0 : Stand p l e ({ frames := 1, cells := 0, slots := 0, locals := 12 } : Room) s m #[(.ref a0), (.ref a1), (.int p2), (.int p3), (.int p4)] below meth c s₁ [] 0 0 := Stand.of_body Bd
  have e0 : s₁.heap = h0 := by rw [← hh, Bd.state]; rfl
  have N0 := Fr.nil n0
  have pre0 : ∀ t, Steps p.tables e below (s₁.setTop (mkF m 0 #[.val (.ref a0), .val (.ref a1), .val (.int p2), .val (.int p3), .val (.int p4)] [])) t → Steps p.tables e below (s₁.setTop (entryFrame m #[(.ref a0), (.ref a1), (.int p2), (.int p3), (.int p4)] 5)) t := fun t k => castTop (ef_2 m a0 a1 p2 p3 p4) k
  obtain ⟨T8, X8, e8, st8⟩ := initO X0 hx hZ hown (hw _ (List.mem_of_getElem? (i := 11) rfl)) (hw _ (List.mem_of_getElem? (i := 12) rfl)) (hw _ (List.mem_of_getElem? (i := 13) rfl)) e0 (g := (mkF m 1 #[.val (.ref a0), .val (.ref a1), .val (.int p2), .val (.int p3), .val (.int p4)] [(.ref a0)])) rfl (by rw [hml]; rfl) rfl (hb hby d2_1) (by decide) (W := 0) (by show 2 * 0 + _ ≤ _; exact Nat.le_of_eq rfl) (by decide)
  obtain ⟨T9, h9, X9, e9, W9, st9⟩ := putF X8 hx hZ hown (host := "") (Or.inl (hw _ (List.mem_of_getElem? (i := 14) rfl))) Via.refl e8 F_bytes_a0 E_a0 (Or.inr ⟨(hw _ (List.mem_of_getElem? (i := 15) rfl)), rfl, hnm⟩) (hw _ (List.mem_of_getElem? (i := 7) rfl)) (ty := (.array .byte)) (by decide) rfl rfl (g := (mkF m 6 #[.val (.ref a0), .val (.ref a1), .val (.int p2), .val (.int p3), .val (.int p4)] [(.ref a1), (.ref a0)])) rfl rfl (hb hby d2_6)
  have Fw9 := F_bytes_a0.same W9
  have x10 := E_a0.wr W9
  have x11 := F_offsetCdata_a0.other W9 (Or.inr (slot_ne (Or.inr (hw _ (List.mem_of_getElem? (i := 17) rfl))) (Or.inr (hw _ (List.mem_of_getElem? (i := 15) rfl))) (by decide) (t := .int) (t' := (.array .byte)) (by decide) (by decide)))
  have x12 := F_nc_a0.other W9 (Or.inr (slot_ne (Or.inr (hw _ (List.mem_of_getElem? (i := 19) rfl))) (Or.inr (hw _ (List.mem_of_getElem? (i := 15) rfl))) (by decide) (t := .int) (t' := (.array .byte)) (by decide) (by decide)))
  have x13 := F_ne_a0.other W9 (Or.inr (slot_ne (Or.inr (hw _ (List.mem_of_getElem? (i := 21) rfl))) (Or.inr (hw _ (List.mem_of_getElem? (i := 15) rfl))) (by decide) (t := .int) (t' := (.array .byte)) (by decide) (by decide)))
  have sz14 : n0 ≤ h9.size := Nat.le_trans Z0 (Keep.of_wr W9).1
  have kp15 : Keep h0 h9 [a0] := (Keep.refl h0 [a0]).wr W9 (Or.inl (List.mem_of_getElem? (i := 0) rfl))
  have N9 := Fr.snoc X9 N0 ge_a0
  obtain ⟨T16, h16, X16, e16, W16, st16⟩ := putF X9 hx hZ hown (host := "") (Or.inl (hw _ (List.mem_of_getElem? (i := 16) rfl))) Via.refl e9 x11 x10 (Or.inr ⟨(hw _ (List.mem_of_getElem? (i := 17) rfl)), rfl, hnm⟩) (hw _ (List.mem_of_getElem? (i := 7) rfl)) (ty := .int) (by decide) rfl rfl (g := (mkF m 11 #[.val (.ref a0), .val (.ref a1), .val (.int p2), .val (.int p3), .val (.int p4)] [(.int p2), (.ref a0)])) rfl rfl (hb hby d2_11)
  have Fw16 := x11.same W16
  have x17 := x10.wr W16
  have x18 := x12.other W16 (Or.inr (slot_ne (Or.inr (hw _ (List.mem_of_getElem? (i := 19) rfl))) (Or.inr (hw _ (List.mem_of_getElem? (i := 17) rfl))) (by decide) (t := .int) (t' := .int) (by decide) (by decide)))
  have x19 := x13.other W16 (Or.inr (slot_ne (Or.inr (hw _ (List.mem_of_getElem? (i := 21) rfl))) (Or.inr (hw _ (List.mem_of_getElem? (i := 17) rfl))) (by decide) (t := .int) (t' := .int) (by decide) (by decide)))
  have x20 := Fw9.other W16 (Or.inr (slot_ne (Or.inr (hw _ (List.mem_of_getElem? (i := 15) rfl))) (Or.inr (hw _ (List.mem_of_getElem? (i := 17) rfl))) (by decide) (t := (.array .byte)) (t' := .int) (by decide) (by decide)))
  have sz21 : n0 ≤ h16.size := Nat.le_trans sz14 (Keep.of_wr W16).1
  have kp22 : Keep h0 h16 [a0] := kp15.wr W16 (Or.inl (List.mem_of_getElem? (i := 0) rfl))
  have N16 := Fr.snoc X16 N9 ge_a0
  obtain ⟨T23, h23, X23, e23, W23, st23⟩ := putF X16 hx hZ hown (host := "") (Or.inl (hw _ (List.mem_of_getElem? (i := 18) rfl))) Via.refl e16 x18 x17 (Or.inr ⟨(hw _ (List.mem_of_getElem? (i := 19) rfl)), rfl, hnm⟩) (hw _ (List.mem_of_getElem? (i := 7) rfl)) (ty := .int) (by decide) rfl rfl (g := (mkF m 16 #[.val (.ref a0), .val (.ref a1), .val (.int p2), .val (.int p3), .val (.int p4)] [(.int p3), (.ref a0)])) rfl rfl (hb hby d2_16)
  have Fw23 := x18.same W23
  have x24 := x17.wr W23
  have x25 := x19.other W23 (Or.inr (slot_ne (Or.inr (hw _ (List.mem_of_getElem? (i := 21) rfl))) (Or.inr (hw _ (List.mem_of_getElem? (i := 19) rfl))) (by decide) (t := .int) (t' := .int) (by decide) (by decide)))
  have x26 := x20.other W23 (Or.inr (slot_ne (Or.inr (hw _ (List.mem_of_getElem? (i := 15) rfl))) (Or.inr (hw _ (List.mem_of_getElem? (i := 19) rfl))) (by decide) (t := (.array .byte)) (t' := .int) (by decide) (by decide)))
  have x27 := Fw16.other W23 (Or.inr (slot_ne (Or.inr (hw _ (List.mem_of_getElem? (i := 17) rfl))) (Or.inr (hw _ (List.mem_of_getElem? (i := 19) rfl))) (by decide) (t := .int) (t' := .int) (by decide) (by decide)))
  have sz28 : n0 ≤ h23.size := Nat.le_trans sz21 (Keep.of_wr W23).1
  have kp29 : Keep h0 h23 [a0] := kp22.wr W23 (Or.inl (List.mem_of_getElem? (i := 0) rfl))
  have N23 := Fr.snoc X23 N16 ge_a0
  obtain ⟨T30, h30, X30, e30, W30, st30⟩ := putF X23 hx hZ hown (host := "") (Or.inl (hw _ (List.mem_of_getElem? (i := 20) rfl))) Via.refl e23 x25 x24 (Or.inr ⟨(hw _ (List.mem_of_getElem? (i := 21) rfl)), rfl, hnm⟩) (hw _ (List.mem_of_getElem? (i := 7) rfl)) (ty := .int) (by decide) rfl rfl (g := (mkF m 22 #[.val (.ref a0), .val (.ref a1), .val (.int p2), .val (.int p3), .val (.int p4)] [(.int p4), (.ref a0)])) rfl rfl (hb hby d2_22)
  have Fw30 := x25.same W30
  have x31 := x24.wr W30
  have x32 := x26.other W30 (Or.inr (slot_ne (Or.inr (hw _ (List.mem_of_getElem? (i := 15) rfl))) (Or.inr (hw _ (List.mem_of_getElem? (i := 21) rfl))) (by decide) (t := (.array .byte)) (t' := .int) (by decide) (by decide)))
  have x33 := x27.other W30 (Or.inr (slot_ne (Or.inr (hw _ (List.mem_of_getElem? (i := 17) rfl))) (Or.inr (hw _ (List.mem_of_getElem? (i := 21) rfl))) (by decide) (t := .int) (t' := .int) (by decide) (by decide)))
  have x34 := Fw23.other W30 (Or.inr (slot_ne (Or.inr (hw _ (List.mem_of_getElem? (i := 19) rfl))) (Or.inr (hw _ (List.mem_of_getElem? (i := 21) rfl))) (by decide) (t := .int) (t' := .int) (by decide) (by decide)))
  have sz35 : n0 ≤ h30.size := Nat.le_trans sz28 (Keep.of_wr W30).1
  have kp36 : Keep h0 h30 [a0] := kp29.wr W30 (Or.inl (List.mem_of_getElem? (i := 0) rfl))
  have N30 := Fr.snoc X30 N23 ge_a0
  obtain ⟨fs, hr, hrun, hended, hW, hsame⟩ := X30.leave (v := none) (fun _ => rfl)
  refine ⟨_, _, pre0 _ ?_, hrun, hended, _, _, rfl, ?_, ⟨_, rfl⟩, hW, hsame.mono (by decide) (by decide)⟩
  · show own_S p e below s₁ (mkF m 0 #[.val (.ref a0), .val (.ref a1), .val (.int p2), .val (.int p3), .val (.int p4)] []) _
    refine XS.aloadN X0.here hx rfl (hb hby d2_0) rfl rfl ?_
    show own_S p e below s₁ (mkF m 1 #[.val (.ref a0), .val (.ref a1), .val (.int p2), .val (.int p3), .val (.int p4)] [(.ref a0)]) _
    refine st8 _ ?_
    show own_S p e below T8 (mkF m 4 #[.val (.ref a0), .val (.ref a1), .val (.int p2), .val (.int p3), .val (.int p4)] []) _
    refine XS.aloadN X8.here hx rfl (hb hby d2_4) rfl rfl ?_
    show own_S p e below T8 (mkF m 5 #[.val (.ref a0), .val (.ref a1), .val (.int p2), .val (.int p3), .val (.int p4)] [(.ref a0)]) _
    refine XS.aloadN X8.here hx rfl (hb hby d2_5) rfl rfl ?_
    show own_S p e below T8 (mkF m 6 #[.val (.ref a0), .val (.ref a1), .val (.int p2), .val (.int p3), .val (.int p4)] [(.ref a1), (.ref a0)]) _
    refine st9 _ ?_
    show own_S p e below T9 (mkF m 9 #[.val (.ref a0), .val (.ref a1), .val (.int p2), .val (.int p3), .val (.int p4)] []) _
    refine XS.aloadN X9.here hx rfl (hb hby d2_9) rfl rfl ?_
    show own_S p e below T9 (mkF m 10 #[.val (.ref a0), .val (.ref a1), .val (.int p2), .val (.int p3), .val (.int p4)] [(.ref a0)]) _
    refine XS.iloadN X9.here hx rfl (hb hby d2_10) rfl ?_
    show own_S p e below T9 (mkF m 11 #[.val (.ref a0), .val (.ref a1), .val (.int p2), .val (.int p3), .val (.int p4)] [(.int p2), (.ref a0)]) _
    refine st16 _ ?_
    show own_S p e below T16 (mkF m 14 #[.val (.ref a0), .val (.ref a1), .val (.int p2), .val (.int p3), .val (.int p4)] []) _
    refine XS.aloadN X16.here hx rfl (hb hby d2_14) rfl rfl ?_
    show own_S p e below T16 (mkF m 15 #[.val (.ref a0), .val (.ref a1), .val (.int p2), .val (.int p3), .val (.int p4)] [(.ref a0)]) _
    refine XS.iloadN X16.here hx rfl (hb hby d2_15) rfl ?_
    show own_S p e below T16 (mkF m 16 #[.val (.ref a0), .val (.ref a1), .val (.int p2), .val (.int p3), .val (.int p4)] [(.int p3), (.ref a0)]) _
    refine st23 _ ?_
    show own_S p e below T23 (mkF m 19 #[.val (.ref a0), .val (.ref a1), .val (.int p2), .val (.int p3), .val (.int p4)] []) _
    refine XS.aloadN X23.here hx rfl (hb hby d2_19) rfl rfl ?_
    show own_S p e below T23 (mkF m 20 #[.val (.ref a0), .val (.ref a1), .val (.int p2), .val (.int p3), .val (.int p4)] [(.ref a0)]) _
    refine XS.iload X23.here hx rfl (hb hby d2_20) rfl ?_
    show own_S p e below T23 (mkF m 22 #[.val (.ref a0), .val (.ref a1), .val (.int p2), .val (.int p3), .val (.int p4)] [(.int p4), (.ref a0)]) _
    refine st30 _ ?_
    show own_S p e below T30 (mkF m 25 #[.val (.ref a0), .val (.ref a1), .val (.int p2), .val (.int p3), .val (.int p4)] []) _
    exact X30.returnOut hx Bd.returns (hb hby d2_25) hr
  · show Q2 Z a0 a1 p2 p3 p4 h0 n0 _ T30.heap _
    rw [e30]
    exact ⟨rfl, N30, kp36, x32, x33, x34, Fw30⟩
theorem ef_9_vv1 (m : MethodId) (a0 : Addr) (p1 : Int32) : entryFrame m #[(.ref a0), (.int p1), (.int (1 : Int32))] 5 = mkF m 0 #[.val (.ref a0), .val (.int p1), .val (.int 1), .unset, .unset] [] := by first | (simp [entryFrame, mkF, argsToLocals, Value.category]; done) | rfl
theorem d9_0 : decode prog_3_method_5_code 0 = .ok (.iconst 0, 1) := by decide +kernel
theorem d9_1 : decode prog_3_method_5_code 1 = .ok (.istore_n 3, 1) := by decide +kernel
theorem d9_2 : decode prog_3_method_5_code 2 = .ok (.iload_n 1, 1) := by decide +kernel
theorem d9_3 : decode prog_3_method_5_code 3 = .ok (.istore 4, 2) := by decide +kernel
theorem d9_5 : decode prog_3_method_5_code 5 = .ok (.iload 4, 2) := by decide +kernel
theorem d9_7 : decode prog_3_method_5_code 7 = .ok (.iload_n 1, 1) := by decide +kernel
theorem d9_8 : decode prog_3_method_5_code 8 = .ok (.iload_n 2, 1) := by decide +kernel
theorem d9_9 : decode prog_3_method_5_code 9 = .ok (.iadd, 1) := by decide +kernel
theorem d9_10 : decode prog_3_method_5_code 10 = .ok (.if_icmp .ge 23, 3) := by decide +kernel
theorem d9_13 : decode prog_3_method_5_code 13 = .ok (.iload_n 3, 1) := by decide +kernel
theorem d9_14 : decode prog_3_method_5_code 14 = .ok (.bipush 8, 2) := by decide +kernel
theorem d9_16 : decode prog_3_method_5_code 16 = .ok (.ishl, 1) := by decide +kernel
theorem d9_17 : decode prog_3_method_5_code 17 = .ok (.aload_n 0, 1) := by decide +kernel
theorem d9_18 : decode prog_3_method_5_code 18 = .ok (.iload 4, 2) := by decide +kernel
theorem d9_20 : decode prog_3_method_5_code 20 = .ok (.baload, 1) := by decide +kernel
theorem d9_21 : decode prog_3_method_5_code 21 = .ok (.sipush 255, 3) := by decide +kernel
theorem d9_24 : decode prog_3_method_5_code 24 = .ok (.iand, 1) := by decide +kernel
theorem d9_25 : decode prog_3_method_5_code 25 = .ok (.ior, 1) := by decide +kernel
theorem d9_26 : decode prog_3_method_5_code 26 = .ok (.istore_n 3, 1) := by decide +kernel
abbrev own_loc1 (a0 : Addr) (p1 : Int32) (vs : List Value) : Array Slot := #[.val (.ref a0), .val (.int p1), .val (.int 1), .val (.int (((0 : Int32) <<< ((8 : Int32) &&& 31)) ||| ((own_el vs p1) &&& (255 : Int32)))), .val (.int p1)]
theorem d9_27 : decode prog_3_method_5_code 27 = .ok (.iinc 4 1, 3) := by decide +kernel
abbrev own_loc2 (a0 : Addr) (p1 : Int32) (vs : List Value) : Array Slot := #[.val (.ref a0), .val (.int p1), .val (.int 1), .val (.int (((0 : Int32) <<< ((8 : Int32) &&& 31)) ||| ((own_el vs p1) &&& (255 : Int32)))), .val (.int (p1 + (1 : Int32)))]
theorem d9_30 : decode prog_3_method_5_code 30 = .ok (.goto (-25), 3) := by decide +kernel
theorem d9_33 : decode prog_3_method_5_code 33 = .ok (.iload_n 3, 1) := by decide +kernel
theorem d9_34 : decode prog_3_method_5_code 34 = .ok (.ireturn, 1) := by decide +kernel
def Q9_1 (Z : State) (a0 : Addr) (p1 : Int32) (k : ClassId) (len : Int32) (vs : List Value) (h0 : Heap) (n0 : Nat) (v : Option Value) (h : Heap) (L : List Loc) : Prop := v = some (.int (((0 : Int32) <<< ((8 : Int32) &&& 31)) ||| ((own_el vs p1) &&& (255 : Int32)))) ∧ Fr n0 L ∧ h = h0
set_option maxRecDepth 65536 in
set_option maxHeartbeats 40000000 in
theorem rm9_1 (l : Launch) (Z : State) (ag : Array Value) (hw : ∀ d ∈ tables_1, d.before ag Z = true) (ws : List Jvm.Cond) (a0 : Addr) (p1 : Int32) (k : ClassId) (len : Int32) (vs : List Value) (h0 : Heap) (n0 : Nat) (Z0 : n0 ≤ h0.size) (V_a0 : Arv Z h0 a0 k .byte len vs (.int (0 : Int32))) (hl4 : 4 ≤ len.toInt) (hlm : len.toInt ≤ 65545) (h0_ : 0 ≤ p1.toInt) (h1_ : p1.toInt + 1 ≤ len.toInt) :
    MetFree l (⟨"com/example/chipmantle/chipmantle/CommandApdu", "field", "([BII)I"⟩ : MethodName) (head1 (Jvm.Cond.code (⟨"com/example/chipmantle/chipmantle/CommandApdu", "field", "([BII)I"⟩ : MethodName) prog_3_method_5_code 5 (some .int) :: ws) ({ frames := 0, cells := 0, slots := 0, locals := 0 } : Room)) (fun a U => a = #[(.ref a0), (.int p1), (.int (1 : Int32))] ∧ Z.Warmed39 U.vm ∧ U.heap = h0) (fun _ _ _ _ _ => True) (fun _ U o U' => ∃ v L, o = .returned v ∧ Q9_1 Z a0 p1 k len vs h0 n0 v U'.heap L ∧ FrameEnd U o U' L ({ frames := 0, cells := 0, slots := 0, locals := 0 } : Room).cells ({ frames := 0, cells := 0, slots := 0, locals := 0 } : Room).slots) := by
  refine MetFree.of_bodySF (plainFor_of_name pn_0) hisR ?_
  intro p e s m args below meth c s₁ Bd hml0 hP hK
  obtain ⟨rfl, hZ, hh⟩ := hP
  have hx := Bd.exec
  have hby := Bd.bytes
  have hml : c.maxLocals = 5 := hml0
  have hown : s.vm.findClass "com/example/chipmantle/chipmantle/CommandApdu" = some m.cls := findClass_of_methodNamed Bd.named
  have hnm := (name_of_methodNamed Bd.named Bd.method).1
  have X0 : Stand p l e ({ frames := 0, cells := 0, slots := 0, locals := 0 } : Room) s m #[(.ref a0), (.int p1), (.int (1 : Int32))] below meth c s₁ [] 0 0 := Stand.of_body Bd
  have e0 : s₁.heap = h0 := by rw [← hh, Bd.state]; rfl
  have N0 := Fr.nil n0
  have pre0 : ∀ t, Steps p.tables e below (s₁.setTop (mkF m 0 #[.val (.ref a0), .val (.int p1), .val (.int 1), .unset, .unset] [])) t → Steps p.tables e below (s₁.setTop (entryFrame m #[(.ref a0), (.int p1), (.int (1 : Int32))] 5)) t := fun t k => castTop (ef_9_vv1 m a0 p1) k
  obtain ⟨cl37, Ar37, q37, S37, M37, H37, G37⟩ := id V_a0
  have hin37 : ¬ (p1 < 0 ∨ cl37.slots.size ≤ (p1).toNatClampNeg) := inb_of S37 (own_fi1_0 p1 len h0_ h1_ hlm)
  have hat37 : cl37.slots[(p1).toNatClampNeg]? = some (.int (own_el vs p1)) := Has.at H37 hin37 (own_el_at (G37 _ (Nat.lt_of_not_le fun y => hin37 (Or.inr y))))
  have ld37 := X0.baloadBytes hx (j := p1) (v := (.int (own_el vs p1))) (by rw [e0]; exact Ar37.1) (State.isArrayOf_alike hZ.alike Ar37.2.1) Ar37.2.2 hin37 hat37 (g := (mkF m 20 #[.val (.ref a0), .val (.int p1), .val (.int 1), .val (.int 0), .val (.int p1)] [(.int p1), (.ref a0), (.int ((0 : Int32) <<< ((8 : Int32) &&& 31)))])) rfl rfl (hb hby d9_20)
  obtain ⟨fs, hr, hrun, hended, hW, hsame⟩ := X0.leave (v := some (.int (((0 : Int32) <<< ((8 : Int32) &&& 31)) ||| ((own_el vs p1) &&& (255 : Int32))))) (fun h => by rw [Bd.returns] at h; cases h)
  refine ⟨_, _, pre0 _ ?_, hrun, hended, _, _, rfl, ?_, ⟨_, rfl⟩, hW, hsame.mono (by decide) (by decide)⟩
  · show own_S p e below s₁ (mkF m 0 #[.val (.ref a0), .val (.int p1), .val (.int 1), .unset, .unset] []) _
    refine XS.iconst X0.here hx rfl (hb hby d9_0) ?_
    show own_S p e below s₁ (mkF m 1 #[.val (.ref a0), .val (.int p1), .val (.int 1), .unset, .unset] [.int 0]) _
    refine XS.istoreN X0.here hx rfl (hb hby d9_1) rfl (l' := #[.val (.ref a0), .val (.int p1), .val (.int 1), .val (.int 0), .unset]) rfl ?_
    show own_S p e below s₁ (mkF m 2 #[.val (.ref a0), .val (.int p1), .val (.int 1), .val (.int 0), .unset] []) _
    refine XS.iloadN X0.here hx rfl (hb hby d9_2) rfl ?_
    show own_S p e below s₁ (mkF m 3 #[.val (.ref a0), .val (.int p1), .val (.int 1), .val (.int 0), .unset] [(.int p1)]) _
    refine XS.istore X0.here hx rfl (hb hby d9_3) rfl (l' := #[.val (.ref a0), .val (.int p1), .val (.int 1), .val (.int 0), .val (.int p1)]) rfl ?_
    show own_S p e below s₁ (mkF m 5 #[.val (.ref a0), .val (.int p1), .val (.int 1), .val (.int 0), .val (.int p1)] []) _
    refine XS.iload X0.here hx rfl (hb hby d9_5) rfl ?_
    show own_S p e below s₁ (mkF m 7 #[.val (.ref a0), .val (.int p1), .val (.int 1), .val (.int 0), .val (.int p1)] [(.int p1)]) _
    refine XS.iloadN X0.here hx rfl (hb hby d9_7) rfl ?_
    show own_S p e below s₁ (mkF m 8 #[.val (.ref a0), .val (.int p1), .val (.int 1), .val (.int 0), .val (.int p1)] [(.int p1), (.int p1)]) _
    refine XS.iloadN X0.here hx rfl (hb hby d9_8) rfl ?_
    show own_S p e below s₁ (mkF m 9 #[.val (.ref a0), .val (.int p1), .val (.int 1), .val (.int 0), .val (.int p1)] [.int 1, (.int p1), (.int p1)]) _
    refine XS.iadd X0.here hx rfl (hb hby d9_9) rfl ?_
    show own_S p e below s₁ (mkF m 10 #[.val (.ref a0), .val (.int p1), .val (.int 1), .val (.int 0), .val (.int p1)] [(.int (p1 + (1 : Int32))), (.int p1)]) _
    refine XS.icmpNo X0.here hx rfl (hb hby d9_10) rfl (tlt (show p1 < (p1 + (1 : Int32)) from own_fl1_0 p1 len h0_ h1_ hlm)).2.1 ?_
    show own_S p e below s₁ (mkF m 13 #[.val (.ref a0), .val (.int p1), .val (.int 1), .val (.int 0), .val (.int p1)] []) _
    refine XS.iloadN X0.here hx rfl (hb hby d9_13) rfl ?_
    show own_S p e below s₁ (mkF m 14 #[.val (.ref a0), .val (.int p1), .val (.int 1), .val (.int 0), .val (.int p1)] [.int 0]) _
    refine XS.bipush X0.here hx rfl (hb hby d9_14) ?_
    show own_S p e below s₁ (mkF m 16 #[.val (.ref a0), .val (.int p1), .val (.int 1), .val (.int 0), .val (.int p1)] [.int 8, .int 0]) _
    refine XS.ishl X0.here hx rfl (hb hby d9_16) rfl ?_
    show own_S p e below s₁ (mkF m 17 #[.val (.ref a0), .val (.int p1), .val (.int 1), .val (.int 0), .val (.int p1)] [(.int ((0 : Int32) <<< ((8 : Int32) &&& 31)))]) _
    refine XS.aloadN X0.here hx rfl (hb hby d9_17) rfl rfl ?_
    show own_S p e below s₁ (mkF m 18 #[.val (.ref a0), .val (.int p1), .val (.int 1), .val (.int 0), .val (.int p1)] [(.ref a0), (.int ((0 : Int32) <<< ((8 : Int32) &&& 31)))]) _
    refine XS.iload X0.here hx rfl (hb hby d9_18) rfl ?_
    show own_S p e below s₁ (mkF m 20 #[.val (.ref a0), .val (.int p1), .val (.int 1), .val (.int 0), .val (.int p1)] [(.int p1), (.ref a0), (.int ((0 : Int32) <<< ((8 : Int32) &&& 31)))]) _
    refine ld37 _ ?_
    show own_S p e below s₁ (mkF m 21 #[.val (.ref a0), .val (.int p1), .val (.int 1), .val (.int 0), .val (.int p1)] [(.int (own_el vs p1)), (.int ((0 : Int32) <<< ((8 : Int32) &&& 31)))]) _
    refine XS.sipush X0.here hx rfl (hb hby d9_21) ?_
    show own_S p e below s₁ (mkF m 24 #[.val (.ref a0), .val (.int p1), .val (.int 1), .val (.int 0), .val (.int p1)] [.int 255, (.int (own_el vs p1)), (.int ((0 : Int32) <<< ((8 : Int32) &&& 31)))]) _
    refine XS.iand X0.here hx rfl (hb hby d9_24) rfl ?_
    show own_S p e below s₁ (mkF m 25 #[.val (.ref a0), .val (.int p1), .val (.int 1), .val (.int 0), .val (.int p1)] [(.int ((own_el vs p1) &&& (255 : Int32))), (.int ((0 : Int32) <<< ((8 : Int32) &&& 31)))]) _
    refine XS.ior X0.here hx rfl (hb hby d9_25) rfl ?_
    show own_S p e below s₁ (mkF m 26 #[.val (.ref a0), .val (.int p1), .val (.int 1), .val (.int 0), .val (.int p1)] [(.int (((0 : Int32) <<< ((8 : Int32) &&& 31)) ||| ((own_el vs p1) &&& (255 : Int32))))]) _
    refine XS.istoreN X0.here hx rfl (hb hby d9_26) rfl (l' := (own_loc1 a0 p1 vs)) rfl ?_
    show own_S p e below s₁ (mkF m 27 (own_loc1 a0 p1 vs) []) _
    refine XS.iinc X0.here hx rfl (hb hby d9_27) rfl (l' := (own_loc2 a0 p1 vs)) rfl ?_
    show own_S p e below s₁ (mkF m 30 (own_loc2 a0 p1 vs) []) _
    refine XS.goto X0.here hx rfl (pc0 := 30) (pc' := 5) rfl (hb hby d9_30) (by decide) (by decide) ?_
    show own_S p e below s₁ (mkF m 5 (own_loc2 a0 p1 vs) []) _
    refine XS.iload X0.here hx rfl (hb hby d9_5) rfl ?_
    show own_S p e below s₁ (mkF m 7 (own_loc2 a0 p1 vs) [(.int (p1 + (1 : Int32)))]) _
    refine XS.iloadN X0.here hx rfl (hb hby d9_7) rfl ?_
    show own_S p e below s₁ (mkF m 8 (own_loc2 a0 p1 vs) [(.int p1), (.int (p1 + (1 : Int32)))]) _
    refine XS.iloadN X0.here hx rfl (hb hby d9_8) rfl ?_
    show own_S p e below s₁ (mkF m 9 (own_loc2 a0 p1 vs) [.int 1, (.int p1), (.int (p1 + (1 : Int32)))]) _
    refine XS.iadd X0.here hx rfl (hb hby d9_9) rfl ?_
    show own_S p e below s₁ (mkF m 10 (own_loc2 a0 p1 vs) [(.int (p1 + (1 : Int32))), (.int (p1 + (1 : Int32)))]) _
    refine XS.icmpYes X0.here hx rfl (pc0 := 10) (pc' := 33) rfl (hb hby d9_10) rfl (flt (show ¬ ((p1 + (1 : Int32)) < (p1 + (1 : Int32))) from own_fl1_1 p1 len h0_ h1_ hlm)).2.1 (by decide) (by decide) ?_
    show own_S p e below s₁ (mkF m 33 (own_loc2 a0 p1 vs) []) _
    refine XS.iloadN X0.here hx rfl (hb hby d9_33) rfl ?_
    show own_S p e below s₁ (mkF m 34 (own_loc2 a0 p1 vs) [(.int (((0 : Int32) <<< ((8 : Int32) &&& 31)) ||| ((own_el vs p1) &&& (255 : Int32))))]) _
    exact retI X0 hx Bd.returns (hb hby d9_34) hr
  · show Q9_1 Z a0 p1 k len vs h0 n0 _ s₁.heap _
    rw [e0]
    exact ⟨rfl, N0, rfl⟩
def own_field1 (len : Int32) (vs : List Value) (p1 : Int32) : Int32 := (((0 : Int32) <<< ((8 : Int32) &&& 31)) ||| ((own_el vs p1) &&& (255 : Int32)))
theorem ef_9_vv2 (m : MethodId) (a0 : Addr) (p1 : Int32) : entryFrame m #[(.ref a0), (.int p1), (.int (2 : Int32))] 5 = mkF m 0 #[.val (.ref a0), .val (.int p1), .val (.int 2), .unset, .unset] [] := by first | (simp [entryFrame, mkF, argsToLocals, Value.category]; done) | rfl
abbrev own_loc3 (a0 : Addr) (p1 : Int32) (vs : List Value) : Array Slot := #[.val (.ref a0), .val (.int p1), .val (.int 2), .val (.int (((0 : Int32) <<< ((8 : Int32) &&& 31)) ||| ((own_el vs p1) &&& (255 : Int32)))), .val (.int p1)]
abbrev own_loc4 (a0 : Addr) (p1 : Int32) (vs : List Value) : Array Slot := #[.val (.ref a0), .val (.int p1), .val (.int 2), .val (.int (((0 : Int32) <<< ((8 : Int32) &&& 31)) ||| ((own_el vs p1) &&& (255 : Int32)))), .val (.int (p1 + (1 : Int32)))]
abbrev own_loc5 (a0 : Addr) (p1 : Int32) (vs : List Value) : Array Slot := #[.val (.ref a0), .val (.int p1), .val (.int 2), .val (.int (((((0 : Int32) <<< ((8 : Int32) &&& 31)) ||| ((own_el vs p1) &&& (255 : Int32))) <<< ((8 : Int32) &&& 31)) ||| ((own_el vs (p1 + (1 : Int32))) &&& (255 : Int32)))), .val (.int (p1 + (1 : Int32)))]
abbrev own_loc6 (a0 : Addr) (p1 : Int32) (vs : List Value) : Array Slot := #[.val (.ref a0), .val (.int p1), .val (.int 2), .val (.int (((((0 : Int32) <<< ((8 : Int32) &&& 31)) ||| ((own_el vs p1) &&& (255 : Int32))) <<< ((8 : Int32) &&& 31)) ||| ((own_el vs (p1 + (1 : Int32))) &&& (255 : Int32)))), .val (.int ((p1 + (1 : Int32)) + (1 : Int32)))]
def Q9_2 (Z : State) (a0 : Addr) (p1 : Int32) (k : ClassId) (len : Int32) (vs : List Value) (h0 : Heap) (n0 : Nat) (v : Option Value) (h : Heap) (L : List Loc) : Prop := v = some (.int (((((0 : Int32) <<< ((8 : Int32) &&& 31)) ||| ((own_el vs p1) &&& (255 : Int32))) <<< ((8 : Int32) &&& 31)) ||| ((own_el vs (p1 + (1 : Int32))) &&& (255 : Int32)))) ∧ Fr n0 L ∧ h = h0
set_option maxRecDepth 65536 in
set_option maxHeartbeats 40000000 in
theorem rm9_2 (l : Launch) (Z : State) (ag : Array Value) (hw : ∀ d ∈ tables_1, d.before ag Z = true) (ws : List Jvm.Cond) (a0 : Addr) (p1 : Int32) (k : ClassId) (len : Int32) (vs : List Value) (h0 : Heap) (n0 : Nat) (Z0 : n0 ≤ h0.size) (V_a0 : Arv Z h0 a0 k .byte len vs (.int (0 : Int32))) (hl4 : 4 ≤ len.toInt) (hlm : len.toInt ≤ 65545) (h0_ : 0 ≤ p1.toInt) (h1_ : p1.toInt + 2 ≤ len.toInt) :
    MetFree l (⟨"com/example/chipmantle/chipmantle/CommandApdu", "field", "([BII)I"⟩ : MethodName) (head1 (Jvm.Cond.code (⟨"com/example/chipmantle/chipmantle/CommandApdu", "field", "([BII)I"⟩ : MethodName) prog_3_method_5_code 5 (some .int) :: ws) ({ frames := 0, cells := 0, slots := 0, locals := 0 } : Room)) (fun a U => a = #[(.ref a0), (.int p1), (.int (2 : Int32))] ∧ Z.Warmed39 U.vm ∧ U.heap = h0) (fun _ _ _ _ _ => True) (fun _ U o U' => ∃ v L, o = .returned v ∧ Q9_2 Z a0 p1 k len vs h0 n0 v U'.heap L ∧ FrameEnd U o U' L ({ frames := 0, cells := 0, slots := 0, locals := 0 } : Room).cells ({ frames := 0, cells := 0, slots := 0, locals := 0 } : Room).slots) := by
  refine MetFree.of_bodySF (plainFor_of_name pn_0) hisR ?_
  intro p e s m args below meth c s₁ Bd hml0 hP hK
  obtain ⟨rfl, hZ, hh⟩ := hP
  have hx := Bd.exec
  have hby := Bd.bytes
  have hml : c.maxLocals = 5 := hml0
  have hown : s.vm.findClass "com/example/chipmantle/chipmantle/CommandApdu" = some m.cls := findClass_of_methodNamed Bd.named
  have hnm := (name_of_methodNamed Bd.named Bd.method).1
  have X0 : Stand p l e ({ frames := 0, cells := 0, slots := 0, locals := 0 } : Room) s m #[(.ref a0), (.int p1), (.int (2 : Int32))] below meth c s₁ [] 0 0 := Stand.of_body Bd
  have e0 : s₁.heap = h0 := by rw [← hh, Bd.state]; rfl
  have N0 := Fr.nil n0
  have pre0 : ∀ t, Steps p.tables e below (s₁.setTop (mkF m 0 #[.val (.ref a0), .val (.int p1), .val (.int 2), .unset, .unset] [])) t → Steps p.tables e below (s₁.setTop (entryFrame m #[(.ref a0), (.int p1), (.int (2 : Int32))] 5)) t := fun t k => castTop (ef_9_vv2 m a0 p1) k
  obtain ⟨cl38, Ar38, q38, S38, M38, H38, G38⟩ := id V_a0
  have hin38 : ¬ (p1 < 0 ∨ cl38.slots.size ≤ (p1).toNatClampNeg) := inb_of S38 (own_fi2_0 p1 len h0_ h1_ hlm)
  have hat38 : cl38.slots[(p1).toNatClampNeg]? = some (.int (own_el vs p1)) := Has.at H38 hin38 (own_el_at (G38 _ (Nat.lt_of_not_le fun y => hin38 (Or.inr y))))
  have ld38 := X0.baloadBytes hx (j := p1) (v := (.int (own_el vs p1))) (by rw [e0]; exact Ar38.1) (State.isArrayOf_alike hZ.alike Ar38.2.1) Ar38.2.2 hin38 hat38 (g := (mkF m 20 #[.val (.ref a0), .val (.int p1), .val (.int 2), .val (.int 0), .val (.int p1)] [(.int p1), (.ref a0), (.int ((0 : Int32) <<< ((8 : Int32) &&& 31)))])) rfl rfl (hb hby d9_20)
  obtain ⟨cl39, Ar39, q39, S39, M39, H39, G39⟩ := id V_a0
  have hin39 : ¬ ((p1 + (1 : Int32)) < 0 ∨ cl39.slots.size ≤ ((p1 + (1 : Int32))).toNatClampNeg) := inb_of S39 (own_fi2_1 p1 len h0_ h1_ hlm)
  have hat39 : cl39.slots[((p1 + (1 : Int32))).toNatClampNeg]? = some (.int (own_el vs (p1 + (1 : Int32)))) := Has.at H39 hin39 (own_el_at (G39 _ (Nat.lt_of_not_le fun y => hin39 (Or.inr y))))
  have ld39 := X0.baloadBytes hx (j := (p1 + (1 : Int32))) (v := (.int (own_el vs (p1 + (1 : Int32))))) (by rw [e0]; exact Ar39.1) (State.isArrayOf_alike hZ.alike Ar39.2.1) Ar39.2.2 hin39 hat39 (g := (mkF m 20 (own_loc4 a0 p1 vs) [(.int (p1 + (1 : Int32))), (.ref a0), (.int ((((0 : Int32) <<< ((8 : Int32) &&& 31)) ||| ((own_el vs p1) &&& (255 : Int32))) <<< ((8 : Int32) &&& 31)))])) rfl rfl (hb hby d9_20)
  obtain ⟨fs, hr, hrun, hended, hW, hsame⟩ := X0.leave (v := some (.int (((((0 : Int32) <<< ((8 : Int32) &&& 31)) ||| ((own_el vs p1) &&& (255 : Int32))) <<< ((8 : Int32) &&& 31)) ||| ((own_el vs (p1 + (1 : Int32))) &&& (255 : Int32))))) (fun h => by rw [Bd.returns] at h; cases h)
  refine ⟨_, _, pre0 _ ?_, hrun, hended, _, _, rfl, ?_, ⟨_, rfl⟩, hW, hsame.mono (by decide) (by decide)⟩
  · show own_S p e below s₁ (mkF m 0 #[.val (.ref a0), .val (.int p1), .val (.int 2), .unset, .unset] []) _
    refine XS.iconst X0.here hx rfl (hb hby d9_0) ?_
    show own_S p e below s₁ (mkF m 1 #[.val (.ref a0), .val (.int p1), .val (.int 2), .unset, .unset] [.int 0]) _
    refine XS.istoreN X0.here hx rfl (hb hby d9_1) rfl (l' := #[.val (.ref a0), .val (.int p1), .val (.int 2), .val (.int 0), .unset]) rfl ?_
    show own_S p e below s₁ (mkF m 2 #[.val (.ref a0), .val (.int p1), .val (.int 2), .val (.int 0), .unset] []) _
    refine XS.iloadN X0.here hx rfl (hb hby d9_2) rfl ?_
    show own_S p e below s₁ (mkF m 3 #[.val (.ref a0), .val (.int p1), .val (.int 2), .val (.int 0), .unset] [(.int p1)]) _
    refine XS.istore X0.here hx rfl (hb hby d9_3) rfl (l' := #[.val (.ref a0), .val (.int p1), .val (.int 2), .val (.int 0), .val (.int p1)]) rfl ?_
    show own_S p e below s₁ (mkF m 5 #[.val (.ref a0), .val (.int p1), .val (.int 2), .val (.int 0), .val (.int p1)] []) _
    refine XS.iload X0.here hx rfl (hb hby d9_5) rfl ?_
    show own_S p e below s₁ (mkF m 7 #[.val (.ref a0), .val (.int p1), .val (.int 2), .val (.int 0), .val (.int p1)] [(.int p1)]) _
    refine XS.iloadN X0.here hx rfl (hb hby d9_7) rfl ?_
    show own_S p e below s₁ (mkF m 8 #[.val (.ref a0), .val (.int p1), .val (.int 2), .val (.int 0), .val (.int p1)] [(.int p1), (.int p1)]) _
    refine XS.iloadN X0.here hx rfl (hb hby d9_8) rfl ?_
    show own_S p e below s₁ (mkF m 9 #[.val (.ref a0), .val (.int p1), .val (.int 2), .val (.int 0), .val (.int p1)] [.int 2, (.int p1), (.int p1)]) _
    refine XS.iadd X0.here hx rfl (hb hby d9_9) rfl ?_
    show own_S p e below s₁ (mkF m 10 #[.val (.ref a0), .val (.int p1), .val (.int 2), .val (.int 0), .val (.int p1)] [(.int (p1 + (2 : Int32))), (.int p1)]) _
    refine XS.icmpNo X0.here hx rfl (hb hby d9_10) rfl (tlt (show p1 < (p1 + (2 : Int32)) from own_fl2_0 p1 len h0_ h1_ hlm)).2.1 ?_
    show own_S p e below s₁ (mkF m 13 #[.val (.ref a0), .val (.int p1), .val (.int 2), .val (.int 0), .val (.int p1)] []) _
    refine XS.iloadN X0.here hx rfl (hb hby d9_13) rfl ?_
    show own_S p e below s₁ (mkF m 14 #[.val (.ref a0), .val (.int p1), .val (.int 2), .val (.int 0), .val (.int p1)] [.int 0]) _
    refine XS.bipush X0.here hx rfl (hb hby d9_14) ?_
    show own_S p e below s₁ (mkF m 16 #[.val (.ref a0), .val (.int p1), .val (.int 2), .val (.int 0), .val (.int p1)] [.int 8, .int 0]) _
    refine XS.ishl X0.here hx rfl (hb hby d9_16) rfl ?_
    show own_S p e below s₁ (mkF m 17 #[.val (.ref a0), .val (.int p1), .val (.int 2), .val (.int 0), .val (.int p1)] [(.int ((0 : Int32) <<< ((8 : Int32) &&& 31)))]) _
    refine XS.aloadN X0.here hx rfl (hb hby d9_17) rfl rfl ?_
    show own_S p e below s₁ (mkF m 18 #[.val (.ref a0), .val (.int p1), .val (.int 2), .val (.int 0), .val (.int p1)] [(.ref a0), (.int ((0 : Int32) <<< ((8 : Int32) &&& 31)))]) _
    refine XS.iload X0.here hx rfl (hb hby d9_18) rfl ?_
    show own_S p e below s₁ (mkF m 20 #[.val (.ref a0), .val (.int p1), .val (.int 2), .val (.int 0), .val (.int p1)] [(.int p1), (.ref a0), (.int ((0 : Int32) <<< ((8 : Int32) &&& 31)))]) _
    refine ld38 _ ?_
    show own_S p e below s₁ (mkF m 21 #[.val (.ref a0), .val (.int p1), .val (.int 2), .val (.int 0), .val (.int p1)] [(.int (own_el vs p1)), (.int ((0 : Int32) <<< ((8 : Int32) &&& 31)))]) _
    refine XS.sipush X0.here hx rfl (hb hby d9_21) ?_
    show own_S p e below s₁ (mkF m 24 #[.val (.ref a0), .val (.int p1), .val (.int 2), .val (.int 0), .val (.int p1)] [.int 255, (.int (own_el vs p1)), (.int ((0 : Int32) <<< ((8 : Int32) &&& 31)))]) _
    refine XS.iand X0.here hx rfl (hb hby d9_24) rfl ?_
    show own_S p e below s₁ (mkF m 25 #[.val (.ref a0), .val (.int p1), .val (.int 2), .val (.int 0), .val (.int p1)] [(.int ((own_el vs p1) &&& (255 : Int32))), (.int ((0 : Int32) <<< ((8 : Int32) &&& 31)))]) _
    refine XS.ior X0.here hx rfl (hb hby d9_25) rfl ?_
    show own_S p e below s₁ (mkF m 26 #[.val (.ref a0), .val (.int p1), .val (.int 2), .val (.int 0), .val (.int p1)] [(.int (((0 : Int32) <<< ((8 : Int32) &&& 31)) ||| ((own_el vs p1) &&& (255 : Int32))))]) _
    refine XS.istoreN X0.here hx rfl (hb hby d9_26) rfl (l' := (own_loc3 a0 p1 vs)) rfl ?_
    show own_S p e below s₁ (mkF m 27 (own_loc3 a0 p1 vs) []) _
    refine XS.iinc X0.here hx rfl (hb hby d9_27) rfl (l' := (own_loc4 a0 p1 vs)) rfl ?_
    show own_S p e below s₁ (mkF m 30 (own_loc4 a0 p1 vs) []) _
    refine XS.goto X0.here hx rfl (pc0 := 30) (pc' := 5) rfl (hb hby d9_30) (by decide) (by decide) ?_
    show own_S p e below s₁ (mkF m 5 (own_loc4 a0 p1 vs) []) _
    refine XS.iload X0.here hx rfl (hb hby d9_5) rfl ?_
    show own_S p e below s₁ (mkF m 7 (own_loc4 a0 p1 vs) [(.int (p1 + (1 : Int32)))]) _
    refine XS.iloadN X0.here hx rfl (hb hby d9_7) rfl ?_
    show own_S p e below s₁ (mkF m 8 (own_loc4 a0 p1 vs) [(.int p1), (.int (p1 + (1 : Int32)))]) _
    refine XS.iloadN X0.here hx rfl (hb hby d9_8) rfl ?_
    show own_S p e below s₁ (mkF m 9 (own_loc4 a0 p1 vs) [.int 2, (.int p1), (.int (p1 + (1 : Int32)))]) _
    refine XS.iadd X0.here hx rfl (hb hby d9_9) rfl ?_
    show own_S p e below s₁ (mkF m 10 (own_loc4 a0 p1 vs) [(.int (p1 + (2 : Int32))), (.int (p1 + (1 : Int32)))]) _
    refine XS.icmpNo X0.here hx rfl (hb hby d9_10) rfl (tlt (show (p1 + (1 : Int32)) < (p1 + (2 : Int32)) from own_fl2_1 p1 len h0_ h1_ hlm)).2.1 ?_
    show own_S p e below s₁ (mkF m 13 (own_loc4 a0 p1 vs) []) _
    refine XS.iloadN X0.here hx rfl (hb hby d9_13) rfl ?_
    show own_S p e below s₁ (mkF m 14 (own_loc4 a0 p1 vs) [(.int (((0 : Int32) <<< ((8 : Int32) &&& 31)) ||| ((own_el vs p1) &&& (255 : Int32))))]) _
    refine XS.bipush X0.here hx rfl (hb hby d9_14) ?_
    show own_S p e below s₁ (mkF m 16 (own_loc4 a0 p1 vs) [.int 8, (.int (((0 : Int32) <<< ((8 : Int32) &&& 31)) ||| ((own_el vs p1) &&& (255 : Int32))))]) _
    refine XS.ishl X0.here hx rfl (hb hby d9_16) rfl ?_
    show own_S p e below s₁ (mkF m 17 (own_loc4 a0 p1 vs) [(.int ((((0 : Int32) <<< ((8 : Int32) &&& 31)) ||| ((own_el vs p1) &&& (255 : Int32))) <<< ((8 : Int32) &&& 31)))]) _
    refine XS.aloadN X0.here hx rfl (hb hby d9_17) rfl rfl ?_
    show own_S p e below s₁ (mkF m 18 (own_loc4 a0 p1 vs) [(.ref a0), (.int ((((0 : Int32) <<< ((8 : Int32) &&& 31)) ||| ((own_el vs p1) &&& (255 : Int32))) <<< ((8 : Int32) &&& 31)))]) _
    refine XS.iload X0.here hx rfl (hb hby d9_18) rfl ?_
    show own_S p e below s₁ (mkF m 20 (own_loc4 a0 p1 vs) [(.int (p1 + (1 : Int32))), (.ref a0), (.int ((((0 : Int32) <<< ((8 : Int32) &&& 31)) ||| ((own_el vs p1) &&& (255 : Int32))) <<< ((8 : Int32) &&& 31)))]) _
    refine ld39 _ ?_
    show own_S p e below s₁ (mkF m 21 (own_loc4 a0 p1 vs) [(.int (own_el vs (p1 + (1 : Int32)))), (.int ((((0 : Int32) <<< ((8 : Int32) &&& 31)) ||| ((own_el vs p1) &&& (255 : Int32))) <<< ((8 : Int32) &&& 31)))]) _
    refine XS.sipush X0.here hx rfl (hb hby d9_21) ?_
    show own_S p e below s₁ (mkF m 24 (own_loc4 a0 p1 vs) [.int 255, (.int (own_el vs (p1 + (1 : Int32)))), (.int ((((0 : Int32) <<< ((8 : Int32) &&& 31)) ||| ((own_el vs p1) &&& (255 : Int32))) <<< ((8 : Int32) &&& 31)))]) _
    refine XS.iand X0.here hx rfl (hb hby d9_24) rfl ?_
    show own_S p e below s₁ (mkF m 25 (own_loc4 a0 p1 vs) [(.int ((own_el vs (p1 + (1 : Int32))) &&& (255 : Int32))), (.int ((((0 : Int32) <<< ((8 : Int32) &&& 31)) ||| ((own_el vs p1) &&& (255 : Int32))) <<< ((8 : Int32) &&& 31)))]) _
    refine XS.ior X0.here hx rfl (hb hby d9_25) rfl ?_
    show own_S p e below s₁ (mkF m 26 (own_loc4 a0 p1 vs) [(.int (((((0 : Int32) <<< ((8 : Int32) &&& 31)) ||| ((own_el vs p1) &&& (255 : Int32))) <<< ((8 : Int32) &&& 31)) ||| ((own_el vs (p1 + (1 : Int32))) &&& (255 : Int32))))]) _
    refine XS.istoreN X0.here hx rfl (hb hby d9_26) rfl (l' := (own_loc5 a0 p1 vs)) rfl ?_
    show own_S p e below s₁ (mkF m 27 (own_loc5 a0 p1 vs) []) _
    refine XS.iinc X0.here hx rfl (hb hby d9_27) rfl (l' := (own_loc6 a0 p1 vs)) rfl ?_
    show own_S p e below s₁ (mkF m 30 (own_loc6 a0 p1 vs) []) _
    refine XS.goto X0.here hx rfl (pc0 := 30) (pc' := 5) rfl (hb hby d9_30) (by decide) (by decide) ?_
    show own_S p e below s₁ (mkF m 5 (own_loc6 a0 p1 vs) []) _
    refine XS.iload X0.here hx rfl (hb hby d9_5) rfl ?_
    show own_S p e below s₁ (mkF m 7 (own_loc6 a0 p1 vs) [(.int ((p1 + (1 : Int32)) + (1 : Int32)))]) _
    refine XS.iloadN X0.here hx rfl (hb hby d9_7) rfl ?_
    show own_S p e below s₁ (mkF m 8 (own_loc6 a0 p1 vs) [(.int p1), (.int ((p1 + (1 : Int32)) + (1 : Int32)))]) _
    refine XS.iloadN X0.here hx rfl (hb hby d9_8) rfl ?_
    show own_S p e below s₁ (mkF m 9 (own_loc6 a0 p1 vs) [.int 2, (.int p1), (.int ((p1 + (1 : Int32)) + (1 : Int32)))]) _
    refine XS.iadd X0.here hx rfl (hb hby d9_9) rfl ?_
    show own_S p e below s₁ (mkF m 10 (own_loc6 a0 p1 vs) [(.int (p1 + (2 : Int32))), (.int ((p1 + (1 : Int32)) + (1 : Int32)))]) _
    refine XS.icmpYes X0.here hx rfl (pc0 := 10) (pc' := 33) rfl (hb hby d9_10) rfl (flt (show ¬ (((p1 + (1 : Int32)) + (1 : Int32)) < (p1 + (2 : Int32))) from own_fl2_2 p1 len h0_ h1_ hlm)).2.1 (by decide) (by decide) ?_
    show own_S p e below s₁ (mkF m 33 (own_loc6 a0 p1 vs) []) _
    refine XS.iloadN X0.here hx rfl (hb hby d9_33) rfl ?_
    show own_S p e below s₁ (mkF m 34 (own_loc6 a0 p1 vs) [(.int (((((0 : Int32) <<< ((8 : Int32) &&& 31)) ||| ((own_el vs p1) &&& (255 : Int32))) <<< ((8 : Int32) &&& 31)) ||| ((own_el vs (p1 + (1 : Int32))) &&& (255 : Int32))))]) _
    exact retI X0 hx Bd.returns (hb hby d9_34) hr
  · show Q9_2 Z a0 p1 k len vs h0 n0 _ s₁.heap _
    rw [e0]
    exact ⟨rfl, N0, rfl⟩
def own_field2 (len : Int32) (vs : List Value) (p1 : Int32) : Int32 := (((((0 : Int32) <<< ((8 : Int32) &&& 31)) ||| ((own_el vs p1) &&& (255 : Int32))) <<< ((8 : Int32) &&& 31)) ||| ((own_el vs (p1 + (1 : Int32))) &&& (255 : Int32)))
theorem ef_11_vv1 (m : MethodId) (a0 : Addr) (p1 : Int32) : entryFrame m #[(.ref a0), (.int p1), (.int (1 : Int32))] 4 = mkF m 0 #[.val (.ref a0), .val (.int p1), .val (.int 1), .unset] [] := by first | (simp [entryFrame, mkF, argsToLocals, Value.category]; done) | rfl
theorem d11_0 : decode prog_3_method_4_code 0 = .ok (.aload_n 0, 1) := by decide +kernel
theorem d11_1 : decode prog_3_method_4_code 1 = .ok (.iload_n 1, 1) := by decide +kernel
theorem d11_2 : decode prog_3_method_4_code 2 = .ok (.iload_n 2, 1) := by decide +kernel
theorem pd_5 : parseMethodDescriptor "([BII)I" = some ⟨[(.array .byte), .int, .int], some .int⟩ := by decide +kernel
theorem d11_3 : decode prog_3_method_4_code 3 = .ok (.invokestatic 35, 3) := by decide +kernel
theorem d11_6 : decode prog_3_method_4_code 6 = .ok (.istore_n 3, 1) := by decide +kernel
theorem d11_7 : decode prog_3_method_4_code 7 = .ok (.iload_n 3, 1) := by decide +kernel
theorem d11_8 : decode prog_3_method_4_code 8 = .ok (.ifCond .ne 12, 3) := by decide +kernel
theorem d11_11 : decode prog_3_method_4_code 11 = .ok (.iconst 1, 1) := by decide +kernel
theorem d11_12 : decode prog_3_method_4_code 12 = .ok (.bipush 8, 2) := by decide +kernel
theorem d11_14 : decode prog_3_method_4_code 14 = .ok (.iload_n 2, 1) := by decide +kernel
theorem d11_15 : decode prog_3_method_4_code 15 = .ok (.imul, 1) := by decide +kernel
theorem d11_16 : decode prog_3_method_4_code 16 = .ok (.ishl, 1) := by decide +kernel
theorem d11_17 : decode prog_3_method_4_code 17 = .ok (.goto 4, 3) := by decide +kernel
theorem d11_20 : decode prog_3_method_4_code 20 = .ok (.iload_n 3, 1) := by decide +kernel
def own_ner1 (p1 : Int32) (len : Int32) (vs : List Value) : Int32 := (if (own_field1 len vs p1) = (0 : Int32) then ((1 : Int32) <<< (((8 : Int32) * (1 : Int32)) &&& 31)) else (own_field1 len vs p1))
theorem d11_21 : decode prog_3_method_4_code 21 = .ok (.ireturn, 1) := by decide +kernel
def Q11_1 (Z : State) (a0 : Addr) (p1 : Int32) (k : ClassId) (len : Int32) (vs : List Value) (h0 : Heap) (n0 : Nat) (v : Option Value) (h : Heap) (L : List Loc) : Prop := v = some (.int (own_ner1 p1 len vs)) ∧ Fr n0 L ∧ h = h0
set_option maxRecDepth 65536 in
set_option maxHeartbeats 40000000 in
theorem rm11_1 (l : Launch) (Z : State) (ag : Array Value) (hw : ∀ d ∈ tables_1, d.before ag Z = true) (ws : List Jvm.Cond) (a0 : Addr) (p1 : Int32) (k : ClassId) (len : Int32) (vs : List Value) (h0 : Heap) (n0 : Nat) (Z0 : n0 ≤ h0.size) (V_a0 : Arv Z h0 a0 k .byte len vs (.int (0 : Int32))) (hl4 : 4 ≤ len.toInt) (hlm : len.toInt ≤ 65545) (h0_ : 0 ≤ p1.toInt) (h1_ : p1.toInt + 1 ≤ len.toInt) :
    MetFree l (⟨"com/example/chipmantle/chipmantle/CommandApdu", "ne", "([BII)I"⟩ : MethodName) (head1 (Jvm.Cond.code (⟨"com/example/chipmantle/chipmantle/CommandApdu", "ne", "([BII)I"⟩ : MethodName) prog_3_method_4_code 4 (some .int) :: ws) ({ frames := 1, cells := 0, slots := 0, locals := 16 } : Room)) (fun a U => a = #[(.ref a0), (.int p1), (.int (1 : Int32))] ∧ Z.Warmed39 U.vm ∧ U.heap = h0) (fun _ _ _ _ _ => True) (fun _ U o U' => ∃ v L, o = .returned v ∧ Q11_1 Z a0 p1 k len vs h0 n0 v U'.heap L ∧ FrameEnd U o U' L ({ frames := 1, cells := 0, slots := 0, locals := 16 } : Room).cells ({ frames := 1, cells := 0, slots := 0, locals := 16 } : Room).slots) := by
  refine MetFree.of_bodySF (plainFor_of_name pn_0) hisR ?_
  intro p e s m args below meth c s₁ Bd hml0 hP hK
  obtain ⟨rfl, hZ, hh⟩ := hP
  have hx := Bd.exec
  have hby := Bd.bytes
  have hml : c.maxLocals = 4 := hml0
  have hown : s.vm.findClass "com/example/chipmantle/chipmantle/CommandApdu" = some m.cls := findClass_of_methodNamed Bd.named
  have hnm := (name_of_methodNamed Bd.named Bd.method).1
  have X0 : Stand p l e ({ frames := 1, cells := 0, slots := 0, locals := 16 } : Room) s m #[(.ref a0), (.int p1), (.int (1 : Int32))] below meth c s₁ [] 0 0 := Stand.of_body Bd
  have e0 : s₁.heap = h0 := by rw [← hh, Bd.state]; rfl
  have N0 := Fr.nil n0
  have pre0 : ∀ t, Steps p.tables e below (s₁.setTop (mkF m 0 #[.val (.ref a0), .val (.int p1), .val (.int 1), .unset] [])) t → Steps p.tables e below (s₁.setTop (entryFrame m #[(.ref a0), (.int p1), (.int (1 : Int32))] 4)) t := fun t k => castTop (ef_11_vv1 m a0 p1) k
  obtain ⟨_, _, ⟨T40, L40, k40, n40⟩, -, X40, ⟨Lc40, hQ40, l40, y40, z40⟩, st40⟩ := Jvm.LawKit.callS X0 hx (y := (⟨"com/example/chipmantle/chipmantle/CommandApdu", "field", "([BII)I"⟩ : MethodName)) hown (mvT hZ (hw _ (List.mem_of_getElem? (i := 47) rfl))) (mvT hZ (hw _ (List.mem_of_getElem? (i := 48) rfl))) (mvT hZ (hw _ (List.mem_of_getElem? (i := 4) rfl))) (mvT hZ (hw _ (List.mem_of_getElem? (i := 49) rfl))) (by decide) (backOf (W := 0) (rm9_1 l Z ag hw [] a0 p1 k len vs h0 n0 Z0 V_a0 hl4 hlm h0_ h1_) hZ (hw _ (List.mem_of_getElem? (i := 49) rfl)) (hw _ (List.mem_of_getElem? (i := 4) rfl)) (by decide) (by decide)) (g := (mkF m 3 #[.val (.ref a0), .val (.int p1), .val (.int 1), .unset] [.int 1, (.int p1), (.ref a0)])) rfl (by rw [hml]; rfl) (argsL := [(.ref a0), (.int p1), (.int (1 : Int32))]) (rest := []) (lenOf pd_5 rfl) rfl (by show 2 * 0 + _ ≤ _; exact Nat.le_of_eq rfl) (hb hby d11_3) (fun _ _ => ⟨rfl, e0, (by decide : 0 + 0 ≤ _), (by decide : 0 + 0 ≤ _)⟩)
  dsimp only [Pt.U, Pt.locs, Pt.cells, Pt.slots] at X40 l40 y40 z40 st40 hQ40
  subst l40 y40 z40
  obtain ⟨rfl, N40q, e40⟩ := hQ40
  have N40 := Fr.app N0 N40q
  have sg42 : ∀ target, Steps p.tables e below (T40.setTop (mkF m 21 #[.val (.ref a0), .val (.int p1), .val (.int 1), .val (.int (own_field1 len vs p1))] [(.int (own_ner1 p1 len vs))])) target → Steps p.tables e below (T40.setTop (mkF m 6 #[.val (.ref a0), .val (.int p1), .val (.int 1), .unset] [(.int (own_field1 len vs p1))])) target := by
    intro target kt
    show own_S p e below T40 (mkF m 6 #[.val (.ref a0), .val (.int p1), .val (.int 1), .unset] [(.int (own_field1 len vs p1))]) _
    refine XS.istoreN X40.here hx rfl (hb hby d11_6) rfl (l' := #[.val (.ref a0), .val (.int p1), .val (.int 1), .val (.int (own_field1 len vs p1))]) rfl ?_
    show own_S p e below T40 (mkF m 7 #[.val (.ref a0), .val (.int p1), .val (.int 1), .val (.int (own_field1 len vs p1))] []) _
    refine XS.iloadN X40.here hx rfl (hb hby d11_7) rfl ?_
    by_cases hc41 : (own_field1 len vs p1) = (0 : Int32)
    · show own_S p e below T40 (mkF m 8 #[.val (.ref a0), .val (.int p1), .val (.int 1), .val (.int (own_field1 len vs p1))] [(.int (own_field1 len vs p1))]) _
      refine XS.ifNo X40.here hx rfl (hb hby d11_8) rfl ((if0 _ _).trans (teq hc41).2) ?_
      show own_S p e below T40 (mkF m 11 #[.val (.ref a0), .val (.int p1), .val (.int 1), .val (.int (own_field1 len vs p1))] []) _
      refine XS.iconst X40.here hx rfl (hb hby d11_11) ?_
      show own_S p e below T40 (mkF m 12 #[.val (.ref a0), .val (.int p1), .val (.int 1), .val (.int (own_field1 len vs p1))] [.int 1]) _
      refine XS.bipush X40.here hx rfl (hb hby d11_12) ?_
      show own_S p e below T40 (mkF m 14 #[.val (.ref a0), .val (.int p1), .val (.int 1), .val (.int (own_field1 len vs p1))] [.int 8, .int 1]) _
      refine XS.iloadN X40.here hx rfl (hb hby d11_14) rfl ?_
      show own_S p e below T40 (mkF m 15 #[.val (.ref a0), .val (.int p1), .val (.int 1), .val (.int (own_field1 len vs p1))] [.int 1, .int 8, .int 1]) _
      refine XS.imul X40.here hx rfl (hb hby d11_15) rfl ?_
      show own_S p e below T40 (mkF m 16 #[.val (.ref a0), .val (.int p1), .val (.int 1), .val (.int (own_field1 len vs p1))] [(.int ((8 : Int32) * (1 : Int32))), .int 1]) _
      refine XS.ishl X40.here hx rfl (hb hby d11_16) rfl ?_
      show own_S p e below T40 (mkF m 17 #[.val (.ref a0), .val (.int p1), .val (.int 1), .val (.int (own_field1 len vs p1))] [(.int ((1 : Int32) <<< (((8 : Int32) * (1 : Int32)) &&& 31)))]) _
      refine XS.goto X40.here hx rfl (pc0 := 17) (pc' := 21) rfl (hb hby d11_17) (by decide) (by decide) ?_
      show own_S p e below T40 (mkF m 21 #[.val (.ref a0), .val (.int p1), .val (.int 1), .val (.int (own_field1 len vs p1))] [(.int ((1 : Int32) <<< (((8 : Int32) * (1 : Int32)) &&& 31)))]) _
      have kt := own_cast (P := fun z => Steps p.tables e below (T40.setTop (mkF m 21 #[.val (.ref a0), .val (.int p1), .val (.int 1), .val (.int (own_field1 len vs p1))] [(.int z)])) target) (show (own_ner1 p1 len vs) = ((1 : Int32) <<< (((8 : Int32) * (1 : Int32)) &&& 31)) from (by unfold own_ner1; rw [if_pos hc41])) kt
      exact kt
    · show own_S p e below T40 (mkF m 8 #[.val (.ref a0), .val (.int p1), .val (.int 1), .val (.int (own_field1 len vs p1))] [(.int (own_field1 len vs p1))]) _
      refine XS.ifYes X40.here hx rfl (pc0 := 8) (pc' := 20) rfl (hb hby d11_8) rfl ((if0 _ _).trans (feq hc41).2) (by decide) (by decide) ?_
      show own_S p e below T40 (mkF m 20 #[.val (.ref a0), .val (.int p1), .val (.int 1), .val (.int (own_field1 len vs p1))] []) _
      refine XS.iloadN X40.here hx rfl (hb hby d11_20) rfl ?_
      show own_S p e below T40 (mkF m 21 #[.val (.ref a0), .val (.int p1), .val (.int 1), .val (.int (own_field1 len vs p1))] [(.int (own_field1 len vs p1))]) _
      have kt := own_cast (P := fun z => Steps p.tables e below (T40.setTop (mkF m 21 #[.val (.ref a0), .val (.int p1), .val (.int 1), .val (.int (own_field1 len vs p1))] [(.int z)])) target) (show (own_ner1 p1 len vs) = (own_field1 len vs p1) from (by unfold own_ner1; rw [if_neg hc41])) kt
      exact kt
  obtain ⟨fs, hr, hrun, hended, hW, hsame⟩ := X40.leave (v := some (.int (own_ner1 p1 len vs))) (fun h => by rw [Bd.returns] at h; cases h)
  refine ⟨_, _, pre0 _ ?_, hrun, hended, _, _, rfl, ?_, ⟨_, rfl⟩, hW, hsame.mono (by decide) (by decide)⟩
  · show own_S p e below s₁ (mkF m 0 #[.val (.ref a0), .val (.int p1), .val (.int 1), .unset] []) _
    refine XS.aloadN X0.here hx rfl (hb hby d11_0) rfl rfl ?_
    show own_S p e below s₁ (mkF m 1 #[.val (.ref a0), .val (.int p1), .val (.int 1), .unset] [(.ref a0)]) _
    refine XS.iloadN X0.here hx rfl (hb hby d11_1) rfl ?_
    show own_S p e below s₁ (mkF m 2 #[.val (.ref a0), .val (.int p1), .val (.int 1), .unset] [(.int p1), (.ref a0)]) _
    refine XS.iloadN X0.here hx rfl (hb hby d11_2) rfl ?_
    show own_S p e below s₁ (mkF m 3 #[.val (.ref a0), .val (.int p1), .val (.int 1), .unset] [.int 1, (.int p1), (.ref a0)]) _
    refine st40 _ ?_
    show own_S p e below T40 (mkF m 6 #[.val (.ref a0), .val (.int p1), .val (.int 1), .unset] [(.int (own_field1 len vs p1))]) _
    refine sg42 _ ?_
    show own_S p e below T40 (mkF m 21 #[.val (.ref a0), .val (.int p1), .val (.int 1), .val (.int (own_field1 len vs p1))] [(.int (own_ner1 p1 len vs))]) _
    exact retI X40 hx Bd.returns (hb hby d11_21) hr
  · show Q11_1 Z a0 p1 k len vs h0 n0 _ T40.heap _
    rw [e40]
    exact ⟨rfl, N40, rfl⟩
def own_ne1 (len : Int32) (vs : List Value) (p1 : Int32) : Int32 := (own_ner1 p1 len vs)
theorem ef_11_vv2 (m : MethodId) (a0 : Addr) (p1 : Int32) : entryFrame m #[(.ref a0), (.int p1), (.int (2 : Int32))] 4 = mkF m 0 #[.val (.ref a0), .val (.int p1), .val (.int 2), .unset] [] := by first | (simp [entryFrame, mkF, argsToLocals, Value.category]; done) | rfl
def own_ner2 (p1 : Int32) (len : Int32) (vs : List Value) : Int32 := (if (own_field2 len vs p1) = (0 : Int32) then ((1 : Int32) <<< (((8 : Int32) * (2 : Int32)) &&& 31)) else (own_field2 len vs p1))
def Q11_2 (Z : State) (a0 : Addr) (p1 : Int32) (k : ClassId) (len : Int32) (vs : List Value) (h0 : Heap) (n0 : Nat) (v : Option Value) (h : Heap) (L : List Loc) : Prop := v = some (.int (own_ner2 p1 len vs)) ∧ Fr n0 L ∧ h = h0
set_option maxRecDepth 65536 in
set_option maxHeartbeats 40000000 in
theorem rm11_2 (l : Launch) (Z : State) (ag : Array Value) (hw : ∀ d ∈ tables_1, d.before ag Z = true) (ws : List Jvm.Cond) (a0 : Addr) (p1 : Int32) (k : ClassId) (len : Int32) (vs : List Value) (h0 : Heap) (n0 : Nat) (Z0 : n0 ≤ h0.size) (V_a0 : Arv Z h0 a0 k .byte len vs (.int (0 : Int32))) (hl4 : 4 ≤ len.toInt) (hlm : len.toInt ≤ 65545) (h0_ : 0 ≤ p1.toInt) (h1_ : p1.toInt + 2 ≤ len.toInt) :
    MetFree l (⟨"com/example/chipmantle/chipmantle/CommandApdu", "ne", "([BII)I"⟩ : MethodName) (head1 (Jvm.Cond.code (⟨"com/example/chipmantle/chipmantle/CommandApdu", "ne", "([BII)I"⟩ : MethodName) prog_3_method_4_code 4 (some .int) :: ws) ({ frames := 1, cells := 0, slots := 0, locals := 16 } : Room)) (fun a U => a = #[(.ref a0), (.int p1), (.int (2 : Int32))] ∧ Z.Warmed39 U.vm ∧ U.heap = h0) (fun _ _ _ _ _ => True) (fun _ U o U' => ∃ v L, o = .returned v ∧ Q11_2 Z a0 p1 k len vs h0 n0 v U'.heap L ∧ FrameEnd U o U' L ({ frames := 1, cells := 0, slots := 0, locals := 16 } : Room).cells ({ frames := 1, cells := 0, slots := 0, locals := 16 } : Room).slots) := by
  refine MetFree.of_bodySF (plainFor_of_name pn_0) hisR ?_
  intro p e s m args below meth c s₁ Bd hml0 hP hK
  obtain ⟨rfl, hZ, hh⟩ := hP
  have hx := Bd.exec
  have hby := Bd.bytes
  have hml : c.maxLocals = 4 := hml0
  have hown : s.vm.findClass "com/example/chipmantle/chipmantle/CommandApdu" = some m.cls := findClass_of_methodNamed Bd.named
  have hnm := (name_of_methodNamed Bd.named Bd.method).1
  have X0 : Stand p l e ({ frames := 1, cells := 0, slots := 0, locals := 16 } : Room) s m #[(.ref a0), (.int p1), (.int (2 : Int32))] below meth c s₁ [] 0 0 := Stand.of_body Bd
  have e0 : s₁.heap = h0 := by rw [← hh, Bd.state]; rfl
  have N0 := Fr.nil n0
  have pre0 : ∀ t, Steps p.tables e below (s₁.setTop (mkF m 0 #[.val (.ref a0), .val (.int p1), .val (.int 2), .unset] [])) t → Steps p.tables e below (s₁.setTop (entryFrame m #[(.ref a0), (.int p1), (.int (2 : Int32))] 4)) t := fun t k => castTop (ef_11_vv2 m a0 p1) k
  obtain ⟨_, _, ⟨T43, L43, k43, n43⟩, -, X43, ⟨Lc43, hQ43, l43, y43, z43⟩, st43⟩ := Jvm.LawKit.callS X0 hx (y := (⟨"com/example/chipmantle/chipmantle/CommandApdu", "field", "([BII)I"⟩ : MethodName)) hown (mvT hZ (hw _ (List.mem_of_getElem? (i := 47) rfl))) (mvT hZ (hw _ (List.mem_of_getElem? (i := 48) rfl))) (mvT hZ (hw _ (List.mem_of_getElem? (i := 4) rfl))) (mvT hZ (hw _ (List.mem_of_getElem? (i := 49) rfl))) (by decide) (backOf (W := 0) (rm9_2 l Z ag hw [] a0 p1 k len vs h0 n0 Z0 V_a0 hl4 hlm h0_ h1_) hZ (hw _ (List.mem_of_getElem? (i := 49) rfl)) (hw _ (List.mem_of_getElem? (i := 4) rfl)) (by decide) (by decide)) (g := (mkF m 3 #[.val (.ref a0), .val (.int p1), .val (.int 2), .unset] [.int 2, (.int p1), (.ref a0)])) rfl (by rw [hml]; rfl) (argsL := [(.ref a0), (.int p1), (.int (2 : Int32))]) (rest := []) (lenOf pd_5 rfl) rfl (by show 2 * 0 + _ ≤ _; exact Nat.le_of_eq rfl) (hb hby d11_3) (fun _ _ => ⟨rfl, e0, (by decide : 0 + 0 ≤ _), (by decide : 0 + 0 ≤ _)⟩)
  dsimp only [Pt.U, Pt.locs, Pt.cells, Pt.slots] at X43 l43 y43 z43 st43 hQ43
  subst l43 y43 z43
  obtain ⟨rfl, N43q, e43⟩ := hQ43
  have N43 := Fr.app N0 N43q
  have sg45 : ∀ target, Steps p.tables e below (T43.setTop (mkF m 21 #[.val (.ref a0), .val (.int p1), .val (.int 2), .val (.int (own_field2 len vs p1))] [(.int (own_ner2 p1 len vs))])) target → Steps p.tables e below (T43.setTop (mkF m 6 #[.val (.ref a0), .val (.int p1), .val (.int 2), .unset] [(.int (own_field2 len vs p1))])) target := by
    intro target kt
    show own_S p e below T43 (mkF m 6 #[.val (.ref a0), .val (.int p1), .val (.int 2), .unset] [(.int (own_field2 len vs p1))]) _
    refine XS.istoreN X43.here hx rfl (hb hby d11_6) rfl (l' := #[.val (.ref a0), .val (.int p1), .val (.int 2), .val (.int (own_field2 len vs p1))]) rfl ?_
    show own_S p e below T43 (mkF m 7 #[.val (.ref a0), .val (.int p1), .val (.int 2), .val (.int (own_field2 len vs p1))] []) _
    refine XS.iloadN X43.here hx rfl (hb hby d11_7) rfl ?_
    by_cases hc44 : (own_field2 len vs p1) = (0 : Int32)
    · show own_S p e below T43 (mkF m 8 #[.val (.ref a0), .val (.int p1), .val (.int 2), .val (.int (own_field2 len vs p1))] [(.int (own_field2 len vs p1))]) _
      refine XS.ifNo X43.here hx rfl (hb hby d11_8) rfl ((if0 _ _).trans (teq hc44).2) ?_
      show own_S p e below T43 (mkF m 11 #[.val (.ref a0), .val (.int p1), .val (.int 2), .val (.int (own_field2 len vs p1))] []) _
      refine XS.iconst X43.here hx rfl (hb hby d11_11) ?_
      show own_S p e below T43 (mkF m 12 #[.val (.ref a0), .val (.int p1), .val (.int 2), .val (.int (own_field2 len vs p1))] [.int 1]) _
      refine XS.bipush X43.here hx rfl (hb hby d11_12) ?_
      show own_S p e below T43 (mkF m 14 #[.val (.ref a0), .val (.int p1), .val (.int 2), .val (.int (own_field2 len vs p1))] [.int 8, .int 1]) _
      refine XS.iloadN X43.here hx rfl (hb hby d11_14) rfl ?_
      show own_S p e below T43 (mkF m 15 #[.val (.ref a0), .val (.int p1), .val (.int 2), .val (.int (own_field2 len vs p1))] [.int 2, .int 8, .int 1]) _
      refine XS.imul X43.here hx rfl (hb hby d11_15) rfl ?_
      show own_S p e below T43 (mkF m 16 #[.val (.ref a0), .val (.int p1), .val (.int 2), .val (.int (own_field2 len vs p1))] [(.int ((8 : Int32) * (2 : Int32))), .int 1]) _
      refine XS.ishl X43.here hx rfl (hb hby d11_16) rfl ?_
      show own_S p e below T43 (mkF m 17 #[.val (.ref a0), .val (.int p1), .val (.int 2), .val (.int (own_field2 len vs p1))] [(.int ((1 : Int32) <<< (((8 : Int32) * (2 : Int32)) &&& 31)))]) _
      refine XS.goto X43.here hx rfl (pc0 := 17) (pc' := 21) rfl (hb hby d11_17) (by decide) (by decide) ?_
      show own_S p e below T43 (mkF m 21 #[.val (.ref a0), .val (.int p1), .val (.int 2), .val (.int (own_field2 len vs p1))] [(.int ((1 : Int32) <<< (((8 : Int32) * (2 : Int32)) &&& 31)))]) _
      have kt := own_cast (P := fun z => Steps p.tables e below (T43.setTop (mkF m 21 #[.val (.ref a0), .val (.int p1), .val (.int 2), .val (.int (own_field2 len vs p1))] [(.int z)])) target) (show (own_ner2 p1 len vs) = ((1 : Int32) <<< (((8 : Int32) * (2 : Int32)) &&& 31)) from (by unfold own_ner2; rw [if_pos hc44])) kt
      exact kt
    · show own_S p e below T43 (mkF m 8 #[.val (.ref a0), .val (.int p1), .val (.int 2), .val (.int (own_field2 len vs p1))] [(.int (own_field2 len vs p1))]) _
      refine XS.ifYes X43.here hx rfl (pc0 := 8) (pc' := 20) rfl (hb hby d11_8) rfl ((if0 _ _).trans (feq hc44).2) (by decide) (by decide) ?_
      show own_S p e below T43 (mkF m 20 #[.val (.ref a0), .val (.int p1), .val (.int 2), .val (.int (own_field2 len vs p1))] []) _
      refine XS.iloadN X43.here hx rfl (hb hby d11_20) rfl ?_
      show own_S p e below T43 (mkF m 21 #[.val (.ref a0), .val (.int p1), .val (.int 2), .val (.int (own_field2 len vs p1))] [(.int (own_field2 len vs p1))]) _
      have kt := own_cast (P := fun z => Steps p.tables e below (T43.setTop (mkF m 21 #[.val (.ref a0), .val (.int p1), .val (.int 2), .val (.int (own_field2 len vs p1))] [(.int z)])) target) (show (own_ner2 p1 len vs) = (own_field2 len vs p1) from (by unfold own_ner2; rw [if_neg hc44])) kt
      exact kt
  obtain ⟨fs, hr, hrun, hended, hW, hsame⟩ := X43.leave (v := some (.int (own_ner2 p1 len vs))) (fun h => by rw [Bd.returns] at h; cases h)
  refine ⟨_, _, pre0 _ ?_, hrun, hended, _, _, rfl, ?_, ⟨_, rfl⟩, hW, hsame.mono (by decide) (by decide)⟩
  · show own_S p e below s₁ (mkF m 0 #[.val (.ref a0), .val (.int p1), .val (.int 2), .unset] []) _
    refine XS.aloadN X0.here hx rfl (hb hby d11_0) rfl rfl ?_
    show own_S p e below s₁ (mkF m 1 #[.val (.ref a0), .val (.int p1), .val (.int 2), .unset] [(.ref a0)]) _
    refine XS.iloadN X0.here hx rfl (hb hby d11_1) rfl ?_
    show own_S p e below s₁ (mkF m 2 #[.val (.ref a0), .val (.int p1), .val (.int 2), .unset] [(.int p1), (.ref a0)]) _
    refine XS.iloadN X0.here hx rfl (hb hby d11_2) rfl ?_
    show own_S p e below s₁ (mkF m 3 #[.val (.ref a0), .val (.int p1), .val (.int 2), .unset] [.int 2, (.int p1), (.ref a0)]) _
    refine st43 _ ?_
    show own_S p e below T43 (mkF m 6 #[.val (.ref a0), .val (.int p1), .val (.int 2), .unset] [(.int (own_field2 len vs p1))]) _
    refine sg45 _ ?_
    show own_S p e below T43 (mkF m 21 #[.val (.ref a0), .val (.int p1), .val (.int 2), .val (.int (own_field2 len vs p1))] [(.int (own_ner2 p1 len vs))]) _
    exact retI X43 hx Bd.returns (hb hby d11_21) hr
  · show Q11_2 Z a0 p1 k len vs h0 n0 _ T43.heap _
    rw [e43]
    exact ⟨rfl, N43, rfl⟩
def own_ne2 (len : Int32) (vs : List Value) (p1 : Int32) : Int32 := (own_ner2 p1 len vs)
def own_wv1 (len p1 p2 : Int32) : Int32 := if ((len - p1) - p2) = (0 : Int32) then 1 else if ((len - p1) - p2) = (1 : Int32) then 1 else 0
def own_we1 (len : Int32) (vs : List Value) (p1 p2 : Int32) : Int32 := if ((len - p1) - p2) = (0 : Int32) then 0 else own_ne1 len vs (len - (1 : Int32))
theorem ef_10_vvv1 (m : MethodId) (a0 : Addr) (p1 : Int32) (p2 : Int32) : entryFrame m #[(.ref a0), (.int p1), (.int p2), (.int (1 : Int32))] 5 = mkF m 0 #[.val (.ref a0), .val (.int p1), .val (.int p2), .val (.int 1), .unset] [] := by first | (simp [entryFrame, mkF, argsToLocals, Value.category]; done) | rfl
theorem d10_0 : decode prog_3_method_3_code 0 = .ok (.aload_n 0, 1) := by decide +kernel
theorem d10_1 : decode prog_3_method_3_code 1 = .ok (.arraylength, 1) := by decide +kernel
theorem d10_2 : decode prog_3_method_3_code 2 = .ok (.iload_n 1, 1) := by decide +kernel
theorem d10_3 : decode prog_3_method_3_code 3 = .ok (.isub, 1) := by decide +kernel
theorem d10_4 : decode prog_3_method_3_code 4 = .ok (.iload_n 2, 1) := by decide +kernel
theorem d10_5 : decode prog_3_method_3_code 5 = .ok (.isub, 1) := by decide +kernel
theorem d10_6 : decode prog_3_method_3_code 6 = .ok (.istore 4, 2) := by decide +kernel
theorem d10_8 : decode prog_3_method_3_code 8 = .ok (.iload 4, 2) := by decide +kernel
theorem d10_10 : decode prog_3_method_3_code 10 = .ok (.ifCond .ne 15, 3) := by decide +kernel
theorem d10_13 : decode prog_3_method_3_code 13 = .ok (.new 8, 3) := by decide +kernel
theorem d10_16 : decode prog_3_method_3_code 16 = .ok (.dup, 1) := by decide +kernel
theorem d10_17 : decode prog_3_method_3_code 17 = .ok (.aload_n 0, 1) := by decide +kernel
theorem d10_18 : decode prog_3_method_3_code 18 = .ok (.iload_n 1, 1) := by decide +kernel
theorem d10_19 : decode prog_3_method_3_code 19 = .ok (.iload_n 2, 1) := by decide +kernel
theorem d10_20 : decode prog_3_method_3_code 20 = .ok (.iconst 0, 1) := by decide +kernel
theorem pd_7 : parseMethodDescriptor "([BIII)V" = some ⟨[(.array .byte), .int, .int, .int], none⟩ := by decide +kernel
theorem d10_21 : decode prog_3_method_3_code 21 = .ok (.invokespecial 25, 3) := by decide +kernel
theorem d10_24 : decode prog_3_method_3_code 24 = .ok (.areturn, 1) := by decide +kernel
theorem d10_25 : decode prog_3_method_3_code 25 = .ok (.iload 4, 2) := by decide +kernel
theorem d10_27 : decode prog_3_method_3_code 27 = .ok (.iload_n 3, 1) := by decide +kernel
theorem d10_28 : decode prog_3_method_3_code 28 = .ok (.if_icmp .eq 5, 3) := by decide +kernel
theorem d10_33 : decode prog_3_method_3_code 33 = .ok (.new 8, 3) := by decide +kernel
theorem d10_36 : decode prog_3_method_3_code 36 = .ok (.dup, 1) := by decide +kernel
theorem d10_37 : decode prog_3_method_3_code 37 = .ok (.aload_n 0, 1) := by decide +kernel
theorem d10_38 : decode prog_3_method_3_code 38 = .ok (.iload_n 1, 1) := by decide +kernel
theorem d10_39 : decode prog_3_method_3_code 39 = .ok (.iload_n 2, 1) := by decide +kernel
theorem d10_40 : decode prog_3_method_3_code 40 = .ok (.aload_n 0, 1) := by decide +kernel
theorem d10_41 : decode prog_3_method_3_code 41 = .ok (.aload_n 0, 1) := by decide +kernel
theorem d10_42 : decode prog_3_method_3_code 42 = .ok (.arraylength, 1) := by decide +kernel
theorem d10_43 : decode prog_3_method_3_code 43 = .ok (.iload_n 3, 1) := by decide +kernel
theorem d10_44 : decode prog_3_method_3_code 44 = .ok (.isub, 1) := by decide +kernel
theorem d10_45 : decode prog_3_method_3_code 45 = .ok (.iload_n 3, 1) := by decide +kernel
theorem d10_46 : decode prog_3_method_3_code 46 = .ok (.invokestatic 28, 3) := by decide +kernel
theorem d10_49 : decode prog_3_method_3_code 49 = .ok (.invokespecial 25, 3) := by decide +kernel
theorem d10_52 : decode prog_3_method_3_code 52 = .ok (.areturn, 1) := by decide +kernel
theorem d10_31 : decode prog_3_method_3_code 31 = .ok (.aconst_null, 1) := by decide +kernel
theorem d10_32 : decode prog_3_method_3_code 32 = .ok (.areturn, 1) := by decide +kernel
def Q10_1 (Z : State) (a0 : Addr) (p1 : Int32) (p2 : Int32) (k : ClassId) (len : Int32) (vs : List Value) (h0 : Heap) (n0 : Nat) (v : Option Value) (h : Heap) (L : List Loc) : Prop := (v = some .null ∧ Fr n0 L ∧ Keep h0 h [] ∧ own_wv1 len p1 p2 = 0) ∨ (∃ r : Addr, v = some (.ref r) ∧ Fr n0 L ∧ Keep h0 h [] ∧ h0.size ≤ r ∧ own_wv1 len p1 p2 = 1 ∧ Exa Z h r "com/example/chipmantle/chipmantle/CommandApdu" ∧ Fld Z h r "com/example/chipmantle/chipmantle/CommandApdu" "bytes" "[B" (.ref a0) ∧ Fld Z h r "com/example/chipmantle/chipmantle/CommandApdu" "offsetCdata" "I" (.int p1) ∧ Fld Z h r "com/example/chipmantle/chipmantle/CommandApdu" "nc" "I" (.int p2) ∧ Fld Z h r "com/example/chipmantle/chipmantle/CommandApdu" "ne" "I" (.int (own_we1 len vs p1 p2)))
set_option maxRecDepth 65536 in
set_option maxHeartbeats 40000000 in
theorem rm10_1 (l : Launch) (Z : State) (ag : Array Value) (hw : ∀ d ∈ tables_1, d.before ag Z = true) (ws : List Jvm.Cond) (a0 : Addr) (p1 : Int32) (p2 : Int32) (k : ClassId) (len : Int32) (vs : List Value) (h0 : Heap) (n0 : Nat) (Z0 : n0 ≤ h0.size) (V_a0 : Arv Z h0 a0 k .byte len vs (.int (0 : Int32))) (hl4 : 4 ≤ len.toInt) (hlm : len.toInt ≤ 65545) (hlL : 5 ≤ len.toInt) (ge_a0 : n0 ≤ a0) :
    MetFree l (⟨"com/example/chipmantle/chipmantle/CommandApdu", "withData", "([BIII)Lcom/example/chipmantle/chipmantle/CommandApdu;"⟩ : MethodName) (head1 (Jvm.Cond.code (⟨"com/example/chipmantle/chipmantle/CommandApdu", "withData", "([BIII)Lcom/example/chipmantle/chipmantle/CommandApdu;"⟩ : MethodName) prog_3_method_3_code 5 (some (.object "com/example/chipmantle/chipmantle/CommandApdu")) :: ws) ({ frames := 2, cells := 1, slots := 4, locals := 36 } : Room)) (fun a U => a = #[(.ref a0), (.int p1), (.int p2), (.int (1 : Int32))] ∧ Z.Warmed39 U.vm ∧ U.heap = h0) (fun _ _ _ _ _ => True) (fun _ U o U' => ∃ v L, o = .returned v ∧ Q10_1 Z a0 p1 p2 k len vs h0 n0 v U'.heap L ∧ FrameEnd U o U' L ({ frames := 2, cells := 1, slots := 4, locals := 36 } : Room).cells ({ frames := 2, cells := 1, slots := 4, locals := 36 } : Room).slots) := by
  refine MetFree.of_bodySF (plainFor_of_name pn_0) hisR ?_
  intro p e s m args below meth c s₁ Bd hml0 hP hK
  obtain ⟨rfl, hZ, hh⟩ := hP
  have hx := Bd.exec
  have hby := Bd.bytes
  have hml : c.maxLocals = 5 := hml0
  have hown : s.vm.findClass "com/example/chipmantle/chipmantle/CommandApdu" = some m.cls := findClass_of_methodNamed Bd.named
  have hnm := (name_of_methodNamed Bd.named Bd.method).1
  have X0 : Stand p l e ({ frames := 2, cells := 1, slots := 4, locals := 36 } : Room) s m #[(.ref a0), (.int p1), (.int p2), (.int (1 : Int32))] below meth c s₁ [] 0 0 := Stand.of_body Bd
  have e0 : s₁.heap = h0 := by rw [← hh, Bd.state]; rfl
  have N0 := Fr.nil n0
  have pre0 : ∀ t, Steps p.tables e below (s₁.setTop (mkF m 0 #[.val (.ref a0), .val (.int p1), .val (.int p2), .val (.int 1), .unset] [])) t → Steps p.tables e below (s₁.setTop (entryFrame m #[(.ref a0), (.int p1), (.int p2), (.int (1 : Int32))] 5)) t := fun t k => castTop (ef_10_vvv1 m a0 p1 p2) k
  obtain ⟨cl46, Ar46, -, S46, M46, -, -⟩ := id V_a0
  have ld46 := X0.arraylength hx (by rw [e0]; exact Ar46.1) (State.isArrayOf_alike hZ.alike Ar46.2.1) (g := (mkF m 1 #[.val (.ref a0), .val (.int p1), .val (.int p2), .val (.int 1), .unset] [(.ref a0)])) rfl rfl (hb hby d10_1)
  have cp48 : ∀ target, own_S p e below s₁ (mkF m 10 #[.val (.ref a0), .val (.int p1), .val (.int p2), .val (.int 1), .val (.int ((len - p1) - p2))] [(.int ((len - p1) - p2))]) target → own_S p e below s₁ (mkF m 0 #[.val (.ref a0), .val (.int p1), .val (.int p2), .val (.int 1), .unset] []) target := by
    intro target kt
    show own_S p e below s₁ (mkF m 0 #[.val (.ref a0), .val (.int p1), .val (.int p2), .val (.int 1), .unset] []) _
    refine XS.aloadN X0.here hx rfl (hb hby d10_0) rfl rfl ?_
    show own_S p e below s₁ (mkF m 1 #[.val (.ref a0), .val (.int p1), .val (.int p2), .val (.int 1), .unset] [(.ref a0)]) _
    refine ld46 _ ?_
    rw [len_of S46 M46]
    show own_S p e below s₁ (mkF m 2 #[.val (.ref a0), .val (.int p1), .val (.int p2), .val (.int 1), .unset] [(.int len)]) _
    refine XS.iloadN X0.here hx rfl (hb hby d10_2) rfl ?_
    show own_S p e below s₁ (mkF m 3 #[.val (.ref a0), .val (.int p1), .val (.int p2), .val (.int 1), .unset] [(.int p1), (.int len)]) _
    refine XS.isub X0.here hx rfl (hb hby d10_3) rfl ?_
    show own_S p e below s₁ (mkF m 4 #[.val (.ref a0), .val (.int p1), .val (.int p2), .val (.int 1), .unset] [(.int (len - p1))]) _
    refine XS.iloadN X0.here hx rfl (hb hby d10_4) rfl ?_
    show own_S p e below s₁ (mkF m 5 #[.val (.ref a0), .val (.int p1), .val (.int p2), .val (.int 1), .unset] [(.int p2), (.int (len - p1))]) _
    refine XS.isub X0.here hx rfl (hb hby d10_5) rfl ?_
    show own_S p e below s₁ (mkF m 6 #[.val (.ref a0), .val (.int p1), .val (.int p2), .val (.int 1), .unset] [(.int ((len - p1) - p2))]) _
    refine XS.istore X0.here hx rfl (hb hby d10_6) rfl (l' := #[.val (.ref a0), .val (.int p1), .val (.int p2), .val (.int 1), .val (.int ((len - p1) - p2))]) rfl ?_
    show own_S p e below s₁ (mkF m 8 #[.val (.ref a0), .val (.int p1), .val (.int p2), .val (.int 1), .val (.int ((len - p1) - p2))] []) _
    refine XS.iload X0.here hx rfl (hb hby d10_8) rfl ?_
    exact kt
  by_cases hc47 : ((len - p1) - p2) = (0 : Int32)
  · obtain ⟨T49, h49, X49, e49, E49, A49, D49, -, st49⟩ := newO X0 hx hZ hown (hw _ (List.mem_of_getElem? (i := 6) rfl)) (hw _ (List.mem_of_getElem? (i := 7) rfl)) (hw _ (List.mem_of_getElem? (i := 4) rfl)) e0 (g := (mkF m 13 #[.val (.ref a0), .val (.int p1), .val (.int p2), .val (.int 1), .val (.int ((len - p1) - p2))] [])) rfl (hb hby d10_13) (by decide) (by decide)
    obtain ⟨b49, g49⟩ : ∃ z, z = h0.size := ⟨_, rfl⟩
    have ne50 : a0 ≠ b49 := Nat.ne_of_lt (Nat.lt_of_lt_of_le V_a0.lt (Nat.le_of_eq g49.symm))
    have ge_b49 : n0 ≤ b49 := Nat.le_trans Z0 (Nat.le_of_eq g49.symm)
    have gs_b49 : h0.size ≤ b49 := Nat.le_trans (Keep.refl h0 []).1 (Nat.le_of_eq g49.symm)
    rw [← g49] at A49 D49 st49
    have x51 := V_a0.ext E49
    have sz52 : n0 ≤ h49.size := Nat.le_trans Z0 E49.1
    have kp53 : Keep h0 h49 [] := (Keep.refl h0 []).ext E49
    have F49_bytes : Fld Z h49 b49 "com/example/chipmantle/chipmantle/CommandApdu" "bytes" "[B" .null := D49 (Or.inr (hw _ (List.mem_of_getElem? (i := 15) rfl))) (ty := (.array .byte)) (by decide)
    have F49_offsetCdata : Fld Z h49 b49 "com/example/chipmantle/chipmantle/CommandApdu" "offsetCdata" "I" (.int (0 : Int32)) := D49 (Or.inr (hw _ (List.mem_of_getElem? (i := 17) rfl))) (ty := .int) (by decide)
    have F49_nc : Fld Z h49 b49 "com/example/chipmantle/chipmantle/CommandApdu" "nc" "I" (.int (0 : Int32)) := D49 (Or.inr (hw _ (List.mem_of_getElem? (i := 19) rfl))) (ty := .int) (by decide)
    have F49_ne : Fld Z h49 b49 "com/example/chipmantle/chipmantle/CommandApdu" "ne" "I" (.int (0 : Int32)) := D49 (Or.inr (hw _ (List.mem_of_getElem? (i := 21) rfl))) (ty := .int) (by decide)
    obtain ⟨_, _, ⟨T54, L54, k54, n54⟩, -, X54, ⟨Lc54, hQ54, l54, y54, z54⟩, st54⟩ := X49.specialBack hx (y := (⟨"com/example/chipmantle/chipmantle/CommandApdu", "<init>", "([BIII)V"⟩ : MethodName)) rfl hown (mvT hZ (hw _ (List.mem_of_getElem? (i := 8) rfl))) (mvT hZ (hw _ (List.mem_of_getElem? (i := 9) rfl))) (mvT hZ (hw _ (List.mem_of_getElem? (i := 10) rfl))) (by decide) (backOf (W := 1) (rm2 l Z ag hw [] b49 a0 p1 p2 (0 : Int32)  h49 n0 sz52 A49 ge_b49 F49_bytes F49_offsetCdata F49_nc F49_ne) hZ (hw _ (List.mem_of_getElem? (i := 10) rfl)) (hw _ (List.mem_of_getElem? (i := 4) rfl)) (by decide) (by decide)) (g := (mkF m 21 #[.val (.ref a0), .val (.int p1), .val (.int p2), .val (.int 1), .val (.int ((len - p1) - p2))] [.int 0, (.int p2), (.int p1), (.ref a0), (.ref b49), (.ref b49)])) rfl (by rw [hml]; rfl) (Steps.refl _) (a := b49) (argsL := [(.ref a0), (.int p1), (.int p2), (.int (0 : Int32))]) (rest := [(.ref b49)]) (lenOf pd_7 rfl) rfl (by show 2 * 0 + _ ≤ _; exact Nat.le_of_eq rfl) (hb hby d10_21) (fun _ _ => ⟨rfl, e49, (by decide : 1 + 0 ≤ _), (by decide : 4 + 0 ≤ _)⟩)
    dsimp only [Pt.U, Pt.locs, Pt.cells, Pt.slots] at X54 l54 y54 z54 st54 hQ54
    subst l54 y54 z54
    obtain ⟨rfl, N54q, K54, F154, F254, F354, F454⟩ := hQ54
    have N54 := Fr.app N0 N54q
    have x55 := x51.keep K54 (ninS ne50 nin0)
    have x56 := A49.keep K54
    have sz57 : n0 ≤ T54.heap.size := Nat.le_trans sz52 K54.1
    have kp58 : Keep h0 T54.heap [] := kp53.trans K54 (allS (Or.inr gs_b49) all0)
    obtain ⟨fs, hr, hrun, hended, hW, hsame⟩ := X54.leave (v := some (.ref b49)) (fun h => by rw [Bd.returns] at h; cases h)
    refine ⟨_, _, pre0 _ ?_, hrun, hended, _, _, rfl, ?_, ⟨_, rfl⟩, hW, hsame.mono (by decide) (by decide)⟩
    · show own_S p e below s₁ (mkF m 0 #[.val (.ref a0), .val (.int p1), .val (.int p2), .val (.int 1), .unset] []) _
      refine cp48 _ ?_
      show own_S p e below s₁ (mkF m 10 #[.val (.ref a0), .val (.int p1), .val (.int p2), .val (.int 1), .val (.int ((len - p1) - p2))] [(.int ((len - p1) - p2))]) _
      refine XS.ifNo X0.here hx rfl (hb hby d10_10) rfl ((if0 _ _).trans (teq hc47).2) ?_
      show own_S p e below s₁ (mkF m 13 #[.val (.ref a0), .val (.int p1), .val (.int p2), .val (.int 1), .val (.int ((len - p1) - p2))] []) _
      refine st49 _ ?_
      show own_S p e below T49 (mkF m 16 #[.val (.ref a0), .val (.int p1), .val (.int p2), .val (.int 1), .val (.int ((len - p1) - p2))] [(.ref b49)]) _
      refine XS.dup X49.here hx rfl (hb hby d10_16) rfl rfl ?_
      show own_S p e below T49 (mkF m 17 #[.val (.ref a0), .val (.int p1), .val (.int p2), .val (.int 1), .val (.int ((len - p1) - p2))] [(.ref b49), (.ref b49)]) _
      refine XS.aloadN X49.here hx rfl (hb hby d10_17) rfl rfl ?_
      show own_S p e below T49 (mkF m 18 #[.val (.ref a0), .val (.int p1), .val (.int p2), .val (.int 1), .val (.int ((len - p1) - p2))] [(.ref a0), (.ref b49), (.ref b49)]) _
      refine XS.iloadN X49.here hx rfl (hb hby d10_18) rfl ?_
      show own_S p e below T49 (mkF m 19 #[.val (.ref a0), .val (.int p1), .val (.int p2), .val (.int 1), .val (.int ((len - p1) - p2))] [(.int p1), (.ref a0), (.ref b49), (.ref b49)]) _
      refine XS.iloadN X49.here hx rfl (hb hby d10_19) rfl ?_
      show own_S p e below T49 (mkF m 20 #[.val (.ref a0), .val (.int p1), .val (.int p2), .val (.int 1), .val (.int ((len - p1) - p2))] [(.int p2), (.int p1), (.ref a0), (.ref b49), (.ref b49)]) _
      refine XS.iconst X49.here hx rfl (hb hby d10_20) ?_
      show own_S p e below T49 (mkF m 21 #[.val (.ref a0), .val (.int p1), .val (.int p2), .val (.int 1), .val (.int ((len - p1) - p2))] [.int 0, (.int p2), (.int p1), (.ref a0), (.ref b49), (.ref b49)]) _
      refine st54.trans ?_
      show own_S p e below T54 (mkF m 24 #[.val (.ref a0), .val (.int p1), .val (.int p2), .val (.int 1), .val (.int ((len - p1) - p2))] [(.ref b49)]) _
      exact Jvm.RoadKit.retOut X54 hx Bd.returns rfl (Or.inr (Or.inr (Or.inr (Or.inr ⟨rfl, rfl, rfl⟩)))) (hb hby d10_24) hr
    · show Q10_1 Z a0 p1 p2 k len vs h0 n0 _ T54.heap _
      have Fz1 := own_cast (P := fun z => Fld Z T54.heap b49 "com/example/chipmantle/chipmantle/CommandApdu" "offsetCdata" "I" (.int z)) rfl F254
      have Fz2 := own_cast (P := fun z => Fld Z T54.heap b49 "com/example/chipmantle/chipmantle/CommandApdu" "nc" "I" (.int z)) rfl F354
      have Fz3 := own_cast (P := fun z => Fld Z T54.heap b49 "com/example/chipmantle/chipmantle/CommandApdu" "ne" "I" (.int z)) (show _ = own_we1 len vs p1 p2 from by unfold own_we1; rw [if_pos hc47]) F454
      exact Or.inr ⟨b49, rfl, N54, kp58, gs_b49, (by unfold own_wv1; rw [if_pos hc47]), x56, F154, Fz1, Fz2, Fz3⟩
  · have cp60 : ∀ target, own_S p e below s₁ (mkF m 28 #[.val (.ref a0), .val (.int p1), .val (.int p2), .val (.int 1), .val (.int ((len - p1) - p2))] [.int 1, (.int ((len - p1) - p2))]) target → own_S p e below s₁ (mkF m 0 #[.val (.ref a0), .val (.int p1), .val (.int p2), .val (.int 1), .unset] []) target := by
      intro target kt
      show own_S p e below s₁ (mkF m 0 #[.val (.ref a0), .val (.int p1), .val (.int p2), .val (.int 1), .unset] []) _
      refine cp48 _ ?_
      show own_S p e below s₁ (mkF m 10 #[.val (.ref a0), .val (.int p1), .val (.int p2), .val (.int 1), .val (.int ((len - p1) - p2))] [(.int ((len - p1) - p2))]) _
      refine XS.ifYes X0.here hx rfl (pc0 := 10) (pc' := 25) rfl (hb hby d10_10) rfl ((if0 _ _).trans (feq hc47).2) (by decide) (by decide) ?_
      show own_S p e below s₁ (mkF m 25 #[.val (.ref a0), .val (.int p1), .val (.int p2), .val (.int 1), .val (.int ((len - p1) - p2))] []) _
      refine XS.iload X0.here hx rfl (hb hby d10_25) rfl ?_
      show own_S p e below s₁ (mkF m 27 #[.val (.ref a0), .val (.int p1), .val (.int p2), .val (.int 1), .val (.int ((len - p1) - p2))] [(.int ((len - p1) - p2))]) _
      refine XS.iloadN X0.here hx rfl (hb hby d10_27) rfl ?_
      exact kt
    by_cases hc59 : ((len - p1) - p2) = (1 : Int32)
    · obtain ⟨T61, h61, X61, e61, E61, A61, D61, -, st61⟩ := newO X0 hx hZ hown (hw _ (List.mem_of_getElem? (i := 6) rfl)) (hw _ (List.mem_of_getElem? (i := 7) rfl)) (hw _ (List.mem_of_getElem? (i := 4) rfl)) e0 (g := (mkF m 33 #[.val (.ref a0), .val (.int p1), .val (.int p2), .val (.int 1), .val (.int ((len - p1) - p2))] [])) rfl (hb hby d10_33) (by decide) (by decide)
      obtain ⟨b61, g61⟩ : ∃ z, z = h0.size := ⟨_, rfl⟩
      have ne62 : a0 ≠ b61 := Nat.ne_of_lt (Nat.lt_of_lt_of_le V_a0.lt (Nat.le_of_eq g61.symm))
      have ge_b61 : n0 ≤ b61 := Nat.le_trans Z0 (Nat.le_of_eq g61.symm)
      have gs_b61 : h0.size ≤ b61 := Nat.le_trans (Keep.refl h0 []).1 (Nat.le_of_eq g61.symm)
      rw [← g61] at A61 D61 st61
      have x63 := V_a0.ext E61
      have sz64 : n0 ≤ h61.size := Nat.le_trans Z0 E61.1
      have kp65 : Keep h0 h61 [] := (Keep.refl h0 []).ext E61
      have F61_bytes : Fld Z h61 b61 "com/example/chipmantle/chipmantle/CommandApdu" "bytes" "[B" .null := D61 (Or.inr (hw _ (List.mem_of_getElem? (i := 15) rfl))) (ty := (.array .byte)) (by decide)
      have F61_offsetCdata : Fld Z h61 b61 "com/example/chipmantle/chipmantle/CommandApdu" "offsetCdata" "I" (.int (0 : Int32)) := D61 (Or.inr (hw _ (List.mem_of_getElem? (i := 17) rfl))) (ty := .int) (by decide)
      have F61_nc : Fld Z h61 b61 "com/example/chipmantle/chipmantle/CommandApdu" "nc" "I" (.int (0 : Int32)) := D61 (Or.inr (hw _ (List.mem_of_getElem? (i := 19) rfl))) (ty := .int) (by decide)
      have F61_ne : Fld Z h61 b61 "com/example/chipmantle/chipmantle/CommandApdu" "ne" "I" (.int (0 : Int32)) := D61 (Or.inr (hw _ (List.mem_of_getElem? (i := 21) rfl))) (ty := .int) (by decide)
      obtain ⟨cl66, Ar66, -, S66, M66, -, -⟩ := id x63
      have ld66 := X61.arraylength hx (by rw [e61]; exact Ar66.1) (State.isArrayOf_alike hZ.alike Ar66.2.1) (g := (mkF m 42 #[.val (.ref a0), .val (.int p1), .val (.int p2), .val (.int 1), .val (.int ((len - p1) - p2))] [(.ref a0), (.ref a0), (.int p2), (.int p1), (.ref a0), (.ref b61), (.ref b61)])) rfl rfl (hb hby d10_42)
      have cp67 : ∀ target, own_S p e below T61 (mkF m 46 #[.val (.ref a0), .val (.int p1), .val (.int p2), .val (.int 1), .val (.int ((len - p1) - p2))] [.int 1, (.int (len - (1 : Int32))), (.ref a0), (.int p2), (.int p1), (.ref a0), (.ref b61), (.ref b61)]) target → own_S p e below s₁ (mkF m 0 #[.val (.ref a0), .val (.int p1), .val (.int p2), .val (.int 1), .unset] []) target := by
        intro target kt
        show own_S p e below s₁ (mkF m 0 #[.val (.ref a0), .val (.int p1), .val (.int p2), .val (.int 1), .unset] []) _
        refine cp60 _ ?_
        show own_S p e below s₁ (mkF m 28 #[.val (.ref a0), .val (.int p1), .val (.int p2), .val (.int 1), .val (.int ((len - p1) - p2))] [.int 1, (.int ((len - p1) - p2))]) _
        refine XS.icmpYes X0.here hx rfl (pc0 := 28) (pc' := 33) rfl (hb hby d10_28) rfl (teq hc59).1 (by decide) (by decide) ?_
        show own_S p e below s₁ (mkF m 33 #[.val (.ref a0), .val (.int p1), .val (.int p2), .val (.int 1), .val (.int ((len - p1) - p2))] []) _
        refine st61 _ ?_
        show own_S p e below T61 (mkF m 36 #[.val (.ref a0), .val (.int p1), .val (.int p2), .val (.int 1), .val (.int ((len - p1) - p2))] [(.ref b61)]) _
        refine XS.dup X61.here hx rfl (hb hby d10_36) rfl rfl ?_
        show own_S p e below T61 (mkF m 37 #[.val (.ref a0), .val (.int p1), .val (.int p2), .val (.int 1), .val (.int ((len - p1) - p2))] [(.ref b61), (.ref b61)]) _
        refine XS.aloadN X61.here hx rfl (hb hby d10_37) rfl rfl ?_
        show own_S p e below T61 (mkF m 38 #[.val (.ref a0), .val (.int p1), .val (.int p2), .val (.int 1), .val (.int ((len - p1) - p2))] [(.ref a0), (.ref b61), (.ref b61)]) _
        refine XS.iloadN X61.here hx rfl (hb hby d10_38) rfl ?_
        show own_S p e below T61 (mkF m 39 #[.val (.ref a0), .val (.int p1), .val (.int p2), .val (.int 1), .val (.int ((len - p1) - p2))] [(.int p1), (.ref a0), (.ref b61), (.ref b61)]) _
        refine XS.iloadN X61.here hx rfl (hb hby d10_39) rfl ?_
        show own_S p e below T61 (mkF m 40 #[.val (.ref a0), .val (.int p1), .val (.int p2), .val (.int 1), .val (.int ((len - p1) - p2))] [(.int p2), (.int p1), (.ref a0), (.ref b61), (.ref b61)]) _
        refine XS.aloadN X61.here hx rfl (hb hby d10_40) rfl rfl ?_
        show own_S p e below T61 (mkF m 41 #[.val (.ref a0), .val (.int p1), .val (.int p2), .val (.int 1), .val (.int ((len - p1) - p2))] [(.ref a0), (.int p2), (.int p1), (.ref a0), (.ref b61), (.ref b61)]) _
        refine XS.aloadN X61.here hx rfl (hb hby d10_41) rfl rfl ?_
        show own_S p e below T61 (mkF m 42 #[.val (.ref a0), .val (.int p1), .val (.int p2), .val (.int 1), .val (.int ((len - p1) - p2))] [(.ref a0), (.ref a0), (.int p2), (.int p1), (.ref a0), (.ref b61), (.ref b61)]) _
        refine ld66 _ ?_
        rw [len_of S66 M66]
        show own_S p e below T61 (mkF m 43 #[.val (.ref a0), .val (.int p1), .val (.int p2), .val (.int 1), .val (.int ((len - p1) - p2))] [(.int len), (.ref a0), (.int p2), (.int p1), (.ref a0), (.ref b61), (.ref b61)]) _
        refine XS.iloadN X61.here hx rfl (hb hby d10_43) rfl ?_
        show own_S p e below T61 (mkF m 44 #[.val (.ref a0), .val (.int p1), .val (.int p2), .val (.int 1), .val (.int ((len - p1) - p2))] [.int 1, (.int len), (.ref a0), (.int p2), (.int p1), (.ref a0), (.ref b61), (.ref b61)]) _
        refine XS.isub X61.here hx rfl (hb hby d10_44) rfl ?_
        show own_S p e below T61 (mkF m 45 #[.val (.ref a0), .val (.int p1), .val (.int p2), .val (.int 1), .val (.int ((len - p1) - p2))] [(.int (len - (1 : Int32))), (.ref a0), (.int p2), (.int p1), (.ref a0), (.ref b61), (.ref b61)]) _
        refine XS.iloadN X61.here hx rfl (hb hby d10_45) rfl ?_
        exact kt
      obtain ⟨_, _, ⟨T68, L68, k68, n68⟩, -, X68, ⟨Lc68, hQ68, l68, y68, z68⟩, st68⟩ := Jvm.LawKit.callS X61 hx (y := (⟨"com/example/chipmantle/chipmantle/CommandApdu", "ne", "([BII)I"⟩ : MethodName)) hown (mvT hZ (hw _ (List.mem_of_getElem? (i := 53) rfl))) (mvT hZ (hw _ (List.mem_of_getElem? (i := 54) rfl))) (mvT hZ (hw _ (List.mem_of_getElem? (i := 4) rfl))) (mvT hZ (hw _ (List.mem_of_getElem? (i := 55) rfl))) (by decide) (backOf (W := 5) (rm11_1 l Z ag hw [] a0 (len - (1 : Int32)) k len vs h61 n0 sz64 x63 hl4 hlm (own_lm1 len hl4 hlm).1 (own_lm1 len hl4 hlm).2) hZ (hw _ (List.mem_of_getElem? (i := 55) rfl)) (hw _ (List.mem_of_getElem? (i := 4) rfl)) (by decide) (by decide)) (g := (mkF m 46 #[.val (.ref a0), .val (.int p1), .val (.int p2), .val (.int 1), .val (.int ((len - p1) - p2))] [.int 1, (.int (len - (1 : Int32))), (.ref a0), (.int p2), (.int p1), (.ref a0), (.ref b61), (.ref b61)])) rfl (by rw [hml]; rfl) (argsL := [(.ref a0), (.int (len - (1 : Int32))), (.int (1 : Int32))]) (rest := [(.int p2), (.int p1), (.ref a0), (.ref b61), (.ref b61)]) (lenOf pd_5 rfl) rfl (by show 2 * 0 + _ ≤ _; exact Nat.le_of_eq rfl) (hb hby d10_46) (fun _ _ => ⟨rfl, e61, (by decide : 1 + 0 ≤ _), (by decide : 4 + 0 ≤ _)⟩)
      dsimp only [Pt.U, Pt.locs, Pt.cells, Pt.slots] at X68 l68 y68 z68 st68 hQ68
      subst l68 y68 z68
      obtain ⟨rfl, N68q, e68⟩ := hQ68
      have N68 := Fr.app N0 N68q
      obtain ⟨_, _, ⟨T69, L69, k69, n69⟩, -, X69, ⟨Lc69, hQ69, l69, y69, z69⟩, st69⟩ := X68.specialBack hx (y := (⟨"com/example/chipmantle/chipmantle/CommandApdu", "<init>", "([BIII)V"⟩ : MethodName)) rfl hown (mvT hZ (hw _ (List.mem_of_getElem? (i := 8) rfl))) (mvT hZ (hw _ (List.mem_of_getElem? (i := 9) rfl))) (mvT hZ (hw _ (List.mem_of_getElem? (i := 10) rfl))) (by decide) (backOf (W := 1) (rm2 l Z ag hw [] b61 a0 p1 p2 (own_ne1 len vs (len - (1 : Int32)))  h61 n0 sz64 A61 ge_b61 F61_bytes F61_offsetCdata F61_nc F61_ne) hZ (hw _ (List.mem_of_getElem? (i := 10) rfl)) (hw _ (List.mem_of_getElem? (i := 4) rfl)) (by decide) (by decide)) (g := (mkF m 49 #[.val (.ref a0), .val (.int p1), .val (.int p2), .val (.int 1), .val (.int ((len - p1) - p2))] [(.int (own_ne1 len vs (len - (1 : Int32)))), (.int p2), (.int p1), (.ref a0), (.ref b61), (.ref b61)])) rfl (by rw [hml]; rfl) (Steps.refl _) (a := b61) (argsL := [(.ref a0), (.int p1), (.int p2), (.int (own_ne1 len vs (len - (1 : Int32))))]) (rest := [(.ref b61)]) (lenOf pd_7 rfl) rfl (by show 2 * 0 + _ ≤ _; exact Nat.le_of_eq rfl) (hb hby d10_49) (fun _ _ => ⟨rfl, e68, (by decide : 1 + 0 ≤ _), (by decide : 4 + 0 ≤ _)⟩)
      dsimp only [Pt.U, Pt.locs, Pt.cells, Pt.slots] at X69 l69 y69 z69 st69 hQ69
      subst l69 y69 z69
      obtain ⟨rfl, N69q, K69, F169, F269, F369, F469⟩ := hQ69
      have N69 := Fr.app N68 N69q
      have x70 := x63.keep K69 (ninS ne62 nin0)
      have x71 := A61.keep K69
      have sz72 : n0 ≤ T69.heap.size := Nat.le_trans sz64 K69.1
      have kp73 : Keep h0 T69.heap [] := kp65.trans K69 (allS (Or.inr gs_b61) all0)
      obtain ⟨fs, hr, hrun, hended, hW, hsame⟩ := X69.leave (v := some (.ref b61)) (fun h => by rw [Bd.returns] at h; cases h)
      refine ⟨_, _, pre0 _ ?_, hrun, hended, _, _, rfl, ?_, ⟨_, rfl⟩, hW, hsame.mono (by decide) (by decide)⟩
      · show own_S p e below s₁ (mkF m 0 #[.val (.ref a0), .val (.int p1), .val (.int p2), .val (.int 1), .unset] []) _
        refine cp67 _ ?_
        show own_S p e below T61 (mkF m 46 #[.val (.ref a0), .val (.int p1), .val (.int p2), .val (.int 1), .val (.int ((len - p1) - p2))] [.int 1, (.int (len - (1 : Int32))), (.ref a0), (.int p2), (.int p1), (.ref a0), (.ref b61), (.ref b61)]) _
        refine st68 _ ?_
        show own_S p e below T68 (mkF m 49 #[.val (.ref a0), .val (.int p1), .val (.int p2), .val (.int 1), .val (.int ((len - p1) - p2))] [(.int (own_ne1 len vs (len - (1 : Int32)))), (.int p2), (.int p1), (.ref a0), (.ref b61), (.ref b61)]) _
        refine st69.trans ?_
        show own_S p e below T69 (mkF m 52 #[.val (.ref a0), .val (.int p1), .val (.int p2), .val (.int 1), .val (.int ((len - p1) - p2))] [(.ref b61)]) _
        exact Jvm.RoadKit.retOut X69 hx Bd.returns rfl (Or.inr (Or.inr (Or.inr (Or.inr ⟨rfl, rfl, rfl⟩)))) (hb hby d10_52) hr
      · show Q10_1 Z a0 p1 p2 k len vs h0 n0 _ T69.heap _
        have Fz1 := own_cast (P := fun z => Fld Z T69.heap b61 "com/example/chipmantle/chipmantle/CommandApdu" "offsetCdata" "I" (.int z)) rfl F269
        have Fz2 := own_cast (P := fun z => Fld Z T69.heap b61 "com/example/chipmantle/chipmantle/CommandApdu" "nc" "I" (.int z)) rfl F369
        have Fz3 := own_cast (P := fun z => Fld Z T69.heap b61 "com/example/chipmantle/chipmantle/CommandApdu" "ne" "I" (.int z)) (show _ = own_we1 len vs p1 p2 from by unfold own_we1; rw [if_neg hc47]) F469
        exact Or.inr ⟨b61, rfl, N69, kp73, gs_b61, (by unfold own_wv1; rw [if_neg hc47, if_pos hc59]), x71, F169, Fz1, Fz2, Fz3⟩
    · obtain ⟨fs, hr, hrun, hended, hW, hsame⟩ := X0.leave (v := some .null) (fun h => by rw [Bd.returns] at h; cases h)
      refine ⟨_, _, pre0 _ ?_, hrun, hended, _, _, rfl, ?_, ⟨_, rfl⟩, hW, hsame.mono (by decide) (by decide)⟩
      · show own_S p e below s₁ (mkF m 0 #[.val (.ref a0), .val (.int p1), .val (.int p2), .val (.int 1), .unset] []) _
        refine cp60 _ ?_
        show own_S p e below s₁ (mkF m 28 #[.val (.ref a0), .val (.int p1), .val (.int p2), .val (.int 1), .val (.int ((len - p1) - p2))] [.int 1, (.int ((len - p1) - p2))]) _
        refine XS.icmpNo X0.here hx rfl (hb hby d10_28) rfl (feq hc59).1 ?_
        show own_S p e below s₁ (mkF m 31 #[.val (.ref a0), .val (.int p1), .val (.int p2), .val (.int 1), .val (.int ((len - p1) - p2))] []) _
        refine XS.aconstNull X0.here hx rfl (hb hby d10_31) ?_
        show own_S p e below s₁ (mkF m 32 #[.val (.ref a0), .val (.int p1), .val (.int p2), .val (.int 1), .val (.int ((len - p1) - p2))] [.null]) _
        exact Jvm.RoadKit.retOut X0 hx Bd.returns rfl (Or.inr (Or.inr (Or.inr (Or.inr ⟨rfl, rfl, rfl⟩)))) (hb hby d10_32) hr
      · show Q10_1 Z a0 p1 p2 k len vs h0 n0 _ s₁.heap _
        rw [e0]
        exact Or.inl ⟨rfl, N0, (Keep.refl h0 []), (by unfold own_wv1; rw [if_neg hc47, if_neg hc59])⟩
def own_wv2 (len p1 p2 : Int32) : Int32 := if ((len - p1) - p2) = (0 : Int32) then 1 else if ((len - p1) - p2) = (2 : Int32) then 1 else 0
def own_we2 (len : Int32) (vs : List Value) (p1 p2 : Int32) : Int32 := if ((len - p1) - p2) = (0 : Int32) then 0 else own_ne2 len vs (len - (2 : Int32))
theorem ef_10_vvv2 (m : MethodId) (a0 : Addr) (p1 : Int32) (p2 : Int32) : entryFrame m #[(.ref a0), (.int p1), (.int p2), (.int (2 : Int32))] 5 = mkF m 0 #[.val (.ref a0), .val (.int p1), .val (.int p2), .val (.int 2), .unset] [] := by first | (simp [entryFrame, mkF, argsToLocals, Value.category]; done) | rfl
def Q10_2 (Z : State) (a0 : Addr) (p1 : Int32) (p2 : Int32) (k : ClassId) (len : Int32) (vs : List Value) (h0 : Heap) (n0 : Nat) (v : Option Value) (h : Heap) (L : List Loc) : Prop := (v = some .null ∧ Fr n0 L ∧ Keep h0 h [] ∧ own_wv2 len p1 p2 = 0) ∨ (∃ r : Addr, v = some (.ref r) ∧ Fr n0 L ∧ Keep h0 h [] ∧ h0.size ≤ r ∧ own_wv2 len p1 p2 = 1 ∧ Exa Z h r "com/example/chipmantle/chipmantle/CommandApdu" ∧ Fld Z h r "com/example/chipmantle/chipmantle/CommandApdu" "bytes" "[B" (.ref a0) ∧ Fld Z h r "com/example/chipmantle/chipmantle/CommandApdu" "offsetCdata" "I" (.int p1) ∧ Fld Z h r "com/example/chipmantle/chipmantle/CommandApdu" "nc" "I" (.int p2) ∧ Fld Z h r "com/example/chipmantle/chipmantle/CommandApdu" "ne" "I" (.int (own_we2 len vs p1 p2)))
set_option maxRecDepth 65536 in
set_option maxHeartbeats 40000000 in
theorem rm10_2 (l : Launch) (Z : State) (ag : Array Value) (hw : ∀ d ∈ tables_1, d.before ag Z = true) (ws : List Jvm.Cond) (a0 : Addr) (p1 : Int32) (p2 : Int32) (k : ClassId) (len : Int32) (vs : List Value) (h0 : Heap) (n0 : Nat) (Z0 : n0 ≤ h0.size) (V_a0 : Arv Z h0 a0 k .byte len vs (.int (0 : Int32))) (hl4 : 4 ≤ len.toInt) (hlm : len.toInt ≤ 65545) (hlL : 6 ≤ len.toInt) (ge_a0 : n0 ≤ a0) :
    MetFree l (⟨"com/example/chipmantle/chipmantle/CommandApdu", "withData", "([BIII)Lcom/example/chipmantle/chipmantle/CommandApdu;"⟩ : MethodName) (head1 (Jvm.Cond.code (⟨"com/example/chipmantle/chipmantle/CommandApdu", "withData", "([BIII)Lcom/example/chipmantle/chipmantle/CommandApdu;"⟩ : MethodName) prog_3_method_3_code 5 (some (.object "com/example/chipmantle/chipmantle/CommandApdu")) :: ws) ({ frames := 2, cells := 1, slots := 4, locals := 36 } : Room)) (fun a U => a = #[(.ref a0), (.int p1), (.int p2), (.int (2 : Int32))] ∧ Z.Warmed39 U.vm ∧ U.heap = h0) (fun _ _ _ _ _ => True) (fun _ U o U' => ∃ v L, o = .returned v ∧ Q10_2 Z a0 p1 p2 k len vs h0 n0 v U'.heap L ∧ FrameEnd U o U' L ({ frames := 2, cells := 1, slots := 4, locals := 36 } : Room).cells ({ frames := 2, cells := 1, slots := 4, locals := 36 } : Room).slots) := by
  refine MetFree.of_bodySF (plainFor_of_name pn_0) hisR ?_
  intro p e s m args below meth c s₁ Bd hml0 hP hK
  obtain ⟨rfl, hZ, hh⟩ := hP
  have hx := Bd.exec
  have hby := Bd.bytes
  have hml : c.maxLocals = 5 := hml0
  have hown : s.vm.findClass "com/example/chipmantle/chipmantle/CommandApdu" = some m.cls := findClass_of_methodNamed Bd.named
  have hnm := (name_of_methodNamed Bd.named Bd.method).1
  have X0 : Stand p l e ({ frames := 2, cells := 1, slots := 4, locals := 36 } : Room) s m #[(.ref a0), (.int p1), (.int p2), (.int (2 : Int32))] below meth c s₁ [] 0 0 := Stand.of_body Bd
  have e0 : s₁.heap = h0 := by rw [← hh, Bd.state]; rfl
  have N0 := Fr.nil n0
  have pre0 : ∀ t, Steps p.tables e below (s₁.setTop (mkF m 0 #[.val (.ref a0), .val (.int p1), .val (.int p2), .val (.int 2), .unset] [])) t → Steps p.tables e below (s₁.setTop (entryFrame m #[(.ref a0), (.int p1), (.int p2), (.int (2 : Int32))] 5)) t := fun t k => castTop (ef_10_vvv2 m a0 p1 p2) k
  obtain ⟨cl74, Ar74, -, S74, M74, -, -⟩ := id V_a0
  have ld74 := X0.arraylength hx (by rw [e0]; exact Ar74.1) (State.isArrayOf_alike hZ.alike Ar74.2.1) (g := (mkF m 1 #[.val (.ref a0), .val (.int p1), .val (.int p2), .val (.int 2), .unset] [(.ref a0)])) rfl rfl (hb hby d10_1)
  have cp76 : ∀ target, own_S p e below s₁ (mkF m 10 #[.val (.ref a0), .val (.int p1), .val (.int p2), .val (.int 2), .val (.int ((len - p1) - p2))] [(.int ((len - p1) - p2))]) target → own_S p e below s₁ (mkF m 0 #[.val (.ref a0), .val (.int p1), .val (.int p2), .val (.int 2), .unset] []) target := by
    intro target kt
    show own_S p e below s₁ (mkF m 0 #[.val (.ref a0), .val (.int p1), .val (.int p2), .val (.int 2), .unset] []) _
    refine XS.aloadN X0.here hx rfl (hb hby d10_0) rfl rfl ?_
    show own_S p e below s₁ (mkF m 1 #[.val (.ref a0), .val (.int p1), .val (.int p2), .val (.int 2), .unset] [(.ref a0)]) _
    refine ld74 _ ?_
    rw [len_of S74 M74]
    show own_S p e below s₁ (mkF m 2 #[.val (.ref a0), .val (.int p1), .val (.int p2), .val (.int 2), .unset] [(.int len)]) _
    refine XS.iloadN X0.here hx rfl (hb hby d10_2) rfl ?_
    show own_S p e below s₁ (mkF m 3 #[.val (.ref a0), .val (.int p1), .val (.int p2), .val (.int 2), .unset] [(.int p1), (.int len)]) _
    refine XS.isub X0.here hx rfl (hb hby d10_3) rfl ?_
    show own_S p e below s₁ (mkF m 4 #[.val (.ref a0), .val (.int p1), .val (.int p2), .val (.int 2), .unset] [(.int (len - p1))]) _
    refine XS.iloadN X0.here hx rfl (hb hby d10_4) rfl ?_
    show own_S p e below s₁ (mkF m 5 #[.val (.ref a0), .val (.int p1), .val (.int p2), .val (.int 2), .unset] [(.int p2), (.int (len - p1))]) _
    refine XS.isub X0.here hx rfl (hb hby d10_5) rfl ?_
    show own_S p e below s₁ (mkF m 6 #[.val (.ref a0), .val (.int p1), .val (.int p2), .val (.int 2), .unset] [(.int ((len - p1) - p2))]) _
    refine XS.istore X0.here hx rfl (hb hby d10_6) rfl (l' := #[.val (.ref a0), .val (.int p1), .val (.int p2), .val (.int 2), .val (.int ((len - p1) - p2))]) rfl ?_
    show own_S p e below s₁ (mkF m 8 #[.val (.ref a0), .val (.int p1), .val (.int p2), .val (.int 2), .val (.int ((len - p1) - p2))] []) _
    refine XS.iload X0.here hx rfl (hb hby d10_8) rfl ?_
    exact kt
  by_cases hc75 : ((len - p1) - p2) = (0 : Int32)
  · obtain ⟨T77, h77, X77, e77, E77, A77, D77, -, st77⟩ := newO X0 hx hZ hown (hw _ (List.mem_of_getElem? (i := 6) rfl)) (hw _ (List.mem_of_getElem? (i := 7) rfl)) (hw _ (List.mem_of_getElem? (i := 4) rfl)) e0 (g := (mkF m 13 #[.val (.ref a0), .val (.int p1), .val (.int p2), .val (.int 2), .val (.int ((len - p1) - p2))] [])) rfl (hb hby d10_13) (by decide) (by decide)
    obtain ⟨b77, g77⟩ : ∃ z, z = h0.size := ⟨_, rfl⟩
    have ne78 : a0 ≠ b77 := Nat.ne_of_lt (Nat.lt_of_lt_of_le V_a0.lt (Nat.le_of_eq g77.symm))
    have ge_b77 : n0 ≤ b77 := Nat.le_trans Z0 (Nat.le_of_eq g77.symm)
    have gs_b77 : h0.size ≤ b77 := Nat.le_trans (Keep.refl h0 []).1 (Nat.le_of_eq g77.symm)
    rw [← g77] at A77 D77 st77
    have x79 := V_a0.ext E77
    have sz80 : n0 ≤ h77.size := Nat.le_trans Z0 E77.1
    have kp81 : Keep h0 h77 [] := (Keep.refl h0 []).ext E77
    have F77_bytes : Fld Z h77 b77 "com/example/chipmantle/chipmantle/CommandApdu" "bytes" "[B" .null := D77 (Or.inr (hw _ (List.mem_of_getElem? (i := 15) rfl))) (ty := (.array .byte)) (by decide)
    have F77_offsetCdata : Fld Z h77 b77 "com/example/chipmantle/chipmantle/CommandApdu" "offsetCdata" "I" (.int (0 : Int32)) := D77 (Or.inr (hw _ (List.mem_of_getElem? (i := 17) rfl))) (ty := .int) (by decide)
    have F77_nc : Fld Z h77 b77 "com/example/chipmantle/chipmantle/CommandApdu" "nc" "I" (.int (0 : Int32)) := D77 (Or.inr (hw _ (List.mem_of_getElem? (i := 19) rfl))) (ty := .int) (by decide)
    have F77_ne : Fld Z h77 b77 "com/example/chipmantle/chipmantle/CommandApdu" "ne" "I" (.int (0 : Int32)) := D77 (Or.inr (hw _ (List.mem_of_getElem? (i := 21) rfl))) (ty := .int) (by decide)
    obtain ⟨_, _, ⟨T82, L82, k82, n82⟩, -, X82, ⟨Lc82, hQ82, l82, y82, z82⟩, st82⟩ := X77.specialBack hx (y := (⟨"com/example/chipmantle/chipmantle/CommandApdu", "<init>", "([BIII)V"⟩ : MethodName)) rfl hown (mvT hZ (hw _ (List.mem_of_getElem? (i := 8) rfl))) (mvT hZ (hw _ (List.mem_of_getElem? (i := 9) rfl))) (mvT hZ (hw _ (List.mem_of_getElem? (i := 10) rfl))) (by decide) (backOf (W := 1) (rm2 l Z ag hw [] b77 a0 p1 p2 (0 : Int32)  h77 n0 sz80 A77 ge_b77 F77_bytes F77_offsetCdata F77_nc F77_ne) hZ (hw _ (List.mem_of_getElem? (i := 10) rfl)) (hw _ (List.mem_of_getElem? (i := 4) rfl)) (by decide) (by decide)) (g := (mkF m 21 #[.val (.ref a0), .val (.int p1), .val (.int p2), .val (.int 2), .val (.int ((len - p1) - p2))] [.int 0, (.int p2), (.int p1), (.ref a0), (.ref b77), (.ref b77)])) rfl (by rw [hml]; rfl) (Steps.refl _) (a := b77) (argsL := [(.ref a0), (.int p1), (.int p2), (.int (0 : Int32))]) (rest := [(.ref b77)]) (lenOf pd_7 rfl) rfl (by show 2 * 0 + _ ≤ _; exact Nat.le_of_eq rfl) (hb hby d10_21) (fun _ _ => ⟨rfl, e77, (by decide : 1 + 0 ≤ _), (by decide : 4 + 0 ≤ _)⟩)
    dsimp only [Pt.U, Pt.locs, Pt.cells, Pt.slots] at X82 l82 y82 z82 st82 hQ82
    subst l82 y82 z82
    obtain ⟨rfl, N82q, K82, F182, F282, F382, F482⟩ := hQ82
    have N82 := Fr.app N0 N82q
    have x83 := x79.keep K82 (ninS ne78 nin0)
    have x84 := A77.keep K82
    have sz85 : n0 ≤ T82.heap.size := Nat.le_trans sz80 K82.1
    have kp86 : Keep h0 T82.heap [] := kp81.trans K82 (allS (Or.inr gs_b77) all0)
    obtain ⟨fs, hr, hrun, hended, hW, hsame⟩ := X82.leave (v := some (.ref b77)) (fun h => by rw [Bd.returns] at h; cases h)
    refine ⟨_, _, pre0 _ ?_, hrun, hended, _, _, rfl, ?_, ⟨_, rfl⟩, hW, hsame.mono (by decide) (by decide)⟩
    · show own_S p e below s₁ (mkF m 0 #[.val (.ref a0), .val (.int p1), .val (.int p2), .val (.int 2), .unset] []) _
      refine cp76 _ ?_
      show own_S p e below s₁ (mkF m 10 #[.val (.ref a0), .val (.int p1), .val (.int p2), .val (.int 2), .val (.int ((len - p1) - p2))] [(.int ((len - p1) - p2))]) _
      refine XS.ifNo X0.here hx rfl (hb hby d10_10) rfl ((if0 _ _).trans (teq hc75).2) ?_
      show own_S p e below s₁ (mkF m 13 #[.val (.ref a0), .val (.int p1), .val (.int p2), .val (.int 2), .val (.int ((len - p1) - p2))] []) _
      refine st77 _ ?_
      show own_S p e below T77 (mkF m 16 #[.val (.ref a0), .val (.int p1), .val (.int p2), .val (.int 2), .val (.int ((len - p1) - p2))] [(.ref b77)]) _
      refine XS.dup X77.here hx rfl (hb hby d10_16) rfl rfl ?_
      show own_S p e below T77 (mkF m 17 #[.val (.ref a0), .val (.int p1), .val (.int p2), .val (.int 2), .val (.int ((len - p1) - p2))] [(.ref b77), (.ref b77)]) _
      refine XS.aloadN X77.here hx rfl (hb hby d10_17) rfl rfl ?_
      show own_S p e below T77 (mkF m 18 #[.val (.ref a0), .val (.int p1), .val (.int p2), .val (.int 2), .val (.int ((len - p1) - p2))] [(.ref a0), (.ref b77), (.ref b77)]) _
      refine XS.iloadN X77.here hx rfl (hb hby d10_18) rfl ?_
      show own_S p e below T77 (mkF m 19 #[.val (.ref a0), .val (.int p1), .val (.int p2), .val (.int 2), .val (.int ((len - p1) - p2))] [(.int p1), (.ref a0), (.ref b77), (.ref b77)]) _
      refine XS.iloadN X77.here hx rfl (hb hby d10_19) rfl ?_
      show own_S p e below T77 (mkF m 20 #[.val (.ref a0), .val (.int p1), .val (.int p2), .val (.int 2), .val (.int ((len - p1) - p2))] [(.int p2), (.int p1), (.ref a0), (.ref b77), (.ref b77)]) _
      refine XS.iconst X77.here hx rfl (hb hby d10_20) ?_
      show own_S p e below T77 (mkF m 21 #[.val (.ref a0), .val (.int p1), .val (.int p2), .val (.int 2), .val (.int ((len - p1) - p2))] [.int 0, (.int p2), (.int p1), (.ref a0), (.ref b77), (.ref b77)]) _
      refine st82.trans ?_
      show own_S p e below T82 (mkF m 24 #[.val (.ref a0), .val (.int p1), .val (.int p2), .val (.int 2), .val (.int ((len - p1) - p2))] [(.ref b77)]) _
      exact Jvm.RoadKit.retOut X82 hx Bd.returns rfl (Or.inr (Or.inr (Or.inr (Or.inr ⟨rfl, rfl, rfl⟩)))) (hb hby d10_24) hr
    · show Q10_2 Z a0 p1 p2 k len vs h0 n0 _ T82.heap _
      have Fz1 := own_cast (P := fun z => Fld Z T82.heap b77 "com/example/chipmantle/chipmantle/CommandApdu" "offsetCdata" "I" (.int z)) rfl F282
      have Fz2 := own_cast (P := fun z => Fld Z T82.heap b77 "com/example/chipmantle/chipmantle/CommandApdu" "nc" "I" (.int z)) rfl F382
      have Fz3 := own_cast (P := fun z => Fld Z T82.heap b77 "com/example/chipmantle/chipmantle/CommandApdu" "ne" "I" (.int z)) (show _ = own_we2 len vs p1 p2 from by unfold own_we2; rw [if_pos hc75]) F482
      exact Or.inr ⟨b77, rfl, N82, kp86, gs_b77, (by unfold own_wv2; rw [if_pos hc75]), x84, F182, Fz1, Fz2, Fz3⟩
  · have cp88 : ∀ target, own_S p e below s₁ (mkF m 28 #[.val (.ref a0), .val (.int p1), .val (.int p2), .val (.int 2), .val (.int ((len - p1) - p2))] [.int 2, (.int ((len - p1) - p2))]) target → own_S p e below s₁ (mkF m 0 #[.val (.ref a0), .val (.int p1), .val (.int p2), .val (.int 2), .unset] []) target := by
      intro target kt
      show own_S p e below s₁ (mkF m 0 #[.val (.ref a0), .val (.int p1), .val (.int p2), .val (.int 2), .unset] []) _
      refine cp76 _ ?_
      show own_S p e below s₁ (mkF m 10 #[.val (.ref a0), .val (.int p1), .val (.int p2), .val (.int 2), .val (.int ((len - p1) - p2))] [(.int ((len - p1) - p2))]) _
      refine XS.ifYes X0.here hx rfl (pc0 := 10) (pc' := 25) rfl (hb hby d10_10) rfl ((if0 _ _).trans (feq hc75).2) (by decide) (by decide) ?_
      show own_S p e below s₁ (mkF m 25 #[.val (.ref a0), .val (.int p1), .val (.int p2), .val (.int 2), .val (.int ((len - p1) - p2))] []) _
      refine XS.iload X0.here hx rfl (hb hby d10_25) rfl ?_
      show own_S p e below s₁ (mkF m 27 #[.val (.ref a0), .val (.int p1), .val (.int p2), .val (.int 2), .val (.int ((len - p1) - p2))] [(.int ((len - p1) - p2))]) _
      refine XS.iloadN X0.here hx rfl (hb hby d10_27) rfl ?_
      exact kt
    by_cases hc87 : ((len - p1) - p2) = (2 : Int32)
    · obtain ⟨T89, h89, X89, e89, E89, A89, D89, -, st89⟩ := newO X0 hx hZ hown (hw _ (List.mem_of_getElem? (i := 6) rfl)) (hw _ (List.mem_of_getElem? (i := 7) rfl)) (hw _ (List.mem_of_getElem? (i := 4) rfl)) e0 (g := (mkF m 33 #[.val (.ref a0), .val (.int p1), .val (.int p2), .val (.int 2), .val (.int ((len - p1) - p2))] [])) rfl (hb hby d10_33) (by decide) (by decide)
      obtain ⟨b89, g89⟩ : ∃ z, z = h0.size := ⟨_, rfl⟩
      have ne90 : a0 ≠ b89 := Nat.ne_of_lt (Nat.lt_of_lt_of_le V_a0.lt (Nat.le_of_eq g89.symm))
      have ge_b89 : n0 ≤ b89 := Nat.le_trans Z0 (Nat.le_of_eq g89.symm)
      have gs_b89 : h0.size ≤ b89 := Nat.le_trans (Keep.refl h0 []).1 (Nat.le_of_eq g89.symm)
      rw [← g89] at A89 D89 st89
      have x91 := V_a0.ext E89
      have sz92 : n0 ≤ h89.size := Nat.le_trans Z0 E89.1
      have kp93 : Keep h0 h89 [] := (Keep.refl h0 []).ext E89
      have F89_bytes : Fld Z h89 b89 "com/example/chipmantle/chipmantle/CommandApdu" "bytes" "[B" .null := D89 (Or.inr (hw _ (List.mem_of_getElem? (i := 15) rfl))) (ty := (.array .byte)) (by decide)
      have F89_offsetCdata : Fld Z h89 b89 "com/example/chipmantle/chipmantle/CommandApdu" "offsetCdata" "I" (.int (0 : Int32)) := D89 (Or.inr (hw _ (List.mem_of_getElem? (i := 17) rfl))) (ty := .int) (by decide)
      have F89_nc : Fld Z h89 b89 "com/example/chipmantle/chipmantle/CommandApdu" "nc" "I" (.int (0 : Int32)) := D89 (Or.inr (hw _ (List.mem_of_getElem? (i := 19) rfl))) (ty := .int) (by decide)
      have F89_ne : Fld Z h89 b89 "com/example/chipmantle/chipmantle/CommandApdu" "ne" "I" (.int (0 : Int32)) := D89 (Or.inr (hw _ (List.mem_of_getElem? (i := 21) rfl))) (ty := .int) (by decide)
      obtain ⟨cl94, Ar94, -, S94, M94, -, -⟩ := id x91
      have ld94 := X89.arraylength hx (by rw [e89]; exact Ar94.1) (State.isArrayOf_alike hZ.alike Ar94.2.1) (g := (mkF m 42 #[.val (.ref a0), .val (.int p1), .val (.int p2), .val (.int 2), .val (.int ((len - p1) - p2))] [(.ref a0), (.ref a0), (.int p2), (.int p1), (.ref a0), (.ref b89), (.ref b89)])) rfl rfl (hb hby d10_42)
      have cp95 : ∀ target, own_S p e below T89 (mkF m 46 #[.val (.ref a0), .val (.int p1), .val (.int p2), .val (.int 2), .val (.int ((len - p1) - p2))] [.int 2, (.int (len - (2 : Int32))), (.ref a0), (.int p2), (.int p1), (.ref a0), (.ref b89), (.ref b89)]) target → own_S p e below s₁ (mkF m 0 #[.val (.ref a0), .val (.int p1), .val (.int p2), .val (.int 2), .unset] []) target := by
        intro target kt
        show own_S p e below s₁ (mkF m 0 #[.val (.ref a0), .val (.int p1), .val (.int p2), .val (.int 2), .unset] []) _
        refine cp88 _ ?_
        show own_S p e below s₁ (mkF m 28 #[.val (.ref a0), .val (.int p1), .val (.int p2), .val (.int 2), .val (.int ((len - p1) - p2))] [.int 2, (.int ((len - p1) - p2))]) _
        refine XS.icmpYes X0.here hx rfl (pc0 := 28) (pc' := 33) rfl (hb hby d10_28) rfl (teq hc87).1 (by decide) (by decide) ?_
        show own_S p e below s₁ (mkF m 33 #[.val (.ref a0), .val (.int p1), .val (.int p2), .val (.int 2), .val (.int ((len - p1) - p2))] []) _
        refine st89 _ ?_
        show own_S p e below T89 (mkF m 36 #[.val (.ref a0), .val (.int p1), .val (.int p2), .val (.int 2), .val (.int ((len - p1) - p2))] [(.ref b89)]) _
        refine XS.dup X89.here hx rfl (hb hby d10_36) rfl rfl ?_
        show own_S p e below T89 (mkF m 37 #[.val (.ref a0), .val (.int p1), .val (.int p2), .val (.int 2), .val (.int ((len - p1) - p2))] [(.ref b89), (.ref b89)]) _
        refine XS.aloadN X89.here hx rfl (hb hby d10_37) rfl rfl ?_
        show own_S p e below T89 (mkF m 38 #[.val (.ref a0), .val (.int p1), .val (.int p2), .val (.int 2), .val (.int ((len - p1) - p2))] [(.ref a0), (.ref b89), (.ref b89)]) _
        refine XS.iloadN X89.here hx rfl (hb hby d10_38) rfl ?_
        show own_S p e below T89 (mkF m 39 #[.val (.ref a0), .val (.int p1), .val (.int p2), .val (.int 2), .val (.int ((len - p1) - p2))] [(.int p1), (.ref a0), (.ref b89), (.ref b89)]) _
        refine XS.iloadN X89.here hx rfl (hb hby d10_39) rfl ?_
        show own_S p e below T89 (mkF m 40 #[.val (.ref a0), .val (.int p1), .val (.int p2), .val (.int 2), .val (.int ((len - p1) - p2))] [(.int p2), (.int p1), (.ref a0), (.ref b89), (.ref b89)]) _
        refine XS.aloadN X89.here hx rfl (hb hby d10_40) rfl rfl ?_
        show own_S p e below T89 (mkF m 41 #[.val (.ref a0), .val (.int p1), .val (.int p2), .val (.int 2), .val (.int ((len - p1) - p2))] [(.ref a0), (.int p2), (.int p1), (.ref a0), (.ref b89), (.ref b89)]) _
        refine XS.aloadN X89.here hx rfl (hb hby d10_41) rfl rfl ?_
        show own_S p e below T89 (mkF m 42 #[.val (.ref a0), .val (.int p1), .val (.int p2), .val (.int 2), .val (.int ((len - p1) - p2))] [(.ref a0), (.ref a0), (.int p2), (.int p1), (.ref a0), (.ref b89), (.ref b89)]) _
        refine ld94 _ ?_
        rw [len_of S94 M94]
        show own_S p e below T89 (mkF m 43 #[.val (.ref a0), .val (.int p1), .val (.int p2), .val (.int 2), .val (.int ((len - p1) - p2))] [(.int len), (.ref a0), (.int p2), (.int p1), (.ref a0), (.ref b89), (.ref b89)]) _
        refine XS.iloadN X89.here hx rfl (hb hby d10_43) rfl ?_
        show own_S p e below T89 (mkF m 44 #[.val (.ref a0), .val (.int p1), .val (.int p2), .val (.int 2), .val (.int ((len - p1) - p2))] [.int 2, (.int len), (.ref a0), (.int p2), (.int p1), (.ref a0), (.ref b89), (.ref b89)]) _
        refine XS.isub X89.here hx rfl (hb hby d10_44) rfl ?_
        show own_S p e below T89 (mkF m 45 #[.val (.ref a0), .val (.int p1), .val (.int p2), .val (.int 2), .val (.int ((len - p1) - p2))] [(.int (len - (2 : Int32))), (.ref a0), (.int p2), (.int p1), (.ref a0), (.ref b89), (.ref b89)]) _
        refine XS.iloadN X89.here hx rfl (hb hby d10_45) rfl ?_
        exact kt
      obtain ⟨_, _, ⟨T96, L96, k96, n96⟩, -, X96, ⟨Lc96, hQ96, l96, y96, z96⟩, st96⟩ := Jvm.LawKit.callS X89 hx (y := (⟨"com/example/chipmantle/chipmantle/CommandApdu", "ne", "([BII)I"⟩ : MethodName)) hown (mvT hZ (hw _ (List.mem_of_getElem? (i := 53) rfl))) (mvT hZ (hw _ (List.mem_of_getElem? (i := 54) rfl))) (mvT hZ (hw _ (List.mem_of_getElem? (i := 4) rfl))) (mvT hZ (hw _ (List.mem_of_getElem? (i := 55) rfl))) (by decide) (backOf (W := 5) (rm11_2 l Z ag hw [] a0 (len - (2 : Int32)) k len vs h89 n0 sz92 x91 hl4 hlm (own_lm2 len hl4 hlm).1 (own_lm2 len hl4 hlm).2) hZ (hw _ (List.mem_of_getElem? (i := 55) rfl)) (hw _ (List.mem_of_getElem? (i := 4) rfl)) (by decide) (by decide)) (g := (mkF m 46 #[.val (.ref a0), .val (.int p1), .val (.int p2), .val (.int 2), .val (.int ((len - p1) - p2))] [.int 2, (.int (len - (2 : Int32))), (.ref a0), (.int p2), (.int p1), (.ref a0), (.ref b89), (.ref b89)])) rfl (by rw [hml]; rfl) (argsL := [(.ref a0), (.int (len - (2 : Int32))), (.int (2 : Int32))]) (rest := [(.int p2), (.int p1), (.ref a0), (.ref b89), (.ref b89)]) (lenOf pd_5 rfl) rfl (by show 2 * 0 + _ ≤ _; exact Nat.le_of_eq rfl) (hb hby d10_46) (fun _ _ => ⟨rfl, e89, (by decide : 1 + 0 ≤ _), (by decide : 4 + 0 ≤ _)⟩)
      dsimp only [Pt.U, Pt.locs, Pt.cells, Pt.slots] at X96 l96 y96 z96 st96 hQ96
      subst l96 y96 z96
      obtain ⟨rfl, N96q, e96⟩ := hQ96
      have N96 := Fr.app N0 N96q
      obtain ⟨_, _, ⟨T97, L97, k97, n97⟩, -, X97, ⟨Lc97, hQ97, l97, y97, z97⟩, st97⟩ := X96.specialBack hx (y := (⟨"com/example/chipmantle/chipmantle/CommandApdu", "<init>", "([BIII)V"⟩ : MethodName)) rfl hown (mvT hZ (hw _ (List.mem_of_getElem? (i := 8) rfl))) (mvT hZ (hw _ (List.mem_of_getElem? (i := 9) rfl))) (mvT hZ (hw _ (List.mem_of_getElem? (i := 10) rfl))) (by decide) (backOf (W := 1) (rm2 l Z ag hw [] b89 a0 p1 p2 (own_ne2 len vs (len - (2 : Int32)))  h89 n0 sz92 A89 ge_b89 F89_bytes F89_offsetCdata F89_nc F89_ne) hZ (hw _ (List.mem_of_getElem? (i := 10) rfl)) (hw _ (List.mem_of_getElem? (i := 4) rfl)) (by decide) (by decide)) (g := (mkF m 49 #[.val (.ref a0), .val (.int p1), .val (.int p2), .val (.int 2), .val (.int ((len - p1) - p2))] [(.int (own_ne2 len vs (len - (2 : Int32)))), (.int p2), (.int p1), (.ref a0), (.ref b89), (.ref b89)])) rfl (by rw [hml]; rfl) (Steps.refl _) (a := b89) (argsL := [(.ref a0), (.int p1), (.int p2), (.int (own_ne2 len vs (len - (2 : Int32))))]) (rest := [(.ref b89)]) (lenOf pd_7 rfl) rfl (by show 2 * 0 + _ ≤ _; exact Nat.le_of_eq rfl) (hb hby d10_49) (fun _ _ => ⟨rfl, e96, (by decide : 1 + 0 ≤ _), (by decide : 4 + 0 ≤ _)⟩)
      dsimp only [Pt.U, Pt.locs, Pt.cells, Pt.slots] at X97 l97 y97 z97 st97 hQ97
      subst l97 y97 z97
      obtain ⟨rfl, N97q, K97, F197, F297, F397, F497⟩ := hQ97
      have N97 := Fr.app N96 N97q
      have x98 := x91.keep K97 (ninS ne90 nin0)
      have x99 := A89.keep K97
      have sz100 : n0 ≤ T97.heap.size := Nat.le_trans sz92 K97.1
      have kp101 : Keep h0 T97.heap [] := kp93.trans K97 (allS (Or.inr gs_b89) all0)
      obtain ⟨fs, hr, hrun, hended, hW, hsame⟩ := X97.leave (v := some (.ref b89)) (fun h => by rw [Bd.returns] at h; cases h)
      refine ⟨_, _, pre0 _ ?_, hrun, hended, _, _, rfl, ?_, ⟨_, rfl⟩, hW, hsame.mono (by decide) (by decide)⟩
      · show own_S p e below s₁ (mkF m 0 #[.val (.ref a0), .val (.int p1), .val (.int p2), .val (.int 2), .unset] []) _
        refine cp95 _ ?_
        show own_S p e below T89 (mkF m 46 #[.val (.ref a0), .val (.int p1), .val (.int p2), .val (.int 2), .val (.int ((len - p1) - p2))] [.int 2, (.int (len - (2 : Int32))), (.ref a0), (.int p2), (.int p1), (.ref a0), (.ref b89), (.ref b89)]) _
        refine st96 _ ?_
        show own_S p e below T96 (mkF m 49 #[.val (.ref a0), .val (.int p1), .val (.int p2), .val (.int 2), .val (.int ((len - p1) - p2))] [(.int (own_ne2 len vs (len - (2 : Int32)))), (.int p2), (.int p1), (.ref a0), (.ref b89), (.ref b89)]) _
        refine st97.trans ?_
        show own_S p e below T97 (mkF m 52 #[.val (.ref a0), .val (.int p1), .val (.int p2), .val (.int 2), .val (.int ((len - p1) - p2))] [(.ref b89)]) _
        exact Jvm.RoadKit.retOut X97 hx Bd.returns rfl (Or.inr (Or.inr (Or.inr (Or.inr ⟨rfl, rfl, rfl⟩)))) (hb hby d10_52) hr
      · show Q10_2 Z a0 p1 p2 k len vs h0 n0 _ T97.heap _
        have Fz1 := own_cast (P := fun z => Fld Z T97.heap b89 "com/example/chipmantle/chipmantle/CommandApdu" "offsetCdata" "I" (.int z)) rfl F297
        have Fz2 := own_cast (P := fun z => Fld Z T97.heap b89 "com/example/chipmantle/chipmantle/CommandApdu" "nc" "I" (.int z)) rfl F397
        have Fz3 := own_cast (P := fun z => Fld Z T97.heap b89 "com/example/chipmantle/chipmantle/CommandApdu" "ne" "I" (.int z)) (show _ = own_we2 len vs p1 p2 from by unfold own_we2; rw [if_neg hc75]) F497
        exact Or.inr ⟨b89, rfl, N97, kp101, gs_b89, (by unfold own_wv2; rw [if_neg hc75, if_pos hc87]), x99, F197, Fz1, Fz2, Fz3⟩
    · obtain ⟨fs, hr, hrun, hended, hW, hsame⟩ := X0.leave (v := some .null) (fun h => by rw [Bd.returns] at h; cases h)
      refine ⟨_, _, pre0 _ ?_, hrun, hended, _, _, rfl, ?_, ⟨_, rfl⟩, hW, hsame.mono (by decide) (by decide)⟩
      · show own_S p e below s₁ (mkF m 0 #[.val (.ref a0), .val (.int p1), .val (.int p2), .val (.int 2), .unset] []) _
        refine cp88 _ ?_
        show own_S p e below s₁ (mkF m 28 #[.val (.ref a0), .val (.int p1), .val (.int p2), .val (.int 2), .val (.int ((len - p1) - p2))] [.int 2, (.int ((len - p1) - p2))]) _
        refine XS.icmpNo X0.here hx rfl (hb hby d10_28) rfl (feq hc87).1 ?_
        show own_S p e below s₁ (mkF m 31 #[.val (.ref a0), .val (.int p1), .val (.int p2), .val (.int 2), .val (.int ((len - p1) - p2))] []) _
        refine XS.aconstNull X0.here hx rfl (hb hby d10_31) ?_
        show own_S p e below s₁ (mkF m 32 #[.val (.ref a0), .val (.int p1), .val (.int p2), .val (.int 2), .val (.int ((len - p1) - p2))] [.null]) _
        exact Jvm.RoadKit.retOut X0 hx Bd.returns rfl (Or.inr (Or.inr (Or.inr (Or.inr ⟨rfl, rfl, rfl⟩)))) (hb hby d10_32) hr
      · show Q10_2 Z a0 p1 p2 k len vs h0 n0 _ s₁.heap _
        rw [e0]
        exact Or.inl ⟨rfl, N0, (Keep.refl h0 []), (by unfold own_wv2; rw [if_neg hc75, if_neg hc87])⟩
def own_pv (len : Int32) (vs : List Value) : Int32 := if (len - (4 : Int32)) = (0 : Int32) then 1 else if (len - (4 : Int32)) = (1 : Int32) then 1 else if ((own_el vs (4 : Int32)) &&& (255 : Int32)) = (0 : Int32) then (if (len - (4 : Int32)) < (3 : Int32) then 0 else if (len - (4 : Int32)) = (3 : Int32) then 1 else if (own_field2 len vs (5 : Int32)) = (0 : Int32) then 0 else own_wv2 len (7 : Int32) (own_field2 len vs (5 : Int32))) else own_wv1 len (5 : Int32) ((own_el vs (4 : Int32)) &&& (255 : Int32))
def own_po (len : Int32) (vs : List Value) : Int32 := if (len - (4 : Int32)) = (0 : Int32) then 5 else if (len - (4 : Int32)) = (1 : Int32) then 5 else if ((own_el vs (4 : Int32)) &&& (255 : Int32)) = (0 : Int32) then (if (len - (4 : Int32)) < (3 : Int32) then 0 else if (len - (4 : Int32)) = (3 : Int32) then 7 else if (own_field2 len vs (5 : Int32)) = (0 : Int32) then 0 else 7) else 5
def own_pn (len : Int32) (vs : List Value) : Int32 := if (len - (4 : Int32)) = (0 : Int32) then 0 else if (len - (4 : Int32)) = (1 : Int32) then 0 else if ((own_el vs (4 : Int32)) &&& (255 : Int32)) = (0 : Int32) then (if (len - (4 : Int32)) < (3 : Int32) then 0 else if (len - (4 : Int32)) = (3 : Int32) then 0 else if (own_field2 len vs (5 : Int32)) = (0 : Int32) then 0 else (own_field2 len vs (5 : Int32))) else ((own_el vs (4 : Int32)) &&& (255 : Int32))
def own_pe (len : Int32) (vs : List Value) : Int32 := if (len - (4 : Int32)) = (0 : Int32) then 0 else if (len - (4 : Int32)) = (1 : Int32) then own_ne1 len vs (4 : Int32) else if ((own_el vs (4 : Int32)) &&& (255 : Int32)) = (0 : Int32) then (if (len - (4 : Int32)) < (3 : Int32) then 0 else if (len - (4 : Int32)) = (3 : Int32) then own_ne2 len vs (5 : Int32) else if (own_field2 len vs (5 : Int32)) = (0 : Int32) then 0 else own_we2 len vs (7 : Int32) (own_field2 len vs (5 : Int32))) else own_we1 len vs (5 : Int32) ((own_el vs (4 : Int32)) &&& (255 : Int32))
theorem ef_1 (m : MethodId) (a0 : Addr) : entryFrame m #[(.ref a0)] 4 = mkF m 0 #[.val (.ref a0), .unset, .unset, .unset] [] := by first | (simp [entryFrame, mkF, argsToLocals, Value.category]; done) | rfl
theorem d1_0 : decode prog_3_method_2_code 0 = .ok (.aload_n 0, 1) := by decide +kernel
theorem d1_1 : decode prog_3_method_2_code 1 = .ok (.arraylength, 1) := by decide +kernel
theorem d1_2 : decode prog_3_method_2_code 2 = .ok (.iconst 4, 1) := by decide +kernel
theorem d1_3 : decode prog_3_method_2_code 3 = .ok (.isub, 1) := by decide +kernel
theorem d1_4 : decode prog_3_method_2_code 4 = .ok (.istore_n 1, 1) := by decide +kernel
theorem d1_5 : decode prog_3_method_2_code 5 = .ok (.iload_n 1, 1) := by decide +kernel
theorem d1_6 : decode prog_3_method_2_code 6 = .ok (.ifCond .ne 15, 3) := by decide +kernel
theorem d1_9 : decode prog_3_method_2_code 9 = .ok (.new 8, 3) := by decide +kernel
theorem d1_12 : decode prog_3_method_2_code 12 = .ok (.dup, 1) := by decide +kernel
theorem d1_13 : decode prog_3_method_2_code 13 = .ok (.aload_n 0, 1) := by decide +kernel
theorem d1_14 : decode prog_3_method_2_code 14 = .ok (.iconst 5, 1) := by decide +kernel
theorem d1_15 : decode prog_3_method_2_code 15 = .ok (.iconst 0, 1) := by decide +kernel
theorem d1_16 : decode prog_3_method_2_code 16 = .ok (.iconst 0, 1) := by decide +kernel
theorem d1_17 : decode prog_3_method_2_code 17 = .ok (.invokespecial 25, 3) := by decide +kernel
theorem d1_20 : decode prog_3_method_2_code 20 = .ok (.areturn, 1) := by decide +kernel
theorem d1_21 : decode prog_3_method_2_code 21 = .ok (.iload_n 1, 1) := by decide +kernel
theorem d1_22 : decode prog_3_method_2_code 22 = .ok (.iconst 1, 1) := by decide +kernel
theorem d1_23 : decode prog_3_method_2_code 23 = .ok (.if_icmp .ne 20, 3) := by decide +kernel
theorem d1_26 : decode prog_3_method_2_code 26 = .ok (.new 8, 3) := by decide +kernel
theorem d1_29 : decode prog_3_method_2_code 29 = .ok (.dup, 1) := by decide +kernel
theorem d1_30 : decode prog_3_method_2_code 30 = .ok (.aload_n 0, 1) := by decide +kernel
theorem d1_31 : decode prog_3_method_2_code 31 = .ok (.iconst 5, 1) := by decide +kernel
theorem d1_32 : decode prog_3_method_2_code 32 = .ok (.iconst 0, 1) := by decide +kernel
theorem d1_33 : decode prog_3_method_2_code 33 = .ok (.aload_n 0, 1) := by decide +kernel
theorem d1_34 : decode prog_3_method_2_code 34 = .ok (.iconst 4, 1) := by decide +kernel
theorem d1_35 : decode prog_3_method_2_code 35 = .ok (.iconst 1, 1) := by decide +kernel
theorem d1_36 : decode prog_3_method_2_code 36 = .ok (.invokestatic 28, 3) := by decide +kernel
theorem d1_39 : decode prog_3_method_2_code 39 = .ok (.invokespecial 25, 3) := by decide +kernel
theorem d1_42 : decode prog_3_method_2_code 42 = .ok (.areturn, 1) := by decide +kernel
theorem d1_43 : decode prog_3_method_2_code 43 = .ok (.aload_n 0, 1) := by decide +kernel
theorem d1_44 : decode prog_3_method_2_code 44 = .ok (.iconst 4, 1) := by decide +kernel
theorem d1_45 : decode prog_3_method_2_code 45 = .ok (.baload, 1) := by decide +kernel
theorem d1_46 : decode prog_3_method_2_code 46 = .ok (.sipush 255, 3) := by decide +kernel
theorem d1_49 : decode prog_3_method_2_code 49 = .ok (.iand, 1) := by decide +kernel
theorem d1_50 : decode prog_3_method_2_code 50 = .ok (.istore_n 2, 1) := by decide +kernel
abbrev own_loc7 (a0 : Addr) (len : Int32) (vs : List Value) : Array Slot := #[.val (.ref a0), .val (.int (len - (4 : Int32))), .val (.int ((own_el vs (4 : Int32)) &&& (255 : Int32))), .unset]
theorem d1_51 : decode prog_3_method_2_code 51 = .ok (.iload_n 2, 1) := by decide +kernel
theorem d1_52 : decode prog_3_method_2_code 52 = .ok (.ifCond .eq 11, 3) := by decide +kernel
theorem d1_63 : decode prog_3_method_2_code 63 = .ok (.iload_n 1, 1) := by decide +kernel
theorem d1_64 : decode prog_3_method_2_code 64 = .ok (.iconst 3, 1) := by decide +kernel
theorem d1_65 : decode prog_3_method_2_code 65 = .ok (.if_icmp .ge 5, 3) := by decide +kernel
theorem d1_68 : decode prog_3_method_2_code 68 = .ok (.aconst_null, 1) := by decide +kernel
theorem d1_69 : decode prog_3_method_2_code 69 = .ok (.areturn, 1) := by decide +kernel
theorem d1_70 : decode prog_3_method_2_code 70 = .ok (.iload_n 1, 1) := by decide +kernel
theorem d1_71 : decode prog_3_method_2_code 71 = .ok (.iconst 3, 1) := by decide +kernel
theorem d1_72 : decode prog_3_method_2_code 72 = .ok (.if_icmp .ne 21, 3) := by decide +kernel
theorem d1_75 : decode prog_3_method_2_code 75 = .ok (.new 8, 3) := by decide +kernel
theorem d1_78 : decode prog_3_method_2_code 78 = .ok (.dup, 1) := by decide +kernel
theorem d1_79 : decode prog_3_method_2_code 79 = .ok (.aload_n 0, 1) := by decide +kernel
theorem d1_80 : decode prog_3_method_2_code 80 = .ok (.bipush 7, 2) := by decide +kernel
theorem d1_82 : decode prog_3_method_2_code 82 = .ok (.iconst 0, 1) := by decide +kernel
theorem d1_83 : decode prog_3_method_2_code 83 = .ok (.aload_n 0, 1) := by decide +kernel
theorem d1_84 : decode prog_3_method_2_code 84 = .ok (.iconst 5, 1) := by decide +kernel
theorem d1_85 : decode prog_3_method_2_code 85 = .ok (.iconst 2, 1) := by decide +kernel
theorem d1_86 : decode prog_3_method_2_code 86 = .ok (.invokestatic 28, 3) := by decide +kernel
theorem d1_89 : decode prog_3_method_2_code 89 = .ok (.invokespecial 25, 3) := by decide +kernel
theorem d1_92 : decode prog_3_method_2_code 92 = .ok (.areturn, 1) := by decide +kernel
theorem d1_93 : decode prog_3_method_2_code 93 = .ok (.aload_n 0, 1) := by decide +kernel
theorem d1_94 : decode prog_3_method_2_code 94 = .ok (.iconst 5, 1) := by decide +kernel
theorem d1_95 : decode prog_3_method_2_code 95 = .ok (.iconst 2, 1) := by decide +kernel
theorem d1_96 : decode prog_3_method_2_code 96 = .ok (.invokestatic 35, 3) := by decide +kernel
theorem d1_99 : decode prog_3_method_2_code 99 = .ok (.istore_n 3, 1) := by decide +kernel
abbrev own_loc8 (a0 : Addr) (len : Int32) (vs : List Value) : Array Slot := #[.val (.ref a0), .val (.int (len - (4 : Int32))), .val (.int ((own_el vs (4 : Int32)) &&& (255 : Int32))), .val (.int (own_field2 len vs (5 : Int32)))]
theorem d1_100 : decode prog_3_method_2_code 100 = .ok (.iload_n 3, 1) := by decide +kernel
theorem d1_101 : decode prog_3_method_2_code 101 = .ok (.ifCond .ne 7, 3) := by decide +kernel
theorem d1_104 : decode prog_3_method_2_code 104 = .ok (.aconst_null, 1) := by decide +kernel
theorem d1_105 : decode prog_3_method_2_code 105 = .ok (.goto 11, 3) := by decide +kernel
theorem d1_116 : decode prog_3_method_2_code 116 = .ok (.areturn, 1) := by decide +kernel
theorem d1_108 : decode prog_3_method_2_code 108 = .ok (.aload_n 0, 1) := by decide +kernel
theorem d1_109 : decode prog_3_method_2_code 109 = .ok (.bipush 7, 2) := by decide +kernel
theorem d1_111 : decode prog_3_method_2_code 111 = .ok (.iload_n 3, 1) := by decide +kernel
theorem d1_112 : decode prog_3_method_2_code 112 = .ok (.iconst 2, 1) := by decide +kernel
theorem pd_6 : parseMethodDescriptor "([BIII)Lcom/example/chipmantle/chipmantle/CommandApdu;" = some ⟨[(.array .byte), .int, .int, .int], some (.object "com/example/chipmantle/chipmantle/CommandApdu")⟩ := by decide +kernel
theorem d1_113 : decode prog_3_method_2_code 113 = .ok (.invokestatic 31, 3) := by decide +kernel
theorem d1_55 : decode prog_3_method_2_code 55 = .ok (.aload_n 0, 1) := by decide +kernel
theorem d1_56 : decode prog_3_method_2_code 56 = .ok (.iconst 5, 1) := by decide +kernel
theorem d1_57 : decode prog_3_method_2_code 57 = .ok (.iload_n 2, 1) := by decide +kernel
theorem d1_58 : decode prog_3_method_2_code 58 = .ok (.iconst 1, 1) := by decide +kernel
theorem d1_59 : decode prog_3_method_2_code 59 = .ok (.invokestatic 31, 3) := by decide +kernel
theorem d1_62 : decode prog_3_method_2_code 62 = .ok (.areturn, 1) := by decide +kernel
def Q1 (Z : State) (a0 : Addr) (k : ClassId) (len : Int32) (vs : List Value) (h0 : Heap) (n0 : Nat) (v : Option Value) (h : Heap) (L : List Loc) : Prop := (v = some .null ∧ Fr n0 L ∧ Keep h0 h [] ∧ own_pv len vs = 0) ∨ (∃ r : Addr, v = some (.ref r) ∧ Fr n0 L ∧ Keep h0 h [] ∧ h0.size ≤ r ∧ own_pv len vs = 1 ∧ Exa Z h r "com/example/chipmantle/chipmantle/CommandApdu" ∧ Fld Z h r "com/example/chipmantle/chipmantle/CommandApdu" "bytes" "[B" (.ref a0) ∧ Fld Z h r "com/example/chipmantle/chipmantle/CommandApdu" "offsetCdata" "I" (.int (own_po len vs)) ∧ Fld Z h r "com/example/chipmantle/chipmantle/CommandApdu" "nc" "I" (.int (own_pn len vs)) ∧ Fld Z h r "com/example/chipmantle/chipmantle/CommandApdu" "ne" "I" (.int (own_pe len vs)))
set_option maxRecDepth 65536 in
set_option maxHeartbeats 40000000 in
theorem rm1 (l : Launch) (Z : State) (ag : Array Value) (hw : ∀ d ∈ tables_1, d.before ag Z = true) (ws : List Jvm.Cond) (a0 : Addr) (k : ClassId) (len : Int32) (vs : List Value) (h0 : Heap) (n0 : Nat) (Z0 : n0 ≤ h0.size) (V_a0 : Arv Z h0 a0 k .byte len vs (.int (0 : Int32))) (hl4 : 4 ≤ len.toInt) (hlm : len.toInt ≤ 65545) (ge_a0 : n0 ≤ a0) :
    MetFree l (⟨"com/example/chipmantle/chipmantle/CommandApdu", "parse", "([B)Lcom/example/chipmantle/chipmantle/CommandApdu;"⟩ : MethodName) (head1 (Jvm.Cond.code (⟨"com/example/chipmantle/chipmantle/CommandApdu", "parse", "([B)Lcom/example/chipmantle/chipmantle/CommandApdu;"⟩ : MethodName) prog_3_method_2_code 4 (some (.object "com/example/chipmantle/chipmantle/CommandApdu")) :: ws) ({ frames := 3, cells := 1, slots := 4, locals := 52 } : Room)) (fun a U => a = #[(.ref a0)] ∧ Z.Warmed39 U.vm ∧ U.heap = h0) (fun _ _ _ _ _ => True) (fun _ U o U' => ∃ v L, o = .returned v ∧ Q1 Z a0 k len vs h0 n0 v U'.heap L ∧ FrameEnd U o U' L ({ frames := 3, cells := 1, slots := 4, locals := 52 } : Room).cells ({ frames := 3, cells := 1, slots := 4, locals := 52 } : Room).slots) := by
  refine MetFree.of_bodySF (plainFor_of_name pn_0) hisR ?_
  intro p e s m args below meth c s₁ Bd hml0 hP hK
  obtain ⟨rfl, hZ, hh⟩ := hP
  have hx := Bd.exec
  have hby := Bd.bytes
  have hml : c.maxLocals = 4 := hml0
  have hown : s.vm.findClass "com/example/chipmantle/chipmantle/CommandApdu" = some m.cls := findClass_of_methodNamed Bd.named
  have hnm := (name_of_methodNamed Bd.named Bd.method).1
  have X0 : Stand p l e ({ frames := 3, cells := 1, slots := 4, locals := 52 } : Room) s m #[(.ref a0)] below meth c s₁ [] 0 0 := Stand.of_body Bd
  have e0 : s₁.heap = h0 := by rw [← hh, Bd.state]; rfl
  have N0 := Fr.nil n0
  have pre0 : ∀ t, Steps p.tables e below (s₁.setTop (mkF m 0 #[.val (.ref a0), .unset, .unset, .unset] [])) t → Steps p.tables e below (s₁.setTop (entryFrame m #[(.ref a0)] 4)) t := fun t k => castTop (ef_1 m a0) k
  obtain ⟨cl102, Ar102, -, S102, M102, -, -⟩ := id V_a0
  have ld102 := X0.arraylength hx (by rw [e0]; exact Ar102.1) (State.isArrayOf_alike hZ.alike Ar102.2.1) (g := (mkF m 1 #[.val (.ref a0), .unset, .unset, .unset] [(.ref a0)])) rfl rfl (hb hby d1_1)
  have cp104 : ∀ target, own_S p e below s₁ (mkF m 6 #[.val (.ref a0), .val (.int (len - (4 : Int32))), .unset, .unset] [(.int (len - (4 : Int32)))]) target → own_S p e below s₁ (mkF m 0 #[.val (.ref a0), .unset, .unset, .unset] []) target := by
    intro target kt
    show own_S p e below s₁ (mkF m 0 #[.val (.ref a0), .unset, .unset, .unset] []) _
    refine XS.aloadN X0.here hx rfl (hb hby d1_0) rfl rfl ?_
    show own_S p e below s₁ (mkF m 1 #[.val (.ref a0), .unset, .unset, .unset] [(.ref a0)]) _
    refine ld102 _ ?_
    rw [len_of S102 M102]
    show own_S p e below s₁ (mkF m 2 #[.val (.ref a0), .unset, .unset, .unset] [(.int len)]) _
    refine XS.iconst X0.here hx rfl (hb hby d1_2) ?_
    show own_S p e below s₁ (mkF m 3 #[.val (.ref a0), .unset, .unset, .unset] [.int 4, (.int len)]) _
    refine XS.isub X0.here hx rfl (hb hby d1_3) rfl ?_
    show own_S p e below s₁ (mkF m 4 #[.val (.ref a0), .unset, .unset, .unset] [(.int (len - (4 : Int32)))]) _
    refine XS.istoreN X0.here hx rfl (hb hby d1_4) rfl (l' := #[.val (.ref a0), .val (.int (len - (4 : Int32))), .unset, .unset]) rfl ?_
    show own_S p e below s₁ (mkF m 5 #[.val (.ref a0), .val (.int (len - (4 : Int32))), .unset, .unset] []) _
    refine XS.iloadN X0.here hx rfl (hb hby d1_5) rfl ?_
    exact kt
  by_cases hc103 : (len - (4 : Int32)) = (0 : Int32)
  · obtain ⟨T105, h105, X105, e105, E105, A105, D105, -, st105⟩ := newO X0 hx hZ hown (hw _ (List.mem_of_getElem? (i := 6) rfl)) (hw _ (List.mem_of_getElem? (i := 7) rfl)) (hw _ (List.mem_of_getElem? (i := 4) rfl)) e0 (g := (mkF m 9 #[.val (.ref a0), .val (.int (len - (4 : Int32))), .unset, .unset] [])) rfl (hb hby d1_9) (by decide) (by decide)
    obtain ⟨b105, g105⟩ : ∃ z, z = h0.size := ⟨_, rfl⟩
    have ne106 : a0 ≠ b105 := Nat.ne_of_lt (Nat.lt_of_lt_of_le V_a0.lt (Nat.le_of_eq g105.symm))
    have ge_b105 : n0 ≤ b105 := Nat.le_trans Z0 (Nat.le_of_eq g105.symm)
    have gs_b105 : h0.size ≤ b105 := Nat.le_trans (Keep.refl h0 []).1 (Nat.le_of_eq g105.symm)
    rw [← g105] at A105 D105 st105
    have x107 := V_a0.ext E105
    have sz108 : n0 ≤ h105.size := Nat.le_trans Z0 E105.1
    have kp109 : Keep h0 h105 [] := (Keep.refl h0 []).ext E105
    have F105_bytes : Fld Z h105 b105 "com/example/chipmantle/chipmantle/CommandApdu" "bytes" "[B" .null := D105 (Or.inr (hw _ (List.mem_of_getElem? (i := 15) rfl))) (ty := (.array .byte)) (by decide)
    have F105_offsetCdata : Fld Z h105 b105 "com/example/chipmantle/chipmantle/CommandApdu" "offsetCdata" "I" (.int (0 : Int32)) := D105 (Or.inr (hw _ (List.mem_of_getElem? (i := 17) rfl))) (ty := .int) (by decide)
    have F105_nc : Fld Z h105 b105 "com/example/chipmantle/chipmantle/CommandApdu" "nc" "I" (.int (0 : Int32)) := D105 (Or.inr (hw _ (List.mem_of_getElem? (i := 19) rfl))) (ty := .int) (by decide)
    have F105_ne : Fld Z h105 b105 "com/example/chipmantle/chipmantle/CommandApdu" "ne" "I" (.int (0 : Int32)) := D105 (Or.inr (hw _ (List.mem_of_getElem? (i := 21) rfl))) (ty := .int) (by decide)
    obtain ⟨_, _, ⟨T110, L110, k110, n110⟩, -, X110, ⟨Lc110, hQ110, l110, y110, z110⟩, st110⟩ := X105.specialBack hx (y := (⟨"com/example/chipmantle/chipmantle/CommandApdu", "<init>", "([BIII)V"⟩ : MethodName)) rfl hown (mvT hZ (hw _ (List.mem_of_getElem? (i := 8) rfl))) (mvT hZ (hw _ (List.mem_of_getElem? (i := 9) rfl))) (mvT hZ (hw _ (List.mem_of_getElem? (i := 10) rfl))) (by decide) (backOf (W := 1) (rm2 l Z ag hw [] b105 a0 (5 : Int32) (0 : Int32) (0 : Int32)  h105 n0 sz108 A105 ge_b105 F105_bytes F105_offsetCdata F105_nc F105_ne) hZ (hw _ (List.mem_of_getElem? (i := 10) rfl)) (hw _ (List.mem_of_getElem? (i := 4) rfl)) (by decide) (by decide)) (g := (mkF m 17 #[.val (.ref a0), .val (.int (len - (4 : Int32))), .unset, .unset] [.int 0, .int 0, .int 5, (.ref a0), (.ref b105), (.ref b105)])) rfl (by rw [hml]; rfl) (Steps.refl _) (a := b105) (argsL := [(.ref a0), (.int (5 : Int32)), (.int (0 : Int32)), (.int (0 : Int32))]) (rest := [(.ref b105)]) (lenOf pd_7 rfl) rfl (by show 2 * 0 + _ ≤ _; exact Nat.le_of_eq rfl) (hb hby d1_17) (fun _ _ => ⟨rfl, e105, (by decide : 1 + 0 ≤ _), (by decide : 4 + 0 ≤ _)⟩)
    dsimp only [Pt.U, Pt.locs, Pt.cells, Pt.slots] at X110 l110 y110 z110 st110 hQ110
    subst l110 y110 z110
    obtain ⟨rfl, N110q, K110, F1110, F2110, F3110, F4110⟩ := hQ110
    have N110 := Fr.app N0 N110q
    have x111 := x107.keep K110 (ninS ne106 nin0)
    have x112 := A105.keep K110
    have sz113 : n0 ≤ T110.heap.size := Nat.le_trans sz108 K110.1
    have kp114 : Keep h0 T110.heap [] := kp109.trans K110 (allS (Or.inr gs_b105) all0)
    obtain ⟨fs, hr, hrun, hended, hW, hsame⟩ := X110.leave (v := some (.ref b105)) (fun h => by rw [Bd.returns] at h; cases h)
    refine ⟨_, _, pre0 _ ?_, hrun, hended, _, _, rfl, ?_, ⟨_, rfl⟩, hW, hsame.mono (by decide) (by decide)⟩
    · show own_S p e below s₁ (mkF m 0 #[.val (.ref a0), .unset, .unset, .unset] []) _
      refine cp104 _ ?_
      show own_S p e below s₁ (mkF m 6 #[.val (.ref a0), .val (.int (len - (4 : Int32))), .unset, .unset] [(.int (len - (4 : Int32)))]) _
      refine XS.ifNo X0.here hx rfl (hb hby d1_6) rfl ((if0 _ _).trans (teq hc103).2) ?_
      show own_S p e below s₁ (mkF m 9 #[.val (.ref a0), .val (.int (len - (4 : Int32))), .unset, .unset] []) _
      refine st105 _ ?_
      show own_S p e below T105 (mkF m 12 #[.val (.ref a0), .val (.int (len - (4 : Int32))), .unset, .unset] [(.ref b105)]) _
      refine XS.dup X105.here hx rfl (hb hby d1_12) rfl rfl ?_
      show own_S p e below T105 (mkF m 13 #[.val (.ref a0), .val (.int (len - (4 : Int32))), .unset, .unset] [(.ref b105), (.ref b105)]) _
      refine XS.aloadN X105.here hx rfl (hb hby d1_13) rfl rfl ?_
      show own_S p e below T105 (mkF m 14 #[.val (.ref a0), .val (.int (len - (4 : Int32))), .unset, .unset] [(.ref a0), (.ref b105), (.ref b105)]) _
      refine XS.iconst X105.here hx rfl (hb hby d1_14) ?_
      show own_S p e below T105 (mkF m 15 #[.val (.ref a0), .val (.int (len - (4 : Int32))), .unset, .unset] [.int 5, (.ref a0), (.ref b105), (.ref b105)]) _
      refine XS.iconst X105.here hx rfl (hb hby d1_15) ?_
      show own_S p e below T105 (mkF m 16 #[.val (.ref a0), .val (.int (len - (4 : Int32))), .unset, .unset] [.int 0, .int 5, (.ref a0), (.ref b105), (.ref b105)]) _
      refine XS.iconst X105.here hx rfl (hb hby d1_16) ?_
      show own_S p e below T105 (mkF m 17 #[.val (.ref a0), .val (.int (len - (4 : Int32))), .unset, .unset] [.int 0, .int 0, .int 5, (.ref a0), (.ref b105), (.ref b105)]) _
      refine st110.trans ?_
      show own_S p e below T110 (mkF m 20 #[.val (.ref a0), .val (.int (len - (4 : Int32))), .unset, .unset] [(.ref b105)]) _
      exact Jvm.RoadKit.retOut X110 hx Bd.returns rfl (Or.inr (Or.inr (Or.inr (Or.inr ⟨rfl, rfl, rfl⟩)))) (hb hby d1_20) hr
    · show Q1 Z a0 k len vs h0 n0 _ T110.heap _
      have Fz1 := own_cast (P := fun z => Fld Z T110.heap b105 "com/example/chipmantle/chipmantle/CommandApdu" "offsetCdata" "I" (.int z)) (show _ = own_po len vs from by unfold own_po; rw [if_pos hc103]) F2110
      have Fz2 := own_cast (P := fun z => Fld Z T110.heap b105 "com/example/chipmantle/chipmantle/CommandApdu" "nc" "I" (.int z)) (show _ = own_pn len vs from by unfold own_pn; rw [if_pos hc103]) F3110
      have Fz3 := own_cast (P := fun z => Fld Z T110.heap b105 "com/example/chipmantle/chipmantle/CommandApdu" "ne" "I" (.int z)) (show _ = own_pe len vs from by unfold own_pe; rw [if_pos hc103]) F4110
      exact Or.inr ⟨b105, rfl, N110, kp114, gs_b105, (by unfold own_pv; rw [if_pos hc103]), x112, F1110, Fz1, Fz2, Fz3⟩
  · have cp116 : ∀ target, own_S p e below s₁ (mkF m 23 #[.val (.ref a0), .val (.int (len - (4 : Int32))), .unset, .unset] [.int 1, (.int (len - (4 : Int32)))]) target → own_S p e below s₁ (mkF m 0 #[.val (.ref a0), .unset, .unset, .unset] []) target := by
      intro target kt
      show own_S p e below s₁ (mkF m 0 #[.val (.ref a0), .unset, .unset, .unset] []) _
      refine cp104 _ ?_
      show own_S p e below s₁ (mkF m 6 #[.val (.ref a0), .val (.int (len - (4 : Int32))), .unset, .unset] [(.int (len - (4 : Int32)))]) _
      refine XS.ifYes X0.here hx rfl (pc0 := 6) (pc' := 21) rfl (hb hby d1_6) rfl ((if0 _ _).trans (feq hc103).2) (by decide) (by decide) ?_
      show own_S p e below s₁ (mkF m 21 #[.val (.ref a0), .val (.int (len - (4 : Int32))), .unset, .unset] []) _
      refine XS.iloadN X0.here hx rfl (hb hby d1_21) rfl ?_
      show own_S p e below s₁ (mkF m 22 #[.val (.ref a0), .val (.int (len - (4 : Int32))), .unset, .unset] [(.int (len - (4 : Int32)))]) _
      refine XS.iconst X0.here hx rfl (hb hby d1_22) ?_
      exact kt
    by_cases hc115 : (len - (4 : Int32)) = (1 : Int32)
    · obtain ⟨T117, h117, X117, e117, E117, A117, D117, -, st117⟩ := newO X0 hx hZ hown (hw _ (List.mem_of_getElem? (i := 6) rfl)) (hw _ (List.mem_of_getElem? (i := 7) rfl)) (hw _ (List.mem_of_getElem? (i := 4) rfl)) e0 (g := (mkF m 26 #[.val (.ref a0), .val (.int (len - (4 : Int32))), .unset, .unset] [])) rfl (hb hby d1_26) (by decide) (by decide)
      obtain ⟨b117, g117⟩ : ∃ z, z = h0.size := ⟨_, rfl⟩
      have ne118 : a0 ≠ b117 := Nat.ne_of_lt (Nat.lt_of_lt_of_le V_a0.lt (Nat.le_of_eq g117.symm))
      have ge_b117 : n0 ≤ b117 := Nat.le_trans Z0 (Nat.le_of_eq g117.symm)
      have gs_b117 : h0.size ≤ b117 := Nat.le_trans (Keep.refl h0 []).1 (Nat.le_of_eq g117.symm)
      rw [← g117] at A117 D117 st117
      have x119 := V_a0.ext E117
      have sz120 : n0 ≤ h117.size := Nat.le_trans Z0 E117.1
      have kp121 : Keep h0 h117 [] := (Keep.refl h0 []).ext E117
      have F117_bytes : Fld Z h117 b117 "com/example/chipmantle/chipmantle/CommandApdu" "bytes" "[B" .null := D117 (Or.inr (hw _ (List.mem_of_getElem? (i := 15) rfl))) (ty := (.array .byte)) (by decide)
      have F117_offsetCdata : Fld Z h117 b117 "com/example/chipmantle/chipmantle/CommandApdu" "offsetCdata" "I" (.int (0 : Int32)) := D117 (Or.inr (hw _ (List.mem_of_getElem? (i := 17) rfl))) (ty := .int) (by decide)
      have F117_nc : Fld Z h117 b117 "com/example/chipmantle/chipmantle/CommandApdu" "nc" "I" (.int (0 : Int32)) := D117 (Or.inr (hw _ (List.mem_of_getElem? (i := 19) rfl))) (ty := .int) (by decide)
      have F117_ne : Fld Z h117 b117 "com/example/chipmantle/chipmantle/CommandApdu" "ne" "I" (.int (0 : Int32)) := D117 (Or.inr (hw _ (List.mem_of_getElem? (i := 21) rfl))) (ty := .int) (by decide)
      obtain ⟨_, _, ⟨T122, L122, k122, n122⟩, -, X122, ⟨Lc122, hQ122, l122, y122, z122⟩, st122⟩ := Jvm.LawKit.callS X117 hx (y := (⟨"com/example/chipmantle/chipmantle/CommandApdu", "ne", "([BII)I"⟩ : MethodName)) hown (mvT hZ (hw _ (List.mem_of_getElem? (i := 53) rfl))) (mvT hZ (hw _ (List.mem_of_getElem? (i := 54) rfl))) (mvT hZ (hw _ (List.mem_of_getElem? (i := 4) rfl))) (mvT hZ (hw _ (List.mem_of_getElem? (i := 55) rfl))) (by decide) (backOf (W := 5) (rm11_1 l Z ag hw [] a0 (4 : Int32) k len vs h117 n0 sz120 x119 hl4 hlm (by decide) (own_a1 len hl4 hlm hc103 hc115)) hZ (hw _ (List.mem_of_getElem? (i := 55) rfl)) (hw _ (List.mem_of_getElem? (i := 4) rfl)) (by decide) (by decide)) (g := (mkF m 36 #[.val (.ref a0), .val (.int (len - (4 : Int32))), .unset, .unset] [.int 1, .int 4, (.ref a0), .int 0, .int 5, (.ref a0), (.ref b117), (.ref b117)])) rfl (by rw [hml]; rfl) (argsL := [(.ref a0), (.int (4 : Int32)), (.int (1 : Int32))]) (rest := [(.int (0 : Int32)), (.int (5 : Int32)), (.ref a0), (.ref b117), (.ref b117)]) (lenOf pd_5 rfl) rfl (by show 2 * 0 + _ ≤ _; exact Nat.le_of_eq rfl) (hb hby d1_36) (fun _ _ => ⟨rfl, e117, (by decide : 1 + 0 ≤ _), (by decide : 4 + 0 ≤ _)⟩)
      dsimp only [Pt.U, Pt.locs, Pt.cells, Pt.slots] at X122 l122 y122 z122 st122 hQ122
      subst l122 y122 z122
      obtain ⟨rfl, N122q, e122⟩ := hQ122
      have N122 := Fr.app N0 N122q
      obtain ⟨_, _, ⟨T123, L123, k123, n123⟩, -, X123, ⟨Lc123, hQ123, l123, y123, z123⟩, st123⟩ := X122.specialBack hx (y := (⟨"com/example/chipmantle/chipmantle/CommandApdu", "<init>", "([BIII)V"⟩ : MethodName)) rfl hown (mvT hZ (hw _ (List.mem_of_getElem? (i := 8) rfl))) (mvT hZ (hw _ (List.mem_of_getElem? (i := 9) rfl))) (mvT hZ (hw _ (List.mem_of_getElem? (i := 10) rfl))) (by decide) (backOf (W := 1) (rm2 l Z ag hw [] b117 a0 (5 : Int32) (0 : Int32) (own_ne1 len vs (4 : Int32))  h117 n0 sz120 A117 ge_b117 F117_bytes F117_offsetCdata F117_nc F117_ne) hZ (hw _ (List.mem_of_getElem? (i := 10) rfl)) (hw _ (List.mem_of_getElem? (i := 4) rfl)) (by decide) (by decide)) (g := (mkF m 39 #[.val (.ref a0), .val (.int (len - (4 : Int32))), .unset, .unset] [(.int (own_ne1 len vs (4 : Int32))), .int 0, .int 5, (.ref a0), (.ref b117), (.ref b117)])) rfl (by rw [hml]; rfl) (Steps.refl _) (a := b117) (argsL := [(.ref a0), (.int (5 : Int32)), (.int (0 : Int32)), (.int (own_ne1 len vs (4 : Int32)))]) (rest := [(.ref b117)]) (lenOf pd_7 rfl) rfl (by show 2 * 0 + _ ≤ _; exact Nat.le_of_eq rfl) (hb hby d1_39) (fun _ _ => ⟨rfl, e122, (by decide : 1 + 0 ≤ _), (by decide : 4 + 0 ≤ _)⟩)
      dsimp only [Pt.U, Pt.locs, Pt.cells, Pt.slots] at X123 l123 y123 z123 st123 hQ123
      subst l123 y123 z123
      obtain ⟨rfl, N123q, K123, F1123, F2123, F3123, F4123⟩ := hQ123
      have N123 := Fr.app N122 N123q
      have x124 := x119.keep K123 (ninS ne118 nin0)
      have x125 := A117.keep K123
      have sz126 : n0 ≤ T123.heap.size := Nat.le_trans sz120 K123.1
      have kp127 : Keep h0 T123.heap [] := kp121.trans K123 (allS (Or.inr gs_b117) all0)
      obtain ⟨fs, hr, hrun, hended, hW, hsame⟩ := X123.leave (v := some (.ref b117)) (fun h => by rw [Bd.returns] at h; cases h)
      refine ⟨_, _, pre0 _ ?_, hrun, hended, _, _, rfl, ?_, ⟨_, rfl⟩, hW, hsame.mono (by decide) (by decide)⟩
      · show own_S p e below s₁ (mkF m 0 #[.val (.ref a0), .unset, .unset, .unset] []) _
        refine cp116 _ ?_
        show own_S p e below s₁ (mkF m 23 #[.val (.ref a0), .val (.int (len - (4 : Int32))), .unset, .unset] [.int 1, (.int (len - (4 : Int32)))]) _
        refine XS.icmpNo X0.here hx rfl (hb hby d1_23) rfl (teq hc115).2 ?_
        show own_S p e below s₁ (mkF m 26 #[.val (.ref a0), .val (.int (len - (4 : Int32))), .unset, .unset] []) _
        refine st117 _ ?_
        show own_S p e below T117 (mkF m 29 #[.val (.ref a0), .val (.int (len - (4 : Int32))), .unset, .unset] [(.ref b117)]) _
        refine XS.dup X117.here hx rfl (hb hby d1_29) rfl rfl ?_
        show own_S p e below T117 (mkF m 30 #[.val (.ref a0), .val (.int (len - (4 : Int32))), .unset, .unset] [(.ref b117), (.ref b117)]) _
        refine XS.aloadN X117.here hx rfl (hb hby d1_30) rfl rfl ?_
        show own_S p e below T117 (mkF m 31 #[.val (.ref a0), .val (.int (len - (4 : Int32))), .unset, .unset] [(.ref a0), (.ref b117), (.ref b117)]) _
        refine XS.iconst X117.here hx rfl (hb hby d1_31) ?_
        show own_S p e below T117 (mkF m 32 #[.val (.ref a0), .val (.int (len - (4 : Int32))), .unset, .unset] [.int 5, (.ref a0), (.ref b117), (.ref b117)]) _
        refine XS.iconst X117.here hx rfl (hb hby d1_32) ?_
        show own_S p e below T117 (mkF m 33 #[.val (.ref a0), .val (.int (len - (4 : Int32))), .unset, .unset] [.int 0, .int 5, (.ref a0), (.ref b117), (.ref b117)]) _
        refine XS.aloadN X117.here hx rfl (hb hby d1_33) rfl rfl ?_
        show own_S p e below T117 (mkF m 34 #[.val (.ref a0), .val (.int (len - (4 : Int32))), .unset, .unset] [(.ref a0), .int 0, .int 5, (.ref a0), (.ref b117), (.ref b117)]) _
        refine XS.iconst X117.here hx rfl (hb hby d1_34) ?_
        show own_S p e below T117 (mkF m 35 #[.val (.ref a0), .val (.int (len - (4 : Int32))), .unset, .unset] [.int 4, (.ref a0), .int 0, .int 5, (.ref a0), (.ref b117), (.ref b117)]) _
        refine XS.iconst X117.here hx rfl (hb hby d1_35) ?_
        show own_S p e below T117 (mkF m 36 #[.val (.ref a0), .val (.int (len - (4 : Int32))), .unset, .unset] [.int 1, .int 4, (.ref a0), .int 0, .int 5, (.ref a0), (.ref b117), (.ref b117)]) _
        refine st122 _ ?_
        show own_S p e below T122 (mkF m 39 #[.val (.ref a0), .val (.int (len - (4 : Int32))), .unset, .unset] [(.int (own_ne1 len vs (4 : Int32))), .int 0, .int 5, (.ref a0), (.ref b117), (.ref b117)]) _
        refine st123.trans ?_
        show own_S p e below T123 (mkF m 42 #[.val (.ref a0), .val (.int (len - (4 : Int32))), .unset, .unset] [(.ref b117)]) _
        exact Jvm.RoadKit.retOut X123 hx Bd.returns rfl (Or.inr (Or.inr (Or.inr (Or.inr ⟨rfl, rfl, rfl⟩)))) (hb hby d1_42) hr
      · show Q1 Z a0 k len vs h0 n0 _ T123.heap _
        have Fz1 := own_cast (P := fun z => Fld Z T123.heap b117 "com/example/chipmantle/chipmantle/CommandApdu" "offsetCdata" "I" (.int z)) (show _ = own_po len vs from by unfold own_po; rw [if_neg hc103, if_pos hc115]) F2123
        have Fz2 := own_cast (P := fun z => Fld Z T123.heap b117 "com/example/chipmantle/chipmantle/CommandApdu" "nc" "I" (.int z)) (show _ = own_pn len vs from by unfold own_pn; rw [if_neg hc103, if_pos hc115]) F3123
        have Fz3 := own_cast (P := fun z => Fld Z T123.heap b117 "com/example/chipmantle/chipmantle/CommandApdu" "ne" "I" (.int z)) (show _ = own_pe len vs from by unfold own_pe; rw [if_neg hc103, if_pos hc115]) F4123
        exact Or.inr ⟨b117, rfl, N123, kp127, gs_b117, (by unfold own_pv; rw [if_neg hc103, if_pos hc115]), x125, F1123, Fz1, Fz2, Fz3⟩
    · obtain ⟨cl128, Ar128, q128, S128, M128, H128, G128⟩ := id V_a0
      have hin128 : ¬ ((4 : Int32) < 0 ∨ cl128.slots.size ≤ ((4 : Int32)).toNatClampNeg) := inb_of S128 (own_b4i len hl4 hlm hc103 hc115)
      have hat128 : cl128.slots[((4 : Int32)).toNatClampNeg]? = some (.int (own_el vs (4 : Int32))) := Has.at H128 hin128 (own_el_at (G128 _ (Nat.lt_of_not_le fun y => hin128 (Or.inr y))))
      have ld128 := X0.baloadBytes hx (j := (4 : Int32)) (v := (.int (own_el vs (4 : Int32)))) (by rw [e0]; exact Ar128.1) (State.isArrayOf_alike hZ.alike Ar128.2.1) Ar128.2.2 hin128 hat128 (g := (mkF m 45 #[.val (.ref a0), .val (.int (len - (4 : Int32))), .unset, .unset] [.int 4, (.ref a0)])) rfl rfl (hb hby d1_45)
      have cp130 : ∀ target, own_S p e below s₁ (mkF m 52 (own_loc7 a0 len vs) [(.int ((own_el vs (4 : Int32)) &&& (255 : Int32)))]) target → own_S p e below s₁ (mkF m 0 #[.val (.ref a0), .unset, .unset, .unset] []) target := by
        intro target kt
        show own_S p e below s₁ (mkF m 0 #[.val (.ref a0), .unset, .unset, .unset] []) _
        refine cp116 _ ?_
        show own_S p e below s₁ (mkF m 23 #[.val (.ref a0), .val (.int (len - (4 : Int32))), .unset, .unset] [.int 1, (.int (len - (4 : Int32)))]) _
        refine XS.icmpYes X0.here hx rfl (pc0 := 23) (pc' := 43) rfl (hb hby d1_23) rfl (feq hc115).2 (by decide) (by decide) ?_
        show own_S p e below s₁ (mkF m 43 #[.val (.ref a0), .val (.int (len - (4 : Int32))), .unset, .unset] []) _
        refine XS.aloadN X0.here hx rfl (hb hby d1_43) rfl rfl ?_
        show own_S p e below s₁ (mkF m 44 #[.val (.ref a0), .val (.int (len - (4 : Int32))), .unset, .unset] [(.ref a0)]) _
        refine XS.iconst X0.here hx rfl (hb hby d1_44) ?_
        show own_S p e below s₁ (mkF m 45 #[.val (.ref a0), .val (.int (len - (4 : Int32))), .unset, .unset] [.int 4, (.ref a0)]) _
        refine ld128 _ ?_
        show own_S p e below s₁ (mkF m 46 #[.val (.ref a0), .val (.int (len - (4 : Int32))), .unset, .unset] [(.int (own_el vs (4 : Int32)))]) _
        refine XS.sipush X0.here hx rfl (hb hby d1_46) ?_
        show own_S p e below s₁ (mkF m 49 #[.val (.ref a0), .val (.int (len - (4 : Int32))), .unset, .unset] [.int 255, (.int (own_el vs (4 : Int32)))]) _
        refine XS.iand X0.here hx rfl (hb hby d1_49) rfl ?_
        show own_S p e below s₁ (mkF m 50 #[.val (.ref a0), .val (.int (len - (4 : Int32))), .unset, .unset] [(.int ((own_el vs (4 : Int32)) &&& (255 : Int32)))]) _
        refine XS.istoreN X0.here hx rfl (hb hby d1_50) rfl (l' := (own_loc7 a0 len vs)) rfl ?_
        show own_S p e below s₁ (mkF m 51 (own_loc7 a0 len vs) []) _
        refine XS.iloadN X0.here hx rfl (hb hby d1_51) rfl ?_
        exact kt
      by_cases hc129 : ((own_el vs (4 : Int32)) &&& (255 : Int32)) = (0 : Int32)
      · have cp132 : ∀ target, own_S p e below s₁ (mkF m 65 (own_loc7 a0 len vs) [.int 3, (.int (len - (4 : Int32)))]) target → own_S p e below s₁ (mkF m 0 #[.val (.ref a0), .unset, .unset, .unset] []) target := by
          intro target kt
          show own_S p e below s₁ (mkF m 0 #[.val (.ref a0), .unset, .unset, .unset] []) _
          refine cp130 _ ?_
          show own_S p e below s₁ (mkF m 52 (own_loc7 a0 len vs) [(.int ((own_el vs (4 : Int32)) &&& (255 : Int32)))]) _
          refine XS.ifYes X0.here hx rfl (pc0 := 52) (pc' := 63) rfl (hb hby d1_52) rfl ((if0 _ _).trans (teq hc129).1) (by decide) (by decide) ?_
          show own_S p e below s₁ (mkF m 63 (own_loc7 a0 len vs) []) _
          refine XS.iloadN X0.here hx rfl (hb hby d1_63) rfl ?_
          show own_S p e below s₁ (mkF m 64 (own_loc7 a0 len vs) [(.int (len - (4 : Int32)))]) _
          refine XS.iconst X0.here hx rfl (hb hby d1_64) ?_
          exact kt
        by_cases hc131 : (len - (4 : Int32)) < (3 : Int32)
        · obtain ⟨fs, hr, hrun, hended, hW, hsame⟩ := X0.leave (v := some .null) (fun h => by rw [Bd.returns] at h; cases h)
          refine ⟨_, _, pre0 _ ?_, hrun, hended, _, _, rfl, ?_, ⟨_, rfl⟩, hW, hsame.mono (by decide) (by decide)⟩
          · show own_S p e below s₁ (mkF m 0 #[.val (.ref a0), .unset, .unset, .unset] []) _
            refine cp132 _ ?_
            show own_S p e below s₁ (mkF m 65 (own_loc7 a0 len vs) [.int 3, (.int (len - (4 : Int32)))]) _
            refine XS.icmpNo X0.here hx rfl (hb hby d1_65) rfl (tlt hc131).2.1 ?_
            show own_S p e below s₁ (mkF m 68 (own_loc7 a0 len vs) []) _
            refine XS.aconstNull X0.here hx rfl (hb hby d1_68) ?_
            show own_S p e below s₁ (mkF m 69 (own_loc7 a0 len vs) [.null]) _
            exact Jvm.RoadKit.retOut X0 hx Bd.returns rfl (Or.inr (Or.inr (Or.inr (Or.inr ⟨rfl, rfl, rfl⟩)))) (hb hby d1_69) hr
          · show Q1 Z a0 k len vs h0 n0 _ s₁.heap _
            rw [e0]
            exact Or.inl ⟨rfl, N0, (Keep.refl h0 []), (by unfold own_pv; rw [if_neg hc103, if_neg hc115, if_pos hc129, if_pos hc131])⟩
        · have cp134 : ∀ target, own_S p e below s₁ (mkF m 72 (own_loc7 a0 len vs) [.int 3, (.int (len - (4 : Int32)))]) target → own_S p e below s₁ (mkF m 0 #[.val (.ref a0), .unset, .unset, .unset] []) target := by
            intro target kt
            show own_S p e below s₁ (mkF m 0 #[.val (.ref a0), .unset, .unset, .unset] []) _
            refine cp132 _ ?_
            show own_S p e below s₁ (mkF m 65 (own_loc7 a0 len vs) [.int 3, (.int (len - (4 : Int32)))]) _
            refine XS.icmpYes X0.here hx rfl (pc0 := 65) (pc' := 70) rfl (hb hby d1_65) rfl (flt hc131).2.1 (by decide) (by decide) ?_
            show own_S p e below s₁ (mkF m 70 (own_loc7 a0 len vs) []) _
            refine XS.iloadN X0.here hx rfl (hb hby d1_70) rfl ?_
            show own_S p e below s₁ (mkF m 71 (own_loc7 a0 len vs) [(.int (len - (4 : Int32)))]) _
            refine XS.iconst X0.here hx rfl (hb hby d1_71) ?_
            exact kt
          by_cases hc133 : (len - (4 : Int32)) = (3 : Int32)
          · obtain ⟨T135, h135, X135, e135, E135, A135, D135, -, st135⟩ := newO X0 hx hZ hown (hw _ (List.mem_of_getElem? (i := 6) rfl)) (hw _ (List.mem_of_getElem? (i := 7) rfl)) (hw _ (List.mem_of_getElem? (i := 4) rfl)) e0 (g := (mkF m 75 (own_loc7 a0 len vs) [])) rfl (hb hby d1_75) (by decide) (by decide)
            obtain ⟨b135, g135⟩ : ∃ z, z = h0.size := ⟨_, rfl⟩
            have ne136 : a0 ≠ b135 := Nat.ne_of_lt (Nat.lt_of_lt_of_le V_a0.lt (Nat.le_of_eq g135.symm))
            have ge_b135 : n0 ≤ b135 := Nat.le_trans Z0 (Nat.le_of_eq g135.symm)
            have gs_b135 : h0.size ≤ b135 := Nat.le_trans (Keep.refl h0 []).1 (Nat.le_of_eq g135.symm)
            rw [← g135] at A135 D135 st135
            have x137 := V_a0.ext E135
            have sz138 : n0 ≤ h135.size := Nat.le_trans Z0 E135.1
            have kp139 : Keep h0 h135 [] := (Keep.refl h0 []).ext E135
            have F135_bytes : Fld Z h135 b135 "com/example/chipmantle/chipmantle/CommandApdu" "bytes" "[B" .null := D135 (Or.inr (hw _ (List.mem_of_getElem? (i := 15) rfl))) (ty := (.array .byte)) (by decide)
            have F135_offsetCdata : Fld Z h135 b135 "com/example/chipmantle/chipmantle/CommandApdu" "offsetCdata" "I" (.int (0 : Int32)) := D135 (Or.inr (hw _ (List.mem_of_getElem? (i := 17) rfl))) (ty := .int) (by decide)
            have F135_nc : Fld Z h135 b135 "com/example/chipmantle/chipmantle/CommandApdu" "nc" "I" (.int (0 : Int32)) := D135 (Or.inr (hw _ (List.mem_of_getElem? (i := 19) rfl))) (ty := .int) (by decide)
            have F135_ne : Fld Z h135 b135 "com/example/chipmantle/chipmantle/CommandApdu" "ne" "I" (.int (0 : Int32)) := D135 (Or.inr (hw _ (List.mem_of_getElem? (i := 21) rfl))) (ty := .int) (by decide)
            obtain ⟨_, _, ⟨T140, L140, k140, n140⟩, -, X140, ⟨Lc140, hQ140, l140, y140, z140⟩, st140⟩ := Jvm.LawKit.callS X135 hx (y := (⟨"com/example/chipmantle/chipmantle/CommandApdu", "ne", "([BII)I"⟩ : MethodName)) hown (mvT hZ (hw _ (List.mem_of_getElem? (i := 53) rfl))) (mvT hZ (hw _ (List.mem_of_getElem? (i := 54) rfl))) (mvT hZ (hw _ (List.mem_of_getElem? (i := 4) rfl))) (mvT hZ (hw _ (List.mem_of_getElem? (i := 55) rfl))) (by decide) (backOf (W := 5) (rm11_2 l Z ag hw [] a0 (5 : Int32) k len vs h135 n0 sz138 x137 hl4 hlm (by decide) (own_a2 len hl4 hlm hc103 hc115 hc131 hc133)) hZ (hw _ (List.mem_of_getElem? (i := 55) rfl)) (hw _ (List.mem_of_getElem? (i := 4) rfl)) (by decide) (by decide)) (g := (mkF m 86 (own_loc7 a0 len vs) [.int 2, .int 5, (.ref a0), .int 0, .int 7, (.ref a0), (.ref b135), (.ref b135)])) rfl (by rw [hml]; rfl) (argsL := [(.ref a0), (.int (5 : Int32)), (.int (2 : Int32))]) (rest := [(.int (0 : Int32)), (.int (7 : Int32)), (.ref a0), (.ref b135), (.ref b135)]) (lenOf pd_5 rfl) rfl (by show 2 * 0 + _ ≤ _; exact Nat.le_of_eq rfl) (hb hby d1_86) (fun _ _ => ⟨rfl, e135, (by decide : 1 + 0 ≤ _), (by decide : 4 + 0 ≤ _)⟩)
            dsimp only [Pt.U, Pt.locs, Pt.cells, Pt.slots] at X140 l140 y140 z140 st140 hQ140
            subst l140 y140 z140
            obtain ⟨rfl, N140q, e140⟩ := hQ140
            have N140 := Fr.app N0 N140q
            obtain ⟨_, _, ⟨T141, L141, k141, n141⟩, -, X141, ⟨Lc141, hQ141, l141, y141, z141⟩, st141⟩ := X140.specialBack hx (y := (⟨"com/example/chipmantle/chipmantle/CommandApdu", "<init>", "([BIII)V"⟩ : MethodName)) rfl hown (mvT hZ (hw _ (List.mem_of_getElem? (i := 8) rfl))) (mvT hZ (hw _ (List.mem_of_getElem? (i := 9) rfl))) (mvT hZ (hw _ (List.mem_of_getElem? (i := 10) rfl))) (by decide) (backOf (W := 1) (rm2 l Z ag hw [] b135 a0 (7 : Int32) (0 : Int32) (own_ne2 len vs (5 : Int32))  h135 n0 sz138 A135 ge_b135 F135_bytes F135_offsetCdata F135_nc F135_ne) hZ (hw _ (List.mem_of_getElem? (i := 10) rfl)) (hw _ (List.mem_of_getElem? (i := 4) rfl)) (by decide) (by decide)) (g := (mkF m 89 (own_loc7 a0 len vs) [(.int (own_ne2 len vs (5 : Int32))), .int 0, .int 7, (.ref a0), (.ref b135), (.ref b135)])) rfl (by rw [hml]; rfl) (Steps.refl _) (a := b135) (argsL := [(.ref a0), (.int (7 : Int32)), (.int (0 : Int32)), (.int (own_ne2 len vs (5 : Int32)))]) (rest := [(.ref b135)]) (lenOf pd_7 rfl) rfl (by show 2 * 0 + _ ≤ _; exact Nat.le_of_eq rfl) (hb hby d1_89) (fun _ _ => ⟨rfl, e140, (by decide : 1 + 0 ≤ _), (by decide : 4 + 0 ≤ _)⟩)
            dsimp only [Pt.U, Pt.locs, Pt.cells, Pt.slots] at X141 l141 y141 z141 st141 hQ141
            subst l141 y141 z141
            obtain ⟨rfl, N141q, K141, F1141, F2141, F3141, F4141⟩ := hQ141
            have N141 := Fr.app N140 N141q
            have x142 := x137.keep K141 (ninS ne136 nin0)
            have x143 := A135.keep K141
            have sz144 : n0 ≤ T141.heap.size := Nat.le_trans sz138 K141.1
            have kp145 : Keep h0 T141.heap [] := kp139.trans K141 (allS (Or.inr gs_b135) all0)
            obtain ⟨fs, hr, hrun, hended, hW, hsame⟩ := X141.leave (v := some (.ref b135)) (fun h => by rw [Bd.returns] at h; cases h)
            refine ⟨_, _, pre0 _ ?_, hrun, hended, _, _, rfl, ?_, ⟨_, rfl⟩, hW, hsame.mono (by decide) (by decide)⟩
            · show own_S p e below s₁ (mkF m 0 #[.val (.ref a0), .unset, .unset, .unset] []) _
              refine cp134 _ ?_
              show own_S p e below s₁ (mkF m 72 (own_loc7 a0 len vs) [.int 3, (.int (len - (4 : Int32)))]) _
              refine XS.icmpNo X0.here hx rfl (hb hby d1_72) rfl (teq hc133).2 ?_
              show own_S p e below s₁ (mkF m 75 (own_loc7 a0 len vs) []) _
              refine st135 _ ?_
              show own_S p e below T135 (mkF m 78 (own_loc7 a0 len vs) [(.ref b135)]) _
              refine XS.dup X135.here hx rfl (hb hby d1_78) rfl rfl ?_
              show own_S p e below T135 (mkF m 79 (own_loc7 a0 len vs) [(.ref b135), (.ref b135)]) _
              refine XS.aloadN X135.here hx rfl (hb hby d1_79) rfl rfl ?_
              show own_S p e below T135 (mkF m 80 (own_loc7 a0 len vs) [(.ref a0), (.ref b135), (.ref b135)]) _
              refine XS.bipush X135.here hx rfl (hb hby d1_80) ?_
              show own_S p e below T135 (mkF m 82 (own_loc7 a0 len vs) [.int 7, (.ref a0), (.ref b135), (.ref b135)]) _
              refine XS.iconst X135.here hx rfl (hb hby d1_82) ?_
              show own_S p e below T135 (mkF m 83 (own_loc7 a0 len vs) [.int 0, .int 7, (.ref a0), (.ref b135), (.ref b135)]) _
              refine XS.aloadN X135.here hx rfl (hb hby d1_83) rfl rfl ?_
              show own_S p e below T135 (mkF m 84 (own_loc7 a0 len vs) [(.ref a0), .int 0, .int 7, (.ref a0), (.ref b135), (.ref b135)]) _
              refine XS.iconst X135.here hx rfl (hb hby d1_84) ?_
              show own_S p e below T135 (mkF m 85 (own_loc7 a0 len vs) [.int 5, (.ref a0), .int 0, .int 7, (.ref a0), (.ref b135), (.ref b135)]) _
              refine XS.iconst X135.here hx rfl (hb hby d1_85) ?_
              show own_S p e below T135 (mkF m 86 (own_loc7 a0 len vs) [.int 2, .int 5, (.ref a0), .int 0, .int 7, (.ref a0), (.ref b135), (.ref b135)]) _
              refine st140 _ ?_
              show own_S p e below T140 (mkF m 89 (own_loc7 a0 len vs) [(.int (own_ne2 len vs (5 : Int32))), .int 0, .int 7, (.ref a0), (.ref b135), (.ref b135)]) _
              refine st141.trans ?_
              show own_S p e below T141 (mkF m 92 (own_loc7 a0 len vs) [(.ref b135)]) _
              exact Jvm.RoadKit.retOut X141 hx Bd.returns rfl (Or.inr (Or.inr (Or.inr (Or.inr ⟨rfl, rfl, rfl⟩)))) (hb hby d1_92) hr
            · show Q1 Z a0 k len vs h0 n0 _ T141.heap _
              have Fz1 := own_cast (P := fun z => Fld Z T141.heap b135 "com/example/chipmantle/chipmantle/CommandApdu" "offsetCdata" "I" (.int z)) (show _ = own_po len vs from by unfold own_po; rw [if_neg hc103, if_neg hc115, if_pos hc129, if_neg hc131, if_pos hc133]) F2141
              have Fz2 := own_cast (P := fun z => Fld Z T141.heap b135 "com/example/chipmantle/chipmantle/CommandApdu" "nc" "I" (.int z)) (show _ = own_pn len vs from by unfold own_pn; rw [if_neg hc103, if_neg hc115, if_pos hc129, if_neg hc131, if_pos hc133]) F3141
              have Fz3 := own_cast (P := fun z => Fld Z T141.heap b135 "com/example/chipmantle/chipmantle/CommandApdu" "ne" "I" (.int z)) (show _ = own_pe len vs from by unfold own_pe; rw [if_neg hc103, if_neg hc115, if_pos hc129, if_neg hc131, if_pos hc133]) F4141
              exact Or.inr ⟨b135, rfl, N141, kp145, gs_b135, (by unfold own_pv; rw [if_neg hc103, if_neg hc115, if_pos hc129, if_neg hc131, if_pos hc133]), x143, F1141, Fz1, Fz2, Fz3⟩
          · obtain ⟨_, _, ⟨T146, L146, k146, n146⟩, -, X146, ⟨Lc146, hQ146, l146, y146, z146⟩, st146⟩ := Jvm.LawKit.callS X0 hx (y := (⟨"com/example/chipmantle/chipmantle/CommandApdu", "field", "([BII)I"⟩ : MethodName)) hown (mvT hZ (hw _ (List.mem_of_getElem? (i := 47) rfl))) (mvT hZ (hw _ (List.mem_of_getElem? (i := 48) rfl))) (mvT hZ (hw _ (List.mem_of_getElem? (i := 4) rfl))) (mvT hZ (hw _ (List.mem_of_getElem? (i := 49) rfl))) (by decide) (backOf (W := 0) (rm9_2 l Z ag hw [] a0 (5 : Int32) k len vs h0 n0 Z0 V_a0 hl4 hlm (by decide) (own_a2 len hl4 hlm hc103 hc115 hc131 hc133)) hZ (hw _ (List.mem_of_getElem? (i := 49) rfl)) (hw _ (List.mem_of_getElem? (i := 4) rfl)) (by decide) (by decide)) (g := (mkF m 96 (own_loc7 a0 len vs) [.int 2, .int 5, (.ref a0)])) rfl (by rw [hml]; rfl) (argsL := [(.ref a0), (.int (5 : Int32)), (.int (2 : Int32))]) (rest := []) (lenOf pd_5 rfl) rfl (by show 2 * 0 + _ ≤ _; exact Nat.le_of_eq rfl) (hb hby d1_96) (fun _ _ => ⟨rfl, e0, (by decide : 0 + 0 ≤ _), (by decide : 0 + 0 ≤ _)⟩)
            dsimp only [Pt.U, Pt.locs, Pt.cells, Pt.slots] at X146 l146 y146 z146 st146 hQ146
            subst l146 y146 z146
            obtain ⟨rfl, N146q, e146⟩ := hQ146
            have N146 := Fr.app N0 N146q
            have cp148 : ∀ target, own_S p e below T146 (mkF m 101 (own_loc8 a0 len vs) [(.int (own_field2 len vs (5 : Int32)))]) target → own_S p e below s₁ (mkF m 0 #[.val (.ref a0), .unset, .unset, .unset] []) target := by
              intro target kt
              show own_S p e below s₁ (mkF m 0 #[.val (.ref a0), .unset, .unset, .unset] []) _
              refine cp134 _ ?_
              show own_S p e below s₁ (mkF m 72 (own_loc7 a0 len vs) [.int 3, (.int (len - (4 : Int32)))]) _
              refine XS.icmpYes X0.here hx rfl (pc0 := 72) (pc' := 93) rfl (hb hby d1_72) rfl (feq hc133).2 (by decide) (by decide) ?_
              show own_S p e below s₁ (mkF m 93 (own_loc7 a0 len vs) []) _
              refine XS.aloadN X0.here hx rfl (hb hby d1_93) rfl rfl ?_
              show own_S p e below s₁ (mkF m 94 (own_loc7 a0 len vs) [(.ref a0)]) _
              refine XS.iconst X0.here hx rfl (hb hby d1_94) ?_
              show own_S p e below s₁ (mkF m 95 (own_loc7 a0 len vs) [.int 5, (.ref a0)]) _
              refine XS.iconst X0.here hx rfl (hb hby d1_95) ?_
              show own_S p e below s₁ (mkF m 96 (own_loc7 a0 len vs) [.int 2, .int 5, (.ref a0)]) _
              refine st146 _ ?_
              show own_S p e below T146 (mkF m 99 (own_loc7 a0 len vs) [(.int (own_field2 len vs (5 : Int32)))]) _
              refine XS.istoreN X146.here hx rfl (hb hby d1_99) rfl (l' := (own_loc8 a0 len vs)) rfl ?_
              show own_S p e below T146 (mkF m 100 (own_loc8 a0 len vs) []) _
              refine XS.iloadN X146.here hx rfl (hb hby d1_100) rfl ?_
              exact kt
            by_cases hc147 : (own_field2 len vs (5 : Int32)) = (0 : Int32)
            · obtain ⟨fs, hr, hrun, hended, hW, hsame⟩ := X146.leave (v := some .null) (fun h => by rw [Bd.returns] at h; cases h)
              refine ⟨_, _, pre0 _ ?_, hrun, hended, _, _, rfl, ?_, ⟨_, rfl⟩, hW, hsame.mono (by decide) (by decide)⟩
              · show own_S p e below s₁ (mkF m 0 #[.val (.ref a0), .unset, .unset, .unset] []) _
                refine cp148 _ ?_
                show own_S p e below T146 (mkF m 101 (own_loc8 a0 len vs) [(.int (own_field2 len vs (5 : Int32)))]) _
                refine XS.ifNo X146.here hx rfl (hb hby d1_101) rfl ((if0 _ _).trans (teq hc147).2) ?_
                show own_S p e below T146 (mkF m 104 (own_loc8 a0 len vs) []) _
                refine XS.aconstNull X146.here hx rfl (hb hby d1_104) ?_
                show own_S p e below T146 (mkF m 105 (own_loc8 a0 len vs) [.null]) _
                refine XS.goto X146.here hx rfl (pc0 := 105) (pc' := 116) rfl (hb hby d1_105) (by decide) (by decide) ?_
                show own_S p e below T146 (mkF m 116 (own_loc8 a0 len vs) [.null]) _
                exact Jvm.RoadKit.retOut X146 hx Bd.returns rfl (Or.inr (Or.inr (Or.inr (Or.inr ⟨rfl, rfl, rfl⟩)))) (hb hby d1_116) hr
              · show Q1 Z a0 k len vs h0 n0 _ T146.heap _
                rw [e146]
                exact Or.inl ⟨rfl, N146, (Keep.refl h0 []), (by unfold own_pv; rw [if_neg hc103, if_neg hc115, if_pos hc129, if_neg hc131, if_neg hc133, if_pos hc147])⟩
            · obtain ⟨_, _, ⟨T149, L149, k149, n149⟩, -, X149, ⟨Lc149, hQ149, l149, y149, z149⟩, st149⟩ := Jvm.LawKit.callS X146 hx (y := (⟨"com/example/chipmantle/chipmantle/CommandApdu", "withData", "([BIII)Lcom/example/chipmantle/chipmantle/CommandApdu;"⟩ : MethodName)) hown (mvT hZ (hw _ (List.mem_of_getElem? (i := 50) rfl))) (mvT hZ (hw _ (List.mem_of_getElem? (i := 51) rfl))) (mvT hZ (hw _ (List.mem_of_getElem? (i := 4) rfl))) (mvT hZ (hw _ (List.mem_of_getElem? (i := 52) rfl))) (by decide) (backOf (W := 0) (rm10_2 l Z ag hw [] a0 (7 : Int32) (own_field2 len vs (5 : Int32)) k len vs h0 n0 Z0 V_a0 hl4 hlm (own_b7 len hl4 hlm hc103 hc115 hc131 hc133) ge_a0) hZ (hw _ (List.mem_of_getElem? (i := 52) rfl)) (hw _ (List.mem_of_getElem? (i := 4) rfl)) (by decide) (by decide)) (g := (mkF m 113 (own_loc8 a0 len vs) [.int 2, (.int (own_field2 len vs (5 : Int32))), .int 7, (.ref a0)])) rfl (by rw [hml]; rfl) (argsL := [(.ref a0), (.int (7 : Int32)), (.int (own_field2 len vs (5 : Int32))), (.int (2 : Int32))]) (rest := []) (lenOf pd_6 rfl) rfl (by show 2 * 0 + _ ≤ _; exact Nat.le_of_eq rfl) (hb hby d1_113) (fun _ _ => ⟨rfl, e146, (by decide : 0 + 1 ≤ _), (by decide : 0 + 4 ≤ _)⟩)
              dsimp only [Pt.U, Pt.locs, Pt.cells, Pt.slots] at X149 l149 y149 z149 st149 hQ149
              subst l149 y149 z149
              rcases hQ149 with q149 | q149
              · obtain ⟨rfl, N149q, K149, hpv149⟩ := q149
                have N149 := Fr.app N146 N149q
                have x150 := V_a0.keep K149 nin0
                have sz151 : n0 ≤ T149.heap.size := Nat.le_trans Z0 K149.1
                have kp152 : Keep h0 T149.heap [] := (Keep.refl h0 []).trans K149 all0
                obtain ⟨fs, hr, hrun, hended, hW, hsame⟩ := X149.leave (v := some .null) (fun h => by rw [Bd.returns] at h; cases h)
                refine ⟨_, _, pre0 _ ?_, hrun, hended, _, _, rfl, ?_, ⟨_, rfl⟩, hW, hsame.mono (by decide) (by decide)⟩
                · show own_S p e below s₁ (mkF m 0 #[.val (.ref a0), .unset, .unset, .unset] []) _
                  refine cp148 _ ?_
                  show own_S p e below T146 (mkF m 101 (own_loc8 a0 len vs) [(.int (own_field2 len vs (5 : Int32)))]) _
                  refine XS.ifYes X146.here hx rfl (pc0 := 101) (pc' := 108) rfl (hb hby d1_101) rfl ((if0 _ _).trans (feq hc147).2) (by decide) (by decide) ?_
                  show own_S p e below T146 (mkF m 108 (own_loc8 a0 len vs) []) _
                  refine XS.aloadN X146.here hx rfl (hb hby d1_108) rfl rfl ?_
                  show own_S p e below T146 (mkF m 109 (own_loc8 a0 len vs) [(.ref a0)]) _
                  refine XS.bipush X146.here hx rfl (hb hby d1_109) ?_
                  show own_S p e below T146 (mkF m 111 (own_loc8 a0 len vs) [.int 7, (.ref a0)]) _
                  refine XS.iloadN X146.here hx rfl (hb hby d1_111) rfl ?_
                  show own_S p e below T146 (mkF m 112 (own_loc8 a0 len vs) [(.int (own_field2 len vs (5 : Int32))), .int 7, (.ref a0)]) _
                  refine XS.iconst X146.here hx rfl (hb hby d1_112) ?_
                  show own_S p e below T146 (mkF m 113 (own_loc8 a0 len vs) [.int 2, (.int (own_field2 len vs (5 : Int32))), .int 7, (.ref a0)]) _
                  refine st149 _ ?_
                  show own_S p e below T149 (mkF m 116 (own_loc8 a0 len vs) [.null]) _
                  exact Jvm.RoadKit.retOut X149 hx Bd.returns rfl (Or.inr (Or.inr (Or.inr (Or.inr ⟨rfl, rfl, rfl⟩)))) (hb hby d1_116) hr
                · show Q1 Z a0 k len vs h0 n0 _ T149.heap _
                  exact Or.inl ⟨rfl, N149, kp152, (by unfold own_pv; rw [if_neg hc103, if_neg hc115, if_pos hc129, if_neg hc131, if_neg hc133, if_neg hc147]; exact hpv149)⟩
              · obtain ⟨r149, rfl, N149q, K149, gsq149, hpv149, Ex149, F1149, F2149, F3149, F4149⟩ := q149
                have N149 := Fr.app N146 N149q
                have gs_r149 : h0.size ≤ r149 := Nat.le_trans (Keep.refl h0 []).1 gsq149
                have x153 := V_a0.keep K149 nin0
                have sz154 : n0 ≤ T149.heap.size := Nat.le_trans Z0 K149.1
                have kp155 : Keep h0 T149.heap [] := (Keep.refl h0 []).trans K149 all0
                obtain ⟨fs, hr, hrun, hended, hW, hsame⟩ := X149.leave (v := some (.ref r149)) (fun h => by rw [Bd.returns] at h; cases h)
                refine ⟨_, _, pre0 _ ?_, hrun, hended, _, _, rfl, ?_, ⟨_, rfl⟩, hW, hsame.mono (by decide) (by decide)⟩
                · show own_S p e below s₁ (mkF m 0 #[.val (.ref a0), .unset, .unset, .unset] []) _
                  refine cp148 _ ?_
                  show own_S p e below T146 (mkF m 101 (own_loc8 a0 len vs) [(.int (own_field2 len vs (5 : Int32)))]) _
                  refine XS.ifYes X146.here hx rfl (pc0 := 101) (pc' := 108) rfl (hb hby d1_101) rfl ((if0 _ _).trans (feq hc147).2) (by decide) (by decide) ?_
                  show own_S p e below T146 (mkF m 108 (own_loc8 a0 len vs) []) _
                  refine XS.aloadN X146.here hx rfl (hb hby d1_108) rfl rfl ?_
                  show own_S p e below T146 (mkF m 109 (own_loc8 a0 len vs) [(.ref a0)]) _
                  refine XS.bipush X146.here hx rfl (hb hby d1_109) ?_
                  show own_S p e below T146 (mkF m 111 (own_loc8 a0 len vs) [.int 7, (.ref a0)]) _
                  refine XS.iloadN X146.here hx rfl (hb hby d1_111) rfl ?_
                  show own_S p e below T146 (mkF m 112 (own_loc8 a0 len vs) [(.int (own_field2 len vs (5 : Int32))), .int 7, (.ref a0)]) _
                  refine XS.iconst X146.here hx rfl (hb hby d1_112) ?_
                  show own_S p e below T146 (mkF m 113 (own_loc8 a0 len vs) [.int 2, (.int (own_field2 len vs (5 : Int32))), .int 7, (.ref a0)]) _
                  refine st149 _ ?_
                  show own_S p e below T149 (mkF m 116 (own_loc8 a0 len vs) [(.ref r149)]) _
                  exact Jvm.RoadKit.retOut X149 hx Bd.returns rfl (Or.inr (Or.inr (Or.inr (Or.inr ⟨rfl, rfl, rfl⟩)))) (hb hby d1_116) hr
                · show Q1 Z a0 k len vs h0 n0 _ T149.heap _
                  have Fz1 := own_cast (P := fun z => Fld Z T149.heap r149 "com/example/chipmantle/chipmantle/CommandApdu" "offsetCdata" "I" (.int z)) (show _ = own_po len vs from by unfold own_po; rw [if_neg hc103, if_neg hc115, if_pos hc129, if_neg hc131, if_neg hc133, if_neg hc147]) F2149
                  have Fz2 := own_cast (P := fun z => Fld Z T149.heap r149 "com/example/chipmantle/chipmantle/CommandApdu" "nc" "I" (.int z)) (show _ = own_pn len vs from by unfold own_pn; rw [if_neg hc103, if_neg hc115, if_pos hc129, if_neg hc131, if_neg hc133, if_neg hc147]) F3149
                  have Fz3 := own_cast (P := fun z => Fld Z T149.heap r149 "com/example/chipmantle/chipmantle/CommandApdu" "ne" "I" (.int z)) (show _ = own_pe len vs from by unfold own_pe; rw [if_neg hc103, if_neg hc115, if_pos hc129, if_neg hc131, if_neg hc133, if_neg hc147]) F4149
                  exact Or.inr ⟨r149, rfl, N149, kp155, gs_r149, (by unfold own_pv; rw [if_neg hc103, if_neg hc115, if_pos hc129, if_neg hc131, if_neg hc133, if_neg hc147]; exact hpv149), Ex149, F1149, Fz1, Fz2, Fz3⟩
      · obtain ⟨_, _, ⟨T156, L156, k156, n156⟩, -, X156, ⟨Lc156, hQ156, l156, y156, z156⟩, st156⟩ := Jvm.LawKit.callS X0 hx (y := (⟨"com/example/chipmantle/chipmantle/CommandApdu", "withData", "([BIII)Lcom/example/chipmantle/chipmantle/CommandApdu;"⟩ : MethodName)) hown (mvT hZ (hw _ (List.mem_of_getElem? (i := 50) rfl))) (mvT hZ (hw _ (List.mem_of_getElem? (i := 51) rfl))) (mvT hZ (hw _ (List.mem_of_getElem? (i := 4) rfl))) (mvT hZ (hw _ (List.mem_of_getElem? (i := 52) rfl))) (by decide) (backOf (W := 0) (rm10_1 l Z ag hw [] a0 (5 : Int32) ((own_el vs (4 : Int32)) &&& (255 : Int32)) k len vs h0 n0 Z0 V_a0 hl4 hlm (own_b5 len hl4 hlm hc103 hc115) ge_a0) hZ (hw _ (List.mem_of_getElem? (i := 52) rfl)) (hw _ (List.mem_of_getElem? (i := 4) rfl)) (by decide) (by decide)) (g := (mkF m 59 (own_loc7 a0 len vs) [.int 1, (.int ((own_el vs (4 : Int32)) &&& (255 : Int32))), .int 5, (.ref a0)])) rfl (by rw [hml]; rfl) (argsL := [(.ref a0), (.int (5 : Int32)), (.int ((own_el vs (4 : Int32)) &&& (255 : Int32))), (.int (1 : Int32))]) (rest := []) (lenOf pd_6 rfl) rfl (by show 2 * 0 + _ ≤ _; exact Nat.le_of_eq rfl) (hb hby d1_59) (fun _ _ => ⟨rfl, e0, (by decide : 0 + 1 ≤ _), (by decide : 0 + 4 ≤ _)⟩)
        dsimp only [Pt.U, Pt.locs, Pt.cells, Pt.slots] at X156 l156 y156 z156 st156 hQ156
        subst l156 y156 z156
        rcases hQ156 with q156 | q156
        · obtain ⟨rfl, N156q, K156, hpv156⟩ := q156
          have N156 := Fr.app N0 N156q
          have x157 := V_a0.keep K156 nin0
          have sz158 : n0 ≤ T156.heap.size := Nat.le_trans Z0 K156.1
          have kp159 : Keep h0 T156.heap [] := (Keep.refl h0 []).trans K156 all0
          obtain ⟨fs, hr, hrun, hended, hW, hsame⟩ := X156.leave (v := some .null) (fun h => by rw [Bd.returns] at h; cases h)
          refine ⟨_, _, pre0 _ ?_, hrun, hended, _, _, rfl, ?_, ⟨_, rfl⟩, hW, hsame.mono (by decide) (by decide)⟩
          · show own_S p e below s₁ (mkF m 0 #[.val (.ref a0), .unset, .unset, .unset] []) _
            refine cp130 _ ?_
            show own_S p e below s₁ (mkF m 52 (own_loc7 a0 len vs) [(.int ((own_el vs (4 : Int32)) &&& (255 : Int32)))]) _
            refine XS.ifNo X0.here hx rfl (hb hby d1_52) rfl ((if0 _ _).trans (feq hc129).1) ?_
            show own_S p e below s₁ (mkF m 55 (own_loc7 a0 len vs) []) _
            refine XS.aloadN X0.here hx rfl (hb hby d1_55) rfl rfl ?_
            show own_S p e below s₁ (mkF m 56 (own_loc7 a0 len vs) [(.ref a0)]) _
            refine XS.iconst X0.here hx rfl (hb hby d1_56) ?_
            show own_S p e below s₁ (mkF m 57 (own_loc7 a0 len vs) [.int 5, (.ref a0)]) _
            refine XS.iloadN X0.here hx rfl (hb hby d1_57) rfl ?_
            show own_S p e below s₁ (mkF m 58 (own_loc7 a0 len vs) [(.int ((own_el vs (4 : Int32)) &&& (255 : Int32))), .int 5, (.ref a0)]) _
            refine XS.iconst X0.here hx rfl (hb hby d1_58) ?_
            show own_S p e below s₁ (mkF m 59 (own_loc7 a0 len vs) [.int 1, (.int ((own_el vs (4 : Int32)) &&& (255 : Int32))), .int 5, (.ref a0)]) _
            refine st156 _ ?_
            show own_S p e below T156 (mkF m 62 (own_loc7 a0 len vs) [.null]) _
            exact Jvm.RoadKit.retOut X156 hx Bd.returns rfl (Or.inr (Or.inr (Or.inr (Or.inr ⟨rfl, rfl, rfl⟩)))) (hb hby d1_62) hr
          · show Q1 Z a0 k len vs h0 n0 _ T156.heap _
            exact Or.inl ⟨rfl, N156, kp159, (by unfold own_pv; rw [if_neg hc103, if_neg hc115, if_neg hc129]; exact hpv156)⟩
        · obtain ⟨r156, rfl, N156q, K156, gsq156, hpv156, Ex156, F1156, F2156, F3156, F4156⟩ := q156
          have N156 := Fr.app N0 N156q
          have gs_r156 : h0.size ≤ r156 := Nat.le_trans (Keep.refl h0 []).1 gsq156
          have x160 := V_a0.keep K156 nin0
          have sz161 : n0 ≤ T156.heap.size := Nat.le_trans Z0 K156.1
          have kp162 : Keep h0 T156.heap [] := (Keep.refl h0 []).trans K156 all0
          obtain ⟨fs, hr, hrun, hended, hW, hsame⟩ := X156.leave (v := some (.ref r156)) (fun h => by rw [Bd.returns] at h; cases h)
          refine ⟨_, _, pre0 _ ?_, hrun, hended, _, _, rfl, ?_, ⟨_, rfl⟩, hW, hsame.mono (by decide) (by decide)⟩
          · show own_S p e below s₁ (mkF m 0 #[.val (.ref a0), .unset, .unset, .unset] []) _
            refine cp130 _ ?_
            show own_S p e below s₁ (mkF m 52 (own_loc7 a0 len vs) [(.int ((own_el vs (4 : Int32)) &&& (255 : Int32)))]) _
            refine XS.ifNo X0.here hx rfl (hb hby d1_52) rfl ((if0 _ _).trans (feq hc129).1) ?_
            show own_S p e below s₁ (mkF m 55 (own_loc7 a0 len vs) []) _
            refine XS.aloadN X0.here hx rfl (hb hby d1_55) rfl rfl ?_
            show own_S p e below s₁ (mkF m 56 (own_loc7 a0 len vs) [(.ref a0)]) _
            refine XS.iconst X0.here hx rfl (hb hby d1_56) ?_
            show own_S p e below s₁ (mkF m 57 (own_loc7 a0 len vs) [.int 5, (.ref a0)]) _
            refine XS.iloadN X0.here hx rfl (hb hby d1_57) rfl ?_
            show own_S p e below s₁ (mkF m 58 (own_loc7 a0 len vs) [(.int ((own_el vs (4 : Int32)) &&& (255 : Int32))), .int 5, (.ref a0)]) _
            refine XS.iconst X0.here hx rfl (hb hby d1_58) ?_
            show own_S p e below s₁ (mkF m 59 (own_loc7 a0 len vs) [.int 1, (.int ((own_el vs (4 : Int32)) &&& (255 : Int32))), .int 5, (.ref a0)]) _
            refine st156 _ ?_
            show own_S p e below T156 (mkF m 62 (own_loc7 a0 len vs) [(.ref r156)]) _
            exact Jvm.RoadKit.retOut X156 hx Bd.returns rfl (Or.inr (Or.inr (Or.inr (Or.inr ⟨rfl, rfl, rfl⟩)))) (hb hby d1_62) hr
          · show Q1 Z a0 k len vs h0 n0 _ T156.heap _
            have Fz1 := own_cast (P := fun z => Fld Z T156.heap r156 "com/example/chipmantle/chipmantle/CommandApdu" "offsetCdata" "I" (.int z)) (show _ = own_po len vs from by unfold own_po; rw [if_neg hc103, if_neg hc115, if_neg hc129]) F2156
            have Fz2 := own_cast (P := fun z => Fld Z T156.heap r156 "com/example/chipmantle/chipmantle/CommandApdu" "nc" "I" (.int z)) (show _ = own_pn len vs from by unfold own_pn; rw [if_neg hc103, if_neg hc115, if_neg hc129]) F3156
            have Fz3 := own_cast (P := fun z => Fld Z T156.heap r156 "com/example/chipmantle/chipmantle/CommandApdu" "ne" "I" (.int z)) (show _ = own_pe len vs from by unfold own_pe; rw [if_neg hc103, if_neg hc115, if_neg hc129]) F4156
            exact Or.inr ⟨r156, rfl, N156, kp162, gs_r156, (by unfold own_pv; rw [if_neg hc103, if_neg hc115, if_neg hc129]; exact hpv156), Ex156, F1156, Fz1, Fz2, Fz3⟩
theorem pn_1 : plainName "com/example/chipmantle/chipmantle/CommandApduParsePinLaw" = true := by first | (simp [plainName, overriddenIn]; done) | decide +kernel
theorem ef_0 (m : MethodId) (p0 : Int32) (p1 : Int32) (p2 : Int32) (p3 : Int32) (p4 : Int32) : entryFrame m #[(.int p0), (.int p1), (.int p2), (.int p3), (.int p4)] maxLocals = mkF m 0 #[.val (.int p0), .val (.int p1), .val (.int p2), .val (.int p3), .val (.int p4), .unset, .unset, .unset, .unset, .unset, .unset, .unset, .unset, .unset, .unset, .unset, .unset, .unset, .unset, .unset, .unset] [] := by first | (simp [entryFrame, mkF, argsToLocals, Value.category, maxLocals]; done) | rfl
abbrev own_loc9 (p0 : Int32) (p1 : Int32) (p2 : Int32) (p3 : Int32) (p4 : Int32) : Array Slot := #[.val (.int p0), .val (.int p1), .val (.int p2), .val (.int p3), .val (.int p4), .unset, .unset, .unset, .unset, .unset, .unset, .unset, .unset, .unset, .unset, .unset, .unset, .unset, .unset, .unset, .unset]
abbrev own_loc10 (p0 : Int32) (p1 : Int32) (p2 : Int32) (p3 : Int32) (p4 : Int32) : Array Slot := #[.val (.int p0), .val (.int p1), .val (.int p2), .val (.int p3), .val (.int p4), .val (.int (p0 &&& (3 : Int32))), .unset, .unset, .unset, .unset, .unset, .unset, .unset, .unset, .unset, .unset, .unset, .unset, .unset, .unset, .unset]
abbrev own_loc11 (p0 : Int32) (p1 : Int32) (p2 : Int32) (p3 : Int32) (p4 : Int32) : Array Slot := #[.val (.int p0), .val (.int p1), .val (.int p2), .val (.int p3), .val (.int p4), .val (.int (p0 &&& (3 : Int32))), .val (.int ((own_ushr p0 (2 : Int32)) &&& (3 : Int32))), .unset, .unset, .unset, .unset, .unset, .unset, .unset, .unset, .unset, .unset, .unset, .unset, .unset, .unset]
abbrev own_loc12 (p0 : Int32) (p1 : Int32) (p2 : Int32) (p3 : Int32) (p4 : Int32) : Array Slot := #[.val (.int p0), .val (.int p1), .val (.int p2), .val (.int p3), .val (.int p4), .val (.int (p0 &&& (3 : Int32))), .val (.int ((own_ushr p0 (2 : Int32)) &&& (3 : Int32))), .val (.int (p2 &&& (255 : Int32))), .unset, .unset, .unset, .unset, .unset, .unset, .unset, .unset, .unset, .unset, .unset, .unset, .unset]
abbrev own_loc13 (p0 : Int32) (p1 : Int32) (p2 : Int32) (p3 : Int32) (p4 : Int32) : Array Slot := #[.val (.int p0), .val (.int p1), .val (.int p2), .val (.int p3), .val (.int p4), .val (.int (p0 &&& (3 : Int32))), .val (.int ((own_ushr p0 (2 : Int32)) &&& (3 : Int32))), .val (.int (p2 &&& (255 : Int32))), .val (.int (p2 &&& (65535 : Int32))), .unset, .unset, .unset, .unset, .unset, .unset, .unset, .unset, .unset, .unset, .unset, .unset]
def own_body (p0 : Int32) (p2 : Int32) : Int32 := (if (p0 &&& (3 : Int32)) = (0 : Int32) then ((own_ushr p0 (2 : Int32)) &&& (7 : Int32)) else (if (p0 &&& (3 : Int32)) = (1 : Int32) then (((1 : Int32) + (p2 &&& (255 : Int32))) + ((own_ushr p0 (2 : Int32)) &&& (3 : Int32))) else (((3 : Int32) + (p2 &&& (65535 : Int32))) + ((own_ushr p0 (2 : Int32)) &&& (3 : Int32)))))
abbrev own_loc14 (p0 : Int32) (p1 : Int32) (p2 : Int32) (p3 : Int32) (p4 : Int32) : Array Slot := #[.val (.int p0), .val (.int p1), .val (.int p2), .val (.int p3), .val (.int p4), .val (.int (p0 &&& (3 : Int32))), .val (.int ((own_ushr p0 (2 : Int32)) &&& (3 : Int32))), .val (.int (p2 &&& (255 : Int32))), .val (.int (p2 &&& (65535 : Int32))), .val (.int (own_body p0 p2)), .unset, .unset, .unset, .unset, .unset, .unset, .unset, .unset, .unset, .unset, .unset]
abbrev own_loc15 (p0 : Int32) (p1 : Int32) (p2 : Int32) (p3 : Int32) (p4 : Int32) : Array Slot := #[.val (.int p0), .val (.int p1), .val (.int p2), .val (.int p3), .val (.int p4), .val (.int (p0 &&& (3 : Int32))), .val (.int ((own_ushr p0 (2 : Int32)) &&& (3 : Int32))), .val (.int (p2 &&& (255 : Int32))), .val (.int (p2 &&& (65535 : Int32))), .val (.int (own_body p0 p2)), .val (.int ((4 : Int32) + (own_body p0 p2))), .unset, .unset, .unset, .unset, .unset, .unset, .unset, .unset, .unset, .unset]
abbrev own_loc16 (p0 : Int32) (p1 : Int32) (p2 : Int32) (p3 : Int32) (p4 : Int32) (len : Int32) : Array Slot := #[.val (.int p0), .val (.int p1), .val (.int p2), .val (.int p3), .val (.int p4), .val (.int (p0 &&& (3 : Int32))), .val (.int ((own_ushr p0 (2 : Int32)) &&& (3 : Int32))), .val (.int (p2 &&& (255 : Int32))), .val (.int (p2 &&& (65535 : Int32))), .val (.int (own_body p0 p2)), .val (.int len), .unset, .unset, .unset, .unset, .unset, .unset, .unset, .unset, .unset, .unset]
abbrev own_loc17 (p0 : Int32) (p1 : Int32) (p2 : Int32) (p3 : Int32) (p4 : Int32) (len : Int32) (b167 : Addr) : Array Slot := #[.val (.int p0), .val (.int p1), .val (.int p2), .val (.int p3), .val (.int p4), .val (.int (p0 &&& (3 : Int32))), .val (.int ((own_ushr p0 (2 : Int32)) &&& (3 : Int32))), .val (.int (p2 &&& (255 : Int32))), .val (.int (p2 &&& (65535 : Int32))), .val (.int (own_body p0 p2)), .val (.int len), .val (.ref b167), .unset, .unset, .unset, .unset, .unset, .unset, .unset, .unset, .unset]
def own_b4 (len : Int32) (vs238 : List Value) : Int32 := (if (4 : Int32) < len then ((own_el vs238 (4 : Int32)) &&& (255 : Int32)) else (0 : Int32))
abbrev own_loc18 (p0 : Int32) (p1 : Int32) (p2 : Int32) (p3 : Int32) (p4 : Int32) (len : Int32) (b167 : Addr) (vs238 : List Value) : Array Slot := #[.val (.int p0), .val (.int p1), .val (.int p2), .val (.int p3), .val (.int p4), .val (.int (p0 &&& (3 : Int32))), .val (.int ((own_ushr p0 (2 : Int32)) &&& (3 : Int32))), .val (.int (p2 &&& (255 : Int32))), .val (.int (p2 &&& (65535 : Int32))), .val (.int (own_body p0 p2)), .val (.int len), .val (.ref b167), .val (.int (own_b4 len vs238)), .unset, .unset, .unset, .unset, .unset, .unset, .unset, .unset]
def own_nn (len : Int32) (vs238 : List Value) : Int32 := (if (6 : Int32) < len then ((((own_el vs238 (5 : Int32)) &&& (255 : Int32)) <<< ((8 : Int32) &&& 31)) ||| ((own_el vs238 (6 : Int32)) &&& (255 : Int32))) else (0 : Int32))
abbrev own_loc19 (p0 : Int32) (p1 : Int32) (p2 : Int32) (p3 : Int32) (p4 : Int32) (len : Int32) (b167 : Addr) (vs238 : List Value) : Array Slot := #[.val (.int p0), .val (.int p1), .val (.int p2), .val (.int p3), .val (.int p4), .val (.int (p0 &&& (3 : Int32))), .val (.int ((own_ushr p0 (2 : Int32)) &&& (3 : Int32))), .val (.int (p2 &&& (255 : Int32))), .val (.int (p2 &&& (65535 : Int32))), .val (.int (own_body p0 p2)), .val (.int len), .val (.ref b167), .val (.int (own_b4 len vs238)), .val (.int (own_nn len vs238)), .unset, .unset, .unset, .unset, .unset, .unset, .unset]
abbrev own_loc20 (p0 : Int32) (p1 : Int32) (p2 : Int32) (p3 : Int32) (p4 : Int32) (len : Int32) (b167 : Addr) (vs238 : List Value) : Array Slot := #[.val (.int p0), .val (.int p1), .val (.int p2), .val (.int p3), .val (.int p4), .val (.int (p0 &&& (3 : Int32))), .val (.int ((own_ushr p0 (2 : Int32)) &&& (3 : Int32))), .val (.int (p2 &&& (255 : Int32))), .val (.int (p2 &&& (65535 : Int32))), .val (.int (own_body p0 p2)), .val (.int len), .val (.ref b167), .val (.int (own_b4 len vs238)), .val (.int (own_nn len vs238)), .val (.int ((own_el vs238 (len - (1 : Int32))) &&& (255 : Int32))), .unset, .unset, .unset, .unset, .unset, .unset]
abbrev own_loc21 (p0 : Int32) (p1 : Int32) (p2 : Int32) (p3 : Int32) (p4 : Int32) (len : Int32) (b167 : Addr) (vs238 : List Value) : Array Slot := #[.val (.int p0), .val (.int p1), .val (.int p2), .val (.int p3), .val (.int p4), .val (.int (p0 &&& (3 : Int32))), .val (.int ((own_ushr p0 (2 : Int32)) &&& (3 : Int32))), .val (.int (p2 &&& (255 : Int32))), .val (.int (p2 &&& (65535 : Int32))), .val (.int (own_body p0 p2)), .val (.int len), .val (.ref b167), .val (.int (own_b4 len vs238)), .val (.int (own_nn len vs238)), .val (.int ((own_el vs238 (len - (1 : Int32))) &&& (255 : Int32))), .val (.int ((((own_el vs238 (len - (2 : Int32))) &&& (255 : Int32)) <<< ((8 : Int32) &&& 31)) ||| ((own_el vs238 (len - (1 : Int32))) &&& (255 : Int32)))), .unset, .unset, .unset, .unset, .unset]
abbrev own_loc22 (p0 : Int32) (p1 : Int32) (p2 : Int32) (p3 : Int32) (p4 : Int32) (len : Int32) (b167 : Addr) (vs238 : List Value) : Array Slot := #[.val (.int p0), .val (.int p1), .val (.int p2), .val (.int p3), .val (.int p4), .val (.int (p0 &&& (3 : Int32))), .val (.int ((own_ushr p0 (2 : Int32)) &&& (3 : Int32))), .val (.int (p2 &&& (255 : Int32))), .val (.int (p2 &&& (65535 : Int32))), .val (.int (own_body p0 p2)), .val (.int len), .val (.ref b167), .val (.int (own_b4 len vs238)), .val (.int (own_nn len vs238)), .val (.int ((own_el vs238 (len - (1 : Int32))) &&& (255 : Int32))), .val (.int ((((own_el vs238 (len - (2 : Int32))) &&& (255 : Int32)) <<< ((8 : Int32) &&& 31)) ||| ((own_el vs238 (len - (1 : Int32))) &&& (255 : Int32)))), .val (.int 0), .unset, .unset, .unset, .unset]
abbrev own_loc23 (p0 : Int32) (p1 : Int32) (p2 : Int32) (p3 : Int32) (p4 : Int32) (len : Int32) (b167 : Addr) (vs238 : List Value) : Array Slot := #[.val (.int p0), .val (.int p1), .val (.int p2), .val (.int p3), .val (.int p4), .val (.int (p0 &&& (3 : Int32))), .val (.int ((own_ushr p0 (2 : Int32)) &&& (3 : Int32))), .val (.int (p2 &&& (255 : Int32))), .val (.int (p2 &&& (65535 : Int32))), .val (.int (own_body p0 p2)), .val (.int len), .val (.ref b167), .val (.int (own_b4 len vs238)), .val (.int (own_nn len vs238)), .val (.int ((own_el vs238 (len - (1 : Int32))) &&& (255 : Int32))), .val (.int ((((own_el vs238 (len - (2 : Int32))) &&& (255 : Int32)) <<< ((8 : Int32) &&& 31)) ||| ((own_el vs238 (len - (1 : Int32))) &&& (255 : Int32)))), .val (.int 0), .val (.int 0), .unset, .unset, .unset]
abbrev own_loc24 (p0 : Int32) (p1 : Int32) (p2 : Int32) (p3 : Int32) (p4 : Int32) (len : Int32) (b167 : Addr) (vs238 : List Value) : Array Slot := #[.val (.int p0), .val (.int p1), .val (.int p2), .val (.int p3), .val (.int p4), .val (.int (p0 &&& (3 : Int32))), .val (.int ((own_ushr p0 (2 : Int32)) &&& (3 : Int32))), .val (.int (p2 &&& (255 : Int32))), .val (.int (p2 &&& (65535 : Int32))), .val (.int (own_body p0 p2)), .val (.int len), .val (.ref b167), .val (.int (own_b4 len vs238)), .val (.int (own_nn len vs238)), .val (.int ((own_el vs238 (len - (1 : Int32))) &&& (255 : Int32))), .val (.int ((((own_el vs238 (len - (2 : Int32))) &&& (255 : Int32)) <<< ((8 : Int32) &&& 31)) ||| ((own_el vs238 (len - (1 : Int32))) &&& (255 : Int32)))), .val (.int 0), .val (.int 0), .val (.int 0), .unset, .unset]
abbrev own_loc25 (p0 : Int32) (p1 : Int32) (p2 : Int32) (p3 : Int32) (p4 : Int32) (len : Int32) (b167 : Addr) (vs238 : List Value) : Array Slot := #[.val (.int p0), .val (.int p1), .val (.int p2), .val (.int p3), .val (.int p4), .val (.int (p0 &&& (3 : Int32))), .val (.int ((own_ushr p0 (2 : Int32)) &&& (3 : Int32))), .val (.int (p2 &&& (255 : Int32))), .val (.int (p2 &&& (65535 : Int32))), .val (.int (own_body p0 p2)), .val (.int len), .val (.ref b167), .val (.int (own_b4 len vs238)), .val (.int (own_nn len vs238)), .val (.int ((own_el vs238 (len - (1 : Int32))) &&& (255 : Int32))), .val (.int ((((own_el vs238 (len - (2 : Int32))) &&& (255 : Int32)) <<< ((8 : Int32) &&& 31)) ||| ((own_el vs238 (len - (1 : Int32))) &&& (255 : Int32)))), .val (.int 0), .val (.int 0), .val (.int 0), .val (.int 0), .unset]
abbrev own_loc26 (p0 : Int32) (p1 : Int32) (p2 : Int32) (p3 : Int32) (p4 : Int32) (len : Int32) (b167 : Addr) (b4 : Int32) (vs238 : List Value) : Array Slot := #[.val (.int p0), .val (.int p1), .val (.int p2), .val (.int p3), .val (.int p4), .val (.int (p0 &&& (3 : Int32))), .val (.int ((own_ushr p0 (2 : Int32)) &&& (3 : Int32))), .val (.int (p2 &&& (255 : Int32))), .val (.int (p2 &&& (65535 : Int32))), .val (.int (own_body p0 p2)), .val (.int len), .val (.ref b167), .val (.int b4), .val (.int (own_nn len vs238)), .val (.int ((own_el vs238 (len - (1 : Int32))) &&& (255 : Int32))), .val (.int ((((own_el vs238 (len - (2 : Int32))) &&& (255 : Int32)) <<< ((8 : Int32) &&& 31)) ||| ((own_el vs238 (len - (1 : Int32))) &&& (255 : Int32)))), .val (.int 0), .val (.int 0), .val (.int 0), .val (.int 0), .unset]
abbrev own_loc27 (p0 : Int32) (p1 : Int32) (p2 : Int32) (p3 : Int32) (p4 : Int32) (len : Int32) (b167 : Addr) (b4 : Int32) (nn : Int32) (vs238 : List Value) : Array Slot := #[.val (.int p0), .val (.int p1), .val (.int p2), .val (.int p3), .val (.int p4), .val (.int (p0 &&& (3 : Int32))), .val (.int ((own_ushr p0 (2 : Int32)) &&& (3 : Int32))), .val (.int (p2 &&& (255 : Int32))), .val (.int (p2 &&& (65535 : Int32))), .val (.int (own_body p0 p2)), .val (.int len), .val (.ref b167), .val (.int b4), .val (.int nn), .val (.int ((own_el vs238 (len - (1 : Int32))) &&& (255 : Int32))), .val (.int ((((own_el vs238 (len - (2 : Int32))) &&& (255 : Int32)) <<< ((8 : Int32) &&& 31)) ||| ((own_el vs238 (len - (1 : Int32))) &&& (255 : Int32)))), .val (.int 0), .val (.int 0), .val (.int 0), .val (.int 0), .unset]
abbrev own_loc28 (p0 : Int32) (p1 : Int32) (p2 : Int32) (p3 : Int32) (p4 : Int32) (len : Int32) (b167 : Addr) (b4 : Int32) (nn : Int32) (la : Int32) (vs238 : List Value) : Array Slot := #[.val (.int p0), .val (.int p1), .val (.int p2), .val (.int p3), .val (.int p4), .val (.int (p0 &&& (3 : Int32))), .val (.int ((own_ushr p0 (2 : Int32)) &&& (3 : Int32))), .val (.int (p2 &&& (255 : Int32))), .val (.int (p2 &&& (65535 : Int32))), .val (.int (own_body p0 p2)), .val (.int len), .val (.ref b167), .val (.int b4), .val (.int nn), .val (.int la), .val (.int ((((own_el vs238 (len - (2 : Int32))) &&& (255 : Int32)) <<< ((8 : Int32) &&& 31)) ||| la)), .val (.int 0), .val (.int 0), .val (.int 0), .val (.int 0), .unset]
abbrev own_loc29 (p0 : Int32) (p1 : Int32) (p2 : Int32) (p3 : Int32) (p4 : Int32) (len : Int32) (b167 : Addr) (b4 : Int32) (nn : Int32) (la : Int32) (lb : Int32) : Array Slot := #[.val (.int p0), .val (.int p1), .val (.int p2), .val (.int p3), .val (.int p4), .val (.int (p0 &&& (3 : Int32))), .val (.int ((own_ushr p0 (2 : Int32)) &&& (3 : Int32))), .val (.int (p2 &&& (255 : Int32))), .val (.int (p2 &&& (65535 : Int32))), .val (.int (own_body p0 p2)), .val (.int len), .val (.ref b167), .val (.int b4), .val (.int nn), .val (.int la), .val (.int lb), .val (.int 0), .val (.int 0), .val (.int 0), .val (.int 0), .unset]
abbrev own_loc30 (p0 : Int32) (p1 : Int32) (p2 : Int32) (p3 : Int32) (p4 : Int32) (len : Int32) (b167 : Addr) (b4 : Int32) (nn : Int32) (la : Int32) (lb : Int32) : Array Slot := #[.val (.int p0), .val (.int p1), .val (.int p2), .val (.int p3), .val (.int p4), .val (.int (p0 &&& (3 : Int32))), .val (.int ((own_ushr p0 (2 : Int32)) &&& (3 : Int32))), .val (.int (p2 &&& (255 : Int32))), .val (.int (p2 &&& (65535 : Int32))), .val (.int (own_body p0 p2)), .val (.int len), .val (.ref b167), .val (.int b4), .val (.int nn), .val (.int la), .val (.int lb), .val (.int 1), .val (.int 0), .val (.int 0), .val (.int 0), .unset]
abbrev own_loc31 (p0 : Int32) (p1 : Int32) (p2 : Int32) (p3 : Int32) (p4 : Int32) (len : Int32) (b167 : Addr) (b4 : Int32) (nn : Int32) (la : Int32) (lb : Int32) : Array Slot := #[.val (.int p0), .val (.int p1), .val (.int p2), .val (.int p3), .val (.int p4), .val (.int (p0 &&& (3 : Int32))), .val (.int ((own_ushr p0 (2 : Int32)) &&& (3 : Int32))), .val (.int (p2 &&& (255 : Int32))), .val (.int (p2 &&& (65535 : Int32))), .val (.int (own_body p0 p2)), .val (.int len), .val (.ref b167), .val (.int b4), .val (.int nn), .val (.int la), .val (.int lb), .val (.int 1), .val (.int 5), .val (.int 0), .val (.int 0), .unset]
abbrev own_loc32 (p0 : Int32) (p1 : Int32) (p2 : Int32) (p3 : Int32) (p4 : Int32) (len : Int32) (b167 : Addr) (b4 : Int32) (nn : Int32) (la : Int32) (lb : Int32) : Array Slot := #[.val (.int p0), .val (.int p1), .val (.int p2), .val (.int p3), .val (.int p4), .val (.int (p0 &&& (3 : Int32))), .val (.int ((own_ushr p0 (2 : Int32)) &&& (3 : Int32))), .val (.int (p2 &&& (255 : Int32))), .val (.int (p2 &&& (65535 : Int32))), .val (.int (own_body p0 p2)), .val (.int len), .val (.ref b167), .val (.int b4), .val (.int nn), .val (.int la), .val (.int lb), .val (.int 1), .val (.int 5), .val (.int 0), .val (.int 256), .unset]
abbrev own_loc33 (p0 : Int32) (p1 : Int32) (p2 : Int32) (p3 : Int32) (p4 : Int32) (len : Int32) (b167 : Addr) (b4 : Int32) (nn : Int32) (la : Int32) (lb : Int32) : Array Slot := #[.val (.int p0), .val (.int p1), .val (.int p2), .val (.int p3), .val (.int p4), .val (.int (p0 &&& (3 : Int32))), .val (.int ((own_ushr p0 (2 : Int32)) &&& (3 : Int32))), .val (.int (p2 &&& (255 : Int32))), .val (.int (p2 &&& (65535 : Int32))), .val (.int (own_body p0 p2)), .val (.int len), .val (.ref b167), .val (.int b4), .val (.int nn), .val (.int la), .val (.int lb), .val (.int 1), .val (.int 5), .val (.int 0), .val (.int b4), .unset]
abbrev own_loc34 (p0 : Int32) (p1 : Int32) (p2 : Int32) (p3 : Int32) (p4 : Int32) (len : Int32) (b167 : Addr) (b4 : Int32) (nn : Int32) (la : Int32) (lb : Int32) : Array Slot := #[.val (.int p0), .val (.int p1), .val (.int p2), .val (.int p3), .val (.int p4), .val (.int (p0 &&& (3 : Int32))), .val (.int ((own_ushr p0 (2 : Int32)) &&& (3 : Int32))), .val (.int (p2 &&& (255 : Int32))), .val (.int (p2 &&& (65535 : Int32))), .val (.int (own_body p0 p2)), .val (.int len), .val (.ref b167), .val (.int b4), .val (.int nn), .val (.int la), .val (.int lb), .val (.int 1), .val (.int 7), .val (.int 0), .val (.int 0), .unset]
abbrev own_loc35 (p0 : Int32) (p1 : Int32) (p2 : Int32) (p3 : Int32) (p4 : Int32) (len : Int32) (b167 : Addr) (b4 : Int32) (nn : Int32) (la : Int32) (lb : Int32) : Array Slot := #[.val (.int p0), .val (.int p1), .val (.int p2), .val (.int p3), .val (.int p4), .val (.int (p0 &&& (3 : Int32))), .val (.int ((own_ushr p0 (2 : Int32)) &&& (3 : Int32))), .val (.int (p2 &&& (255 : Int32))), .val (.int (p2 &&& (65535 : Int32))), .val (.int (own_body p0 p2)), .val (.int len), .val (.ref b167), .val (.int b4), .val (.int nn), .val (.int la), .val (.int lb), .val (.int 1), .val (.int 7), .val (.int 0), .val (.int 65536), .unset]
abbrev own_loc36 (p0 : Int32) (p1 : Int32) (p2 : Int32) (p3 : Int32) (p4 : Int32) (len : Int32) (b167 : Addr) (b4 : Int32) (nn : Int32) (la : Int32) (lb : Int32) : Array Slot := #[.val (.int p0), .val (.int p1), .val (.int p2), .val (.int p3), .val (.int p4), .val (.int (p0 &&& (3 : Int32))), .val (.int ((own_ushr p0 (2 : Int32)) &&& (3 : Int32))), .val (.int (p2 &&& (255 : Int32))), .val (.int (p2 &&& (65535 : Int32))), .val (.int (own_body p0 p2)), .val (.int len), .val (.ref b167), .val (.int b4), .val (.int nn), .val (.int la), .val (.int lb), .val (.int 1), .val (.int 7), .val (.int 0), .val (.int nn), .unset]
abbrev own_loc37 (p0 : Int32) (p1 : Int32) (p2 : Int32) (p3 : Int32) (p4 : Int32) (len : Int32) (b167 : Addr) (b4 : Int32) (nn : Int32) (la : Int32) (lb : Int32) : Array Slot := #[.val (.int p0), .val (.int p1), .val (.int p2), .val (.int p3), .val (.int p4), .val (.int (p0 &&& (3 : Int32))), .val (.int ((own_ushr p0 (2 : Int32)) &&& (3 : Int32))), .val (.int (p2 &&& (255 : Int32))), .val (.int (p2 &&& (65535 : Int32))), .val (.int (own_body p0 p2)), .val (.int len), .val (.ref b167), .val (.int b4), .val (.int nn), .val (.int la), .val (.int lb), .val (.int 1), .val (.int 7), .val (.int nn), .val (.int 0), .unset]
abbrev own_loc38 (p0 : Int32) (p1 : Int32) (p2 : Int32) (p3 : Int32) (p4 : Int32) (len : Int32) (b167 : Addr) (b4 : Int32) (nn : Int32) (la : Int32) (lb : Int32) : Array Slot := #[.val (.int p0), .val (.int p1), .val (.int p2), .val (.int p3), .val (.int p4), .val (.int (p0 &&& (3 : Int32))), .val (.int ((own_ushr p0 (2 : Int32)) &&& (3 : Int32))), .val (.int (p2 &&& (255 : Int32))), .val (.int (p2 &&& (65535 : Int32))), .val (.int (own_body p0 p2)), .val (.int len), .val (.ref b167), .val (.int b4), .val (.int nn), .val (.int la), .val (.int lb), .val (.int 1), .val (.int 7), .val (.int nn), .val (.int 65536), .unset]
abbrev own_loc39 (p0 : Int32) (p1 : Int32) (p2 : Int32) (p3 : Int32) (p4 : Int32) (len : Int32) (b167 : Addr) (b4 : Int32) (nn : Int32) (la : Int32) (lb : Int32) : Array Slot := #[.val (.int p0), .val (.int p1), .val (.int p2), .val (.int p3), .val (.int p4), .val (.int (p0 &&& (3 : Int32))), .val (.int ((own_ushr p0 (2 : Int32)) &&& (3 : Int32))), .val (.int (p2 &&& (255 : Int32))), .val (.int (p2 &&& (65535 : Int32))), .val (.int (own_body p0 p2)), .val (.int len), .val (.ref b167), .val (.int b4), .val (.int nn), .val (.int la), .val (.int lb), .val (.int 1), .val (.int 7), .val (.int nn), .val (.int lb), .unset]
abbrev own_loc40 (p0 : Int32) (p1 : Int32) (p2 : Int32) (p3 : Int32) (p4 : Int32) (len : Int32) (b167 : Addr) (b4 : Int32) (nn : Int32) (la : Int32) (lb : Int32) : Array Slot := #[.val (.int p0), .val (.int p1), .val (.int p2), .val (.int p3), .val (.int p4), .val (.int (p0 &&& (3 : Int32))), .val (.int ((own_ushr p0 (2 : Int32)) &&& (3 : Int32))), .val (.int (p2 &&& (255 : Int32))), .val (.int (p2 &&& (65535 : Int32))), .val (.int (own_body p0 p2)), .val (.int len), .val (.ref b167), .val (.int b4), .val (.int nn), .val (.int la), .val (.int lb), .val (.int 1), .val (.int 5), .val (.int b4), .val (.int 0), .unset]
abbrev own_loc41 (p0 : Int32) (p1 : Int32) (p2 : Int32) (p3 : Int32) (p4 : Int32) (len : Int32) (b167 : Addr) (b4 : Int32) (nn : Int32) (la : Int32) (lb : Int32) : Array Slot := #[.val (.int p0), .val (.int p1), .val (.int p2), .val (.int p3), .val (.int p4), .val (.int (p0 &&& (3 : Int32))), .val (.int ((own_ushr p0 (2 : Int32)) &&& (3 : Int32))), .val (.int (p2 &&& (255 : Int32))), .val (.int (p2 &&& (65535 : Int32))), .val (.int (own_body p0 p2)), .val (.int len), .val (.ref b167), .val (.int b4), .val (.int nn), .val (.int la), .val (.int lb), .val (.int 1), .val (.int 5), .val (.int b4), .val (.int 256), .unset]
abbrev own_loc42 (p0 : Int32) (p1 : Int32) (p2 : Int32) (p3 : Int32) (p4 : Int32) (len : Int32) (b167 : Addr) (b4 : Int32) (nn : Int32) (la : Int32) (lb : Int32) : Array Slot := #[.val (.int p0), .val (.int p1), .val (.int p2), .val (.int p3), .val (.int p4), .val (.int (p0 &&& (3 : Int32))), .val (.int ((own_ushr p0 (2 : Int32)) &&& (3 : Int32))), .val (.int (p2 &&& (255 : Int32))), .val (.int (p2 &&& (65535 : Int32))), .val (.int (own_body p0 p2)), .val (.int len), .val (.ref b167), .val (.int b4), .val (.int nn), .val (.int la), .val (.int lb), .val (.int 1), .val (.int 5), .val (.int b4), .val (.int la), .unset]
def own_c_0 (len : Int32) (b4 : Int32) (nn : Int32) : Int32 := (if len = (4 : Int32) then (1 : Int32) else (if len = (5 : Int32) then (1 : Int32) else (if b4 = (0 : Int32) then (if len = (7 : Int32) then (1 : Int32) else (if (7 : Int32) < len then (if nn = (0 : Int32) then (0 : Int32) else (if len = ((7 : Int32) + nn) then (1 : Int32) else (if len = ((9 : Int32) + nn) then (1 : Int32) else (0 : Int32)))) else (0 : Int32))) else (if len = ((5 : Int32) + b4) then (1 : Int32) else (if len = ((6 : Int32) + b4) then (1 : Int32) else (0 : Int32))))))
def own_c_1 (len : Int32) (b4 : Int32) (nn : Int32) : Int32 := (if len = (4 : Int32) then (5 : Int32) else (if len = (5 : Int32) then (5 : Int32) else (if b4 = (0 : Int32) then (if len = (7 : Int32) then (7 : Int32) else (if (7 : Int32) < len then (if nn = (0 : Int32) then (0 : Int32) else (if len = ((7 : Int32) + nn) then (7 : Int32) else (if len = ((9 : Int32) + nn) then (7 : Int32) else (0 : Int32)))) else (0 : Int32))) else (if len = ((5 : Int32) + b4) then (5 : Int32) else (if len = ((6 : Int32) + b4) then (5 : Int32) else (0 : Int32))))))
def own_c_2 (len : Int32) (b4 : Int32) (nn : Int32) : Int32 := (if len = (4 : Int32) then (0 : Int32) else (if len = (5 : Int32) then (0 : Int32) else (if b4 = (0 : Int32) then (if len = (7 : Int32) then (0 : Int32) else (if (7 : Int32) < len then (if nn = (0 : Int32) then (0 : Int32) else (if len = ((7 : Int32) + nn) then nn else (if len = ((9 : Int32) + nn) then nn else (0 : Int32)))) else (0 : Int32))) else (if len = ((5 : Int32) + b4) then b4 else (if len = ((6 : Int32) + b4) then b4 else (0 : Int32))))))
def own_c_3 (len : Int32) (b4 : Int32) (nn : Int32) (la : Int32) (lb : Int32) : Int32 := (if len = (4 : Int32) then (0 : Int32) else (if len = (5 : Int32) then (if b4 = (0 : Int32) then (256 : Int32) else b4) else (if b4 = (0 : Int32) then (if len = (7 : Int32) then (if nn = (0 : Int32) then (65536 : Int32) else nn) else (if (7 : Int32) < len then (if nn = (0 : Int32) then (0 : Int32) else (if len = ((7 : Int32) + nn) then (0 : Int32) else (if len = ((9 : Int32) + nn) then (if lb = (0 : Int32) then (65536 : Int32) else lb) else (0 : Int32)))) else (0 : Int32))) else (if len = ((5 : Int32) + b4) then (0 : Int32) else (if len = ((6 : Int32) + b4) then (if la = (0 : Int32) then (256 : Int32) else la) else (0 : Int32))))))
abbrev own_loc43 (p0 : Int32) (p1 : Int32) (p2 : Int32) (p3 : Int32) (p4 : Int32) (len : Int32) (b167 : Addr) (b4 : Int32) (nn : Int32) (la : Int32) (lb : Int32) : Array Slot := #[.val (.int p0), .val (.int p1), .val (.int p2), .val (.int p3), .val (.int p4), .val (.int (p0 &&& (3 : Int32))), .val (.int ((own_ushr p0 (2 : Int32)) &&& (3 : Int32))), .val (.int (p2 &&& (255 : Int32))), .val (.int (p2 &&& (65535 : Int32))), .val (.int (own_body p0 p2)), .val (.int len), .val (.ref b167), .val (.int b4), .val (.int nn), .val (.int la), .val (.int lb), .val (.int (own_c_0 len b4 nn)), .val (.int (own_c_1 len b4 nn)), .val (.int (own_c_2 len b4 nn)), .val (.int (own_c_3 len b4 nn la lb)), .unset]
theorem pd_4 : parseMethodDescriptor "([B)Lcom/example/chipmantle/chipmantle/CommandApdu;" = some ⟨[(.array .byte)], some (.object "com/example/chipmantle/chipmantle/CommandApdu")⟩ := by decide +kernel
abbrev own_loc44 (p0 : Int32) (p1 : Int32) (p2 : Int32) (p3 : Int32) (p4 : Int32) (len : Int32) (b167 : Addr) (b4 : Int32) (nn : Int32) (la : Int32) (lb : Int32) : Array Slot := #[.val (.int p0), .val (.int p1), .val (.int p2), .val (.int p3), .val (.int p4), .val (.int (p0 &&& (3 : Int32))), .val (.int ((own_ushr p0 (2 : Int32)) &&& (3 : Int32))), .val (.int (p2 &&& (255 : Int32))), .val (.int (p2 &&& (65535 : Int32))), .val (.int (own_body p0 p2)), .val (.int len), .val (.ref b167), .val (.int b4), .val (.int nn), .val (.int la), .val (.int lb), .val (.int (own_c_0 len b4 nn)), .val (.int (own_c_1 len b4 nn)), .val (.int (own_c_2 len b4 nn)), .val (.int (own_c_3 len b4 nn la lb)), .val .null]
abbrev own_loc45 (p0 : Int32) (p1 : Int32) (p2 : Int32) (p3 : Int32) (p4 : Int32) (len : Int32) (b167 : Addr) (b4 : Int32) (nn : Int32) (la : Int32) (lb : Int32) (r268 : Addr) : Array Slot := #[.val (.int p0), .val (.int p1), .val (.int p2), .val (.int p3), .val (.int p4), .val (.int (p0 &&& (3 : Int32))), .val (.int ((own_ushr p0 (2 : Int32)) &&& (3 : Int32))), .val (.int (p2 &&& (255 : Int32))), .val (.int (p2 &&& (65535 : Int32))), .val (.int (own_body p0 p2)), .val (.int len), .val (.ref b167), .val (.int b4), .val (.int nn), .val (.int la), .val (.int lb), .val (.int (own_c_0 len b4 nn)), .val (.int (own_c_1 len b4 nn)), .val (.int (own_c_2 len b4 nn)), .val (.int (own_c_3 len b4 nn la lb)), .val (.ref r268)]
theorem pd_3 : parseMethodDescriptor "()[B" = some ⟨[], some (.array .byte)⟩ := by decide +kernel
theorem pd_0 : parseMethodDescriptor "()I" = some ⟨[], some .int⟩ := by decide +kernel
theorem pd_2 : parseMethodDescriptor "()Z" = some ⟨[], some .boolean⟩ := by decide +kernel
def own_x (len : Int32) (b4 : Int32) (nn : Int32) : Int32 := (if (own_c_1 len b4 nn) = (7 : Int32) then (1 : Int32) else (0 : Int32))
def Q0 (n0 : Nat) (v : Option Value) (h : Heap) (L : List Loc) : Prop := v = some (.int 1) ∧ Fr n0 L
theorem own_nn0 (len : Int32) (h4 : 4 ≤ len.toInt) : ¬ len < 0 := by rw [Int32.lt_iff_toInt_lt, show (0 : Int32).toInt = 0 from rfl]; omega
theorem own_nnc (len : Int32) (h4 : 4 ≤ len.toInt) (hm : len.toInt ≤ 65545) : len.toNatClampNeg ≤ 65545 := by have := nat_of (own_nn0 len h4); omega
theorem own_lt_of (j m len : Int32) (q : j.toInt ≤ m.toInt) (h : m < len) : j < len := by rw [Int32.lt_iff_toInt_lt] at *; omega
theorem own_ix {j n : Int32} {vs : List Value} (h : ¬ j < 0 ∧ j < n) (hl : vs.length = n.toNatClampNeg) : j.toNatClampNeg < vs.length := by
  have a := nat_of h.1
  have b : ¬ n < 0 := by have := h.1; have := h.2; rw [Int32.lt_iff_toInt_lt] at *; omega
  have c := nat_of b; have := h.2; rw [Int32.lt_iff_toInt_lt] at this; omega
theorem own_body_rng (p0 p2 : Int32) : 0 ≤ (own_body p0 p2).toInt ∧ (own_body p0 p2).toInt ≤ 65541 ∧ (¬ (p0 &&& (3 : Int32)) = (0 : Int32) → 1 ≤ (own_body p0 p2).toInt) ∧ (¬ (p0 &&& (3 : Int32)) = (0 : Int32) → ¬ (p0 &&& (3 : Int32)) = (1 : Int32) → 3 ≤ (own_body p0 p2).toInt) := by
  have e1 : (1 : Int32).toInt = 1 := rfl; have e3 : (3 : Int32).toInt = 3 := rfl
  have m7 := c_mask (own_ushr p0 (2 : Int32)) 7 3 (by decide) (by decide)
  have m3 := c_mask (own_ushr p0 (2 : Int32)) 3 2 (by decide) (by decide)
  have m8 := c_mask p2 255 8 (by decide) (by decide)
  have m16 := c_mask p2 65535 16 (by decide) (by decide)
  unfold own_body
  by_cases a : (p0 &&& (3 : Int32)) = (0 : Int32)
  · rw [if_pos a]; refine ⟨by omega, by omega, fun h => absurd a h, fun h => absurd a h⟩
  · rw [if_neg a]
    by_cases b : (p0 &&& (3 : Int32)) = (1 : Int32)
    · rw [if_pos b]
      have s1 := c_iadd 1 (p2 &&& (255 : Int32)); have r1 := rng32 ((1 : Int32) + (p2 &&& (255 : Int32)))
      have s2 := c_iadd ((1 : Int32) + (p2 &&& (255 : Int32))) (own_ushr p0 (2 : Int32) &&& (3 : Int32)); have r2 := rng32 (((1 : Int32) + (p2 &&& (255 : Int32))) + (own_ushr p0 (2 : Int32) &&& (3 : Int32)))
      refine ⟨by omega, by omega, fun _ => by omega, fun _ h => absurd b h⟩
    · rw [if_neg b]
      have s1 := c_iadd 3 (p2 &&& (65535 : Int32)); have r1 := rng32 ((3 : Int32) + (p2 &&& (65535 : Int32)))
      have s2 := c_iadd ((3 : Int32) + (p2 &&& (65535 : Int32))) (own_ushr p0 (2 : Int32) &&& (3 : Int32)); have r2 := rng32 (((3 : Int32) + (p2 &&& (65535 : Int32))) + (own_ushr p0 (2 : Int32) &&& (3 : Int32)))
      refine ⟨by omega, by omega, fun _ => by omega, fun _ _ => by omega⟩
theorem own_len_eq (p0 p2 : Int32) : ((4 : Int32) + own_body p0 p2).toInt = 4 + (own_body p0 p2).toInt := by
  have := own_body_rng p0 p2; have := c_iadd 4 (own_body p0 p2); have := rng32 ((4 : Int32) + own_body p0 p2); have e : (4 : Int32).toInt = 4 := rfl; omega
theorem own_len_rng (p0 p2 : Int32) : 4 ≤ ((4 : Int32) + own_body p0 p2).toInt ∧ ((4 : Int32) + own_body p0 p2).toInt ≤ 65545 := by
  have := own_body_rng p0 p2; rw [own_len_eq]; omega
theorem own_i1 (p0 p2 len : Int32) (hl : len = (4 : Int32) + own_body p0 p2) (j : Int32) (a : ¬ (p0 &&& (3 : Int32)) = (0 : Int32)) (b : (p0 &&& (3 : Int32)) = (1 : Int32)) (h0 : 0 ≤ j.toInt) (h1 : j.toInt ≤ 4) : ¬ j < 0 ∧ j < len := by
  have := (own_body_rng p0 p2).2.2.1 a; have e := own_len_eq p0 p2; rw [← hl] at e; exact own_in _ _ h0 (by omega)
theorem own_i2 (p0 p2 len : Int32) (hl : len = (4 : Int32) + own_body p0 p2) (j : Int32) (a : ¬ (p0 &&& (3 : Int32)) = (0 : Int32)) (b : ¬ (p0 &&& (3 : Int32)) = (1 : Int32)) (h0 : 0 ≤ j.toInt) (h1 : j.toInt ≤ 6) : ¬ j < 0 ∧ j < len := by
  have := (own_body_rng p0 p2).2.2.2 a b; have e := own_len_eq p0 p2; rw [← hl] at e; exact own_in _ _ h0 (by omega)
theorem own_im1 (len : Int32) (h4 : 4 ≤ len.toInt) (hm : len.toInt ≤ 65545) : ¬ (len - (1 : Int32)) < 0 ∧ (len - (1 : Int32)) < len := by
  have := own_lm1 len h4 hm; exact own_in _ _ this.1 (by omega)
theorem own_im2 (len : Int32) (h4 : 4 ≤ len.toInt) (hm : len.toInt ≤ 65545) : ¬ (len - (2 : Int32)) < 0 ∧ (len - (2 : Int32)) < len := by
  have := own_lm2 len h4 hm; exact own_in _ _ this.1 (by omega)
theorem own_one {a b : Int32} (h : a = b) (k : b = 1) : ¬ a = (0 : Int32) := by rw [h, k]; decide
theorem own_xk {len b4 nn : Int32} {vs : List Value} (h : own_po len vs = own_c_1 len b4 nn) : nar .boolean (own_ext (own_po len vs)) = own_x len b4 nn := by
  unfold own_ext own_x; rw [h]; by_cases q : own_c_1 len b4 nn = (7 : Int32)
  · rw [if_pos q]; rfl
  · rw [if_neg q]; rfl
theorem own_f1e (len : Int32) (vs : List Value) (p : Int32) : own_field1 len vs p = own_el vs p &&& (255 : Int32) := by
  unfold own_field1; rw [show ((0 : Int32) <<< ((8 : Int32) &&& 31)) = 0 from by decide, Int32.zero_or]
theorem own_f2e (len : Int32) (vs : List Value) (p : Int32) : own_field2 len vs p = ((own_el vs p &&& (255 : Int32)) <<< ((8 : Int32) &&& 31)) ||| (own_el vs (p + 1) &&& (255 : Int32)) := by
  unfold own_field2; rw [show ((0 : Int32) <<< ((8 : Int32) &&& 31)) = 0 from by decide, Int32.zero_or]
theorem own_byte (x : Int32) : 0 ≤ (x &&& (255 : Int32)).toInt ∧ (x &&& (255 : Int32)).toInt ≤ 255 := by
  have := c_mask x 255 8 (by decide) (by decide); omega
theorem own_word (x y : Int32) : 0 ≤ (((x &&& (255 : Int32)) <<< ((8 : Int32) &&& 31)) ||| (y &&& (255 : Int32))).toInt ∧ (((x &&& (255 : Int32)) <<< ((8 : Int32) &&& 31)) ||| (y &&& (255 : Int32))).toInt ≤ 65535 := by
  have a := own_byte x; have b := own_byte y
  have s := c_ishl (x &&& (255 : Int32)) 8 8 (by decide); have r := rng32 ((x &&& (255 : Int32)) <<< ((8 : Int32) &&& 31))
  have s' : ((x &&& (255 : Int32)) <<< ((8 : Int32) &&& 31)).toInt = (x &&& (255 : Int32)).toInt * 256 := by omega
  have o := c_or ((x &&& (255 : Int32)) <<< ((8 : Int32) &&& 31)) (y &&& (255 : Int32)) 8 (by decide) 256 (by decide) (by omega) (by omega) (by omega)
  have r' := rng32 (((x &&& (255 : Int32)) <<< ((8 : Int32) &&& 31)) ||| (y &&& (255 : Int32)))
  omega
/-- len = q + z against (len - q) - z = 0, in the range -/
theorem own_after (len q z : Int32) (n m : Int) (hq : q.toInt = n) (h4 : 4 ≤ len.toInt) (hm : len.toInt ≤ 65545) (h0 : 0 ≤ n) (h9 : n ≤ 9) (z0 : 0 ≤ z.toInt) (z1 : z.toInt ≤ 65535) (r : Int32) (hr : r.toInt = m) (m0 : 0 ≤ m) (m2 : m ≤ 2) :
    ((len - q) - z) = r ↔ len.toInt = n + z.toInt + m := by
  have a := own_m len q n hq h4 hm h0 (by omega)
  have b := c_isub (len - q) z; have c := rng32 ((len - q) - z)
  rw [← Int32.toInt_inj, hr]; omega
theorem own_plus (len q z : Int32) (n : Int) (hq : q.toInt = n) (h0 : 0 ≤ n) (h9 : n ≤ 9) (z0 : 0 ≤ z.toInt) (z1 : z.toInt ≤ 65535) : len = q + z ↔ len.toInt = n + z.toInt := by
  have b := c_iadd q z; have c := rng32 (q + z)
  rw [← Int32.toInt_inj]; omega
theorem own_leq (len q : Int32) (n : Int) (hq : q.toInt = n) : len = q ↔ len.toInt = n := by rw [← Int32.toInt_inj, hq]
theorem own_ner1e (len : Int32) (vs : List Value) (p : Int32) : own_ne1 len vs p = if own_el vs p &&& (255 : Int32) = 0 then 256 else own_el vs p &&& (255 : Int32) := by
  unfold own_ne1 own_ner1; rw [own_f1e]; rfl
theorem own_ner2e (len : Int32) (vs : List Value) (p : Int32) : own_ne2 len vs p = if own_field2 len vs p = 0 then 65536 else own_field2 len vs p := by
  unfold own_ne2 own_ner2; rfl
theorem own_key (len : Int32) (vs : List Value) (b4 nn la lb : Int32) (h4 : 4 ≤ len.toInt) (hm : len.toInt ≤ 65545) (hb : b4 = own_b4 len vs) (hn : nn = own_nn len vs) (ha : la = (own_el vs (len - (1 : Int32)) &&& (255 : Int32))) (hlb : lb = (((own_el vs (len - (2 : Int32)) &&& (255 : Int32)) <<< ((8 : Int32) &&& 31)) ||| la)) :
    own_c_0 len b4 nn = own_pv len vs ∧ (own_pv len vs = 1 → own_po len vs = own_c_1 len b4 nn ∧ own_pn len vs = own_c_2 len b4 nn ∧ own_pe len vs = own_c_3 len b4 nn la lb) := by
  have i0 := own_eq4 len 0 0 rfl h4 hm; have i1 := own_eq4 len 1 1 rfl h4 hm; have i3 := own_eq4 len 3 3 rfl h4 hm; have il := own_lt4 len h4 hm
  have l4 := own_leq len 4 4 rfl; have l5 := own_leq len 5 5 rfl; have l7 := own_leq len 7 7 rfl
  have g7 : (7 : Int32) < len ↔ 7 < len.toInt := by rw [Int32.lt_iff_toInt_lt]; rfl
  have g4 : (4 : Int32) < len ↔ 4 < len.toInt := by rw [Int32.lt_iff_toInt_lt]; rfl
  have g6 : (6 : Int32) < len ↔ 6 < len.toInt := by rw [Int32.lt_iff_toInt_lt]; rfl
  have e21 : (len - (2 : Int32)) + 1 = len - (1 : Int32) := by
    have a := own_m len 2 2 rfl h4 hm (by omega) (by omega); have b := own_m len 1 1 rfl h4 hm (by omega) (by omega)
    rw [← Int32.toInt_inj, own_p1 _ (by omega) (by omega)]; omega
  have f5 : own_field2 len vs (5 : Int32) = ((own_el vs 5 &&& (255 : Int32)) <<< ((8 : Int32) &&& 31)) ||| (own_el vs 6 &&& (255 : Int32)) := own_f2e len vs 5
  have fl : own_field2 len vs (len - (2 : Int32)) = lb := by rw [own_f2e, e21, hlb, ha]
  have fa : (own_el vs (len - (1 : Int32)) &&& (255 : Int32)) = la := ha.symm
  have w := own_word (own_el vs 5) (own_el vs 6)
  have y := own_byte (own_el vs 4)
  unfold own_c_0 own_c_1 own_c_2 own_c_3 own_pv own_po own_pn own_pe own_wv1 own_wv2 own_we1 own_we2
  rw [own_ner1e, own_ner2e, own_ner1e, own_ner2e, fl, fa]
  by_cases q4 : len.toInt = 4
  · have a0 : len = 4 := l4.mpr q4; have a1 : (len - (4 : Int32)) = 0 := i0.mpr (by omega)
    simp only [a0, a1, if_true, ↓reduceIte, and_self, implies_true] at *
    simp
  · have a0 : ¬ len = 4 := fun h => q4 (l4.mp h)
    have a1 : ¬ (len - (4 : Int32)) = 0 := fun h => by rw [i0] at h; omega
    have eb : own_b4 len vs = own_el vs 4 &&& (255 : Int32) := by unfold own_b4; rw [if_pos (g4.mpr (by omega))]
    rw [eb] at hb
    rw [← hb] at y ⊢
    by_cases q5 : len.toInt = 5
    · have b0 : len = 5 := l5.mpr q5; have b1 : (len - (4 : Int32)) = 1 := i1.mpr (by omega)
      simp only [if_neg a0, if_neg a1, if_pos b0, if_pos b1]; simp
    · have b0 : ¬ len = 5 := fun h => q5 (l5.mp h); have b1 : ¬ (len - (4 : Int32)) = 1 := fun h => by rw [i1] at h; omega
      simp only [if_neg a0, if_neg a1, if_neg b0, if_neg b1]
      by_cases z : b4 = 0
      · simp only [if_pos z]
        by_cases q6 : len.toInt = 6
        · have c0 : ¬ len = 7 := fun h => by rw [l7] at h; omega
          have c1 : ¬ (7 : Int32) < len := fun h => by rw [g7] at h; omega
          have c2 : (len - (4 : Int32)) < 3 := il.mpr (by omega)
          simp only [if_neg c0, if_neg c1, if_pos c2]; simp
        · have en : own_nn len vs = own_field2 len vs (5 : Int32) := by unfold own_nn; rw [if_pos (g6.mpr (by omega)), f5]
          rw [en] at hn
          rw [← f5, ← hn] at w
          rw [← hn]
          have c2 : ¬ (len - (4 : Int32)) < 3 := fun h => by rw [il] at h; omega
          simp only [if_neg c2]
          by_cases q7 : len.toInt = 7
          · have c0 : len = 7 := l7.mpr q7; have c3 : (len - (4 : Int32)) = 3 := i3.mpr (by omega)
            simp only [if_pos c0, if_pos c3]; simp
          · have c0 : ¬ len = 7 := fun h => q7 (l7.mp h); have c3 : ¬ (len - (4 : Int32)) = 3 := fun h => by rw [i3] at h; omega
            have c1 : (7 : Int32) < len := g7.mpr (by omega)
            simp only [if_neg c0, if_neg c3, if_pos c1]
            by_cases z2 : nn = 0
            · simp only [if_pos z2]; simp
            · simp only [if_neg z2]
              have t0 := own_after len 7 nn 7 0 rfl h4 hm (by omega) (by omega) w.1 w.2 0 rfl (by omega) (by omega)
              have t2 := own_after len 7 nn 7 2 rfl h4 hm (by omega) (by omega) w.1 w.2 2 rfl (by omega) (by omega)
              have u7 := own_plus len 7 nn 7 rfl (by omega) (by omega) w.1 w.2
              have u9 := own_plus len 9 nn 9 rfl (by omega) (by omega) w.1 w.2
              by_cases k0 : len.toInt = 7 + nn.toInt
              · have d0 : len = (7 : Int32) + nn := u7.mpr k0; have d1 : ((len - 7) - nn) = 0 := t0.mpr (by omega)
                simp only [if_pos d0, if_pos d1]; simp
              · have d0 : ¬ len = (7 : Int32) + nn := fun h => k0 (u7.mp h); have d1 : ¬ ((len - 7) - nn) = 0 := fun h => by rw [t0] at h; omega
                simp only [if_neg d0, if_neg d1]
                by_cases k2 : len.toInt = 9 + nn.toInt
                · have d2 : len = (9 : Int32) + nn := u9.mpr k2; have d3 : ((len - 7) - nn) = 2 := t2.mpr (by omega)
                  simp only [if_pos d2, if_pos d3]; simp
                · have d2 : ¬ len = (9 : Int32) + nn := fun h => k2 (u9.mp h); have d3 : ¬ ((len - 7) - nn) = 2 := fun h => by rw [t2] at h; omega
                  simp only [if_neg d2, if_neg d3]; simp
      · simp only [if_neg z]
        have t0 := own_after len 5 b4 5 0 rfl h4 hm (by omega) (by omega) y.1 (by omega) 0 rfl (by omega) (by omega)
        have t1 := own_after len 5 b4 5 1 rfl h4 hm (by omega) (by omega) y.1 (by omega) 1 rfl (by omega) (by omega)
        have u5 := own_plus len 5 b4 5 rfl (by omega) (by omega) y.1 (by omega)
        have u6 := own_plus len 6 b4 6 rfl (by omega) (by omega) y.1 (by omega)
        by_cases k0 : len.toInt = 5 + b4.toInt
        · have d0 : len = (5 : Int32) + b4 := u5.mpr k0; have d1 : ((len - 5) - b4) = 0 := t0.mpr (by omega)
          simp only [if_pos d0, if_pos d1]; simp
        · have d0 : ¬ len = (5 : Int32) + b4 := fun h => k0 (u5.mp h); have d1 : ¬ ((len - 5) - b4) = 0 := fun h => by rw [t0] at h; omega
          simp only [if_neg d0, if_neg d1]
          by_cases k1 : len.toInt = 6 + b4.toInt
          · have d2 : len = (6 : Int32) + b4 := u6.mpr k1; have d3 : ((len - 5) - b4) = 1 := t1.mpr (by omega)
            simp only [if_pos d2, if_pos d3]; simp
          · have d2 : ¬ len = (6 : Int32) + b4 := fun h => k1 (u6.mp h); have d3 : ¬ ((len - 5) - b4) = 1 := fun h => by rw [t1] at h; omega
            simp only [if_neg d2, if_neg d3]; simp
set_option maxRecDepth 65536 in
set_option maxHeartbeats 40000000 in
theorem rm0 (l : Launch) (Z : State) (ag : Array Value) (hw : ∀ d ∈ tables_1, d.before ag Z = true) (ws : List Jvm.Cond) (p0 : Int32) (p1 : Int32) (p2 : Int32) (p3 : Int32) (p4 : Int32) (h0 : Heap) (n0 : Nat) (Z0 : n0 ≤ h0.size) :
    MetFree l x (head1 (Jvm.Cond.code x code maxLocals ret :: ws) room_1) (fun a U => a = #[(.int p0), (.int p1), (.int p2), (.int p3), (.int p4)] ∧ Z.Warmed39 U.vm ∧ U.heap = h0) (fun _ _ _ _ _ => True) (fun _ U o U' => ∃ v L, o = .returned v ∧ Q0 n0 v U'.heap L ∧ FrameEnd U o U' L 2 65549) := by
  refine MetFree.of_bodySF (plainFor_of_name pn_1) hisR ?_
  intro p e s m args below meth c s₁ Bd hml0 hP hK
  obtain ⟨rfl, hZ, hh⟩ := hP
  have hx := Bd.exec
  have hby := Bd.bytes
  have hml : c.maxLocals = 21 := hml0
  have hown : s.vm.findClass "com/example/chipmantle/chipmantle/CommandApduParsePinLaw" = some m.cls := findClass_of_methodNamed Bd.named
  have hnm := (name_of_methodNamed Bd.named Bd.method).1
  have X0 : Stand p l e room_1 s m #[(.int p0), (.int p1), (.int p2), (.int p3), (.int p4)] below meth c s₁ [] 0 0 := Stand.of_body Bd
  have e0 : s₁.heap = h0 := by rw [← hh, Bd.state]; rfl
  have N0 := Fr.nil n0
  have pre0 : ∀ t, Steps p.tables e below (s₁.setTop (mkF m 0 #[.val (.int p0), .val (.int p1), .val (.int p2), .val (.int p3), .val (.int p4), .unset, .unset, .unset, .unset, .unset, .unset, .unset, .unset, .unset, .unset, .unset, .unset, .unset, .unset, .unset, .unset] [])) t → Steps p.tables e below (s₁.setTop (entryFrame m #[(.int p0), (.int p1), (.int p2), (.int p3), (.int p4)] maxLocals)) t := fun t k => castTop (ef_0 m p0 p1 p2 p3 p4) k
  have sg165 : ∀ target, Steps p.tables e below (s₁.setTop (mkF m 62 (own_loc13 p0 p1 p2 p3 p4) [(.int (own_body p0 p2))])) target → Steps p.tables e below (s₁.setTop (mkF m 25 (own_loc13 p0 p1 p2 p3 p4) [])) target := by
    intro target kt
    show own_S p e below s₁ (mkF m 25 (own_loc13 p0 p1 p2 p3 p4) []) _
    refine XS.iload X0.here hx rfl (hb hby at_25) rfl ?_
    by_cases hc163 : (p0 &&& (3 : Int32)) = (0 : Int32)
    · show own_S p e below s₁ (mkF m 27 (own_loc13 p0 p1 p2 p3 p4) [(.int (p0 &&& (3 : Int32)))]) _
      refine XS.ifNo X0.here hx rfl (hb hby at_27) rfl ((if0 _ _).trans (teq hc163).2) ?_
      show own_S p e below s₁ (mkF m 30 (own_loc13 p0 p1 p2 p3 p4) []) _
      refine XS.iloadN X0.here hx rfl (hb hby at_30) rfl ?_
      show own_S p e below s₁ (mkF m 31 (own_loc13 p0 p1 p2 p3 p4) [(.int p0)]) _
      refine XS.iconst X0.here hx rfl (hb hby at_31) ?_
      show own_S p e below s₁ (mkF m 32 (own_loc13 p0 p1 p2 p3 p4) [.int 2, (.int p0)]) _
      refine XS.iushr X0.here hx rfl (hb hby at_32) rfl ?_
      show own_S p e below s₁ (mkF m 33 (own_loc13 p0 p1 p2 p3 p4) [(.int (own_ushr p0 (2 : Int32)))]) _
      refine XS.bipush X0.here hx rfl (hb hby at_33) ?_
      show own_S p e below s₁ (mkF m 35 (own_loc13 p0 p1 p2 p3 p4) [.int 7, (.int (own_ushr p0 (2 : Int32)))]) _
      refine XS.iand X0.here hx rfl (hb hby at_35) rfl ?_
      show own_S p e below s₁ (mkF m 36 (own_loc13 p0 p1 p2 p3 p4) [(.int ((own_ushr p0 (2 : Int32)) &&& (7 : Int32)))]) _
      refine XS.goto X0.here hx rfl (pc0 := 36) (pc' := 62) rfl (hb hby at_36) (by decide) (by decide) ?_
      show own_S p e below s₁ (mkF m 62 (own_loc13 p0 p1 p2 p3 p4) [(.int ((own_ushr p0 (2 : Int32)) &&& (7 : Int32)))]) _
      have kt := own_cast (P := fun z => Steps p.tables e below (s₁.setTop (mkF m 62 (own_loc13 p0 p1 p2 p3 p4) [(.int z)])) target) (show (own_body p0 p2) = ((own_ushr p0 (2 : Int32)) &&& (7 : Int32)) from (by unfold own_body; rw [if_pos hc163])) kt
      exact kt
    · show own_S p e below s₁ (mkF m 27 (own_loc13 p0 p1 p2 p3 p4) [(.int (p0 &&& (3 : Int32)))]) _
      refine XS.ifYes X0.here hx rfl (pc0 := 27) (pc' := 39) rfl (hb hby at_27) rfl ((if0 _ _).trans (feq hc163).2) (by decide) (by decide) ?_
      show own_S p e below s₁ (mkF m 39 (own_loc13 p0 p1 p2 p3 p4) []) _
      refine XS.iload X0.here hx rfl (hb hby at_39) rfl ?_
      show own_S p e below s₁ (mkF m 41 (own_loc13 p0 p1 p2 p3 p4) [(.int (p0 &&& (3 : Int32)))]) _
      refine XS.iconst X0.here hx rfl (hb hby at_41) ?_
      by_cases hc164 : (p0 &&& (3 : Int32)) = (1 : Int32)
      · show own_S p e below s₁ (mkF m 42 (own_loc13 p0 p1 p2 p3 p4) [.int 1, (.int (p0 &&& (3 : Int32)))]) _
        refine XS.icmpNo X0.here hx rfl (hb hby at_42) rfl (teq hc164).2 ?_
        show own_S p e below s₁ (mkF m 45 (own_loc13 p0 p1 p2 p3 p4) []) _
        refine XS.iconst X0.here hx rfl (hb hby at_45) ?_
        show own_S p e below s₁ (mkF m 46 (own_loc13 p0 p1 p2 p3 p4) [.int 1]) _
        refine XS.iload X0.here hx rfl (hb hby at_46) rfl ?_
        show own_S p e below s₁ (mkF m 48 (own_loc13 p0 p1 p2 p3 p4) [(.int (p2 &&& (255 : Int32))), .int 1]) _
        refine XS.iadd X0.here hx rfl (hb hby at_48) rfl ?_
        show own_S p e below s₁ (mkF m 49 (own_loc13 p0 p1 p2 p3 p4) [(.int ((1 : Int32) + (p2 &&& (255 : Int32))))]) _
        refine XS.iload X0.here hx rfl (hb hby at_49) rfl ?_
        show own_S p e below s₁ (mkF m 51 (own_loc13 p0 p1 p2 p3 p4) [(.int ((own_ushr p0 (2 : Int32)) &&& (3 : Int32))), (.int ((1 : Int32) + (p2 &&& (255 : Int32))))]) _
        refine XS.iadd X0.here hx rfl (hb hby at_51) rfl ?_
        show own_S p e below s₁ (mkF m 52 (own_loc13 p0 p1 p2 p3 p4) [(.int (((1 : Int32) + (p2 &&& (255 : Int32))) + ((own_ushr p0 (2 : Int32)) &&& (3 : Int32))))]) _
        refine XS.goto X0.here hx rfl (pc0 := 52) (pc' := 62) rfl (hb hby at_52) (by decide) (by decide) ?_
        show own_S p e below s₁ (mkF m 62 (own_loc13 p0 p1 p2 p3 p4) [(.int (((1 : Int32) + (p2 &&& (255 : Int32))) + ((own_ushr p0 (2 : Int32)) &&& (3 : Int32))))]) _
        have kt := own_cast (P := fun z => Steps p.tables e below (s₁.setTop (mkF m 62 (own_loc13 p0 p1 p2 p3 p4) [(.int z)])) target) (show (own_body p0 p2) = (((1 : Int32) + (p2 &&& (255 : Int32))) + ((own_ushr p0 (2 : Int32)) &&& (3 : Int32))) from (by unfold own_body; rw [if_neg hc163, if_pos hc164])) kt
        exact kt
      · show own_S p e below s₁ (mkF m 42 (own_loc13 p0 p1 p2 p3 p4) [.int 1, (.int (p0 &&& (3 : Int32)))]) _
        refine XS.icmpYes X0.here hx rfl (pc0 := 42) (pc' := 55) rfl (hb hby at_42) rfl (feq hc164).2 (by decide) (by decide) ?_
        show own_S p e below s₁ (mkF m 55 (own_loc13 p0 p1 p2 p3 p4) []) _
        refine XS.iconst X0.here hx rfl (hb hby at_55) ?_
        show own_S p e below s₁ (mkF m 56 (own_loc13 p0 p1 p2 p3 p4) [.int 3]) _
        refine XS.iload X0.here hx rfl (hb hby at_56) rfl ?_
        show own_S p e below s₁ (mkF m 58 (own_loc13 p0 p1 p2 p3 p4) [(.int (p2 &&& (65535 : Int32))), .int 3]) _
        refine XS.iadd X0.here hx rfl (hb hby at_58) rfl ?_
        show own_S p e below s₁ (mkF m 59 (own_loc13 p0 p1 p2 p3 p4) [(.int ((3 : Int32) + (p2 &&& (65535 : Int32))))]) _
        refine XS.iload X0.here hx rfl (hb hby at_59) rfl ?_
        show own_S p e below s₁ (mkF m 61 (own_loc13 p0 p1 p2 p3 p4) [(.int ((own_ushr p0 (2 : Int32)) &&& (3 : Int32))), (.int ((3 : Int32) + (p2 &&& (65535 : Int32))))]) _
        refine XS.iadd X0.here hx rfl (hb hby at_61) rfl ?_
        show own_S p e below s₁ (mkF m 62 (own_loc13 p0 p1 p2 p3 p4) [(.int (((3 : Int32) + (p2 &&& (65535 : Int32))) + ((own_ushr p0 (2 : Int32)) &&& (3 : Int32))))]) _
        have kt := own_cast (P := fun z => Steps p.tables e below (s₁.setTop (mkF m 62 (own_loc13 p0 p1 p2 p3 p4) [(.int z)])) target) (show (own_body p0 p2) = (((3 : Int32) + (p2 &&& (65535 : Int32))) + ((own_ushr p0 (2 : Int32)) &&& (3 : Int32))) from (by unfold own_body; rw [if_neg hc163, if_neg hc164])) kt
        exact kt
  obtain ⟨len, h_len⟩ : ∃ z : Int32, z = ((4 : Int32) + (own_body p0 p2)) := ⟨_, rfl⟩
  have sg166 : ∀ target, Steps p.tables e below (s₁.setTop (mkF m 70 (own_loc16 p0 p1 p2 p3 p4 len) [])) target → Steps p.tables e below (s₁.setTop (mkF m 70 (own_loc15 p0 p1 p2 p3 p4) [])) target := by subst h_len; exact fun _ k => k
  have hl4 : 4 ≤ len.toInt := by rw [h_len]; exact (own_len_rng p0 p2).1
  have hlm : len.toInt ≤ 65545 := by rw [h_len]; exact (own_len_rng p0 p2).2
  have hln := own_nn0 len hl4
  have hlc := own_nnc len hl4 hlm
  obtain ⟨T167, h167, k167, X167, e167, E167, A167, st167⟩ := newP X0 hx hZ (hw _ (List.mem_of_getElem? (i := 1) rfl)) e0 (g := (mkF m 72 (own_loc16 p0 p1 p2 p3 p4 len) [(.int len)])) rfl (hb hby at_72) rfl hln (cap := 65545) hlc (by decide) (by decide) (by decide)
  obtain ⟨b167, g167⟩ : ∃ z, z = h0.size := ⟨_, rfl⟩
  have ge_b167 : n0 ≤ b167 := Nat.le_trans Z0 (Nat.le_of_eq g167.symm)
  rw [← g167] at A167 st167
  have sz168 : n0 ≤ h167.size := Nat.le_trans Z0 E167.1
  have V167 : Arv Z h167 b167 k167 .byte len [] (.int (0 : Int32)) := Arv.new A167 hln
  obtain ⟨vs0, Vp0, hvl0⟩ : ∃ vs : List Value, Arv Z h167 b167 k167 .byte len vs (.int (0 : Int32)) ∧ vs.length = len.toNatClampNeg := ⟨_, V167.pad (pad_rep [] (.int (0 : Int32)) len.toNatClampNeg), by simp⟩
  obtain ⟨cl169, Ar169, q169, S169, M169, H169, G169⟩ := id Vp0
  have hin169 : ¬ ((len - (1 : Int32)) < 0 ∨ cl169.slots.size ≤ ((len - (1 : Int32))).toNatClampNeg) := inb_of S169 (own_im1 len hl4 hlm)
  obtain ⟨T169, h169, X169, e169, W169, st169⟩ := stB X167 hx hZ e167 Ar169 (j := (len - (1 : Int32))) hin169 (g := (mkF m 84 (own_loc17 p0 p1 p2 p3 p4 len b167) [(.int (p3.toInt8.toInt32)), (.int (len - (1 : Int32))), (.ref b167)])) rfl rfl (hb hby at_84)
  have V169 : Arv Z h169 b167 k167 .byte len (vs0.set ((len - (1 : Int32))).toNatClampNeg (.int (nar .byte (p3.toInt8.toInt32)))) (.int (0 : Int32)) := Arv.set Ar169 q169 S169 M169 H169 G169 (fits_nar_byte _) W169 ((len - (1 : Int32))).toNatClampNeg rfl (own_ix (own_im1 len hl4 hlm) hvl0)
  have sz170 : n0 ≤ h169.size := Nat.le_trans sz168 (Keep.of_wr W169).1
  have N169 := Fr.snoc X169 N0 ge_b167
  obtain ⟨vs171, Vp171, hvl171⟩ : ∃ vs : List Value, Arv Z h169 b167 k167 .byte len vs (.int (0 : Int32)) ∧ vs.length = len.toNatClampNeg := ⟨_, V169, by rw [List.length_set]; exact hvl0⟩
  obtain ⟨cl172, Ar172, q172, S172, M172, H172, G172⟩ := id Vp171
  have hin172 : ¬ ((len - (2 : Int32)) < 0 ∨ cl172.slots.size ≤ ((len - (2 : Int32))).toNatClampNeg) := inb_of S172 (own_im2 len hl4 hlm)
  obtain ⟨T172, h172, X172, e172, W172, st172⟩ := stB X169 hx hZ e169 Ar172 (j := (len - (2 : Int32))) hin172 (g := (mkF m 96 (own_loc17 p0 p1 p2 p3 p4 len b167) [(.int ((p3 >>> ((8 : Int32) &&& 31)).toInt8.toInt32)), (.int (len - (2 : Int32))), (.ref b167)])) rfl rfl (hb hby at_96)
  have V172 : Arv Z h172 b167 k167 .byte len (vs171.set ((len - (2 : Int32))).toNatClampNeg (.int (nar .byte ((p3 >>> ((8 : Int32) &&& 31)).toInt8.toInt32)))) (.int (0 : Int32)) := Arv.set Ar172 q172 S172 M172 H172 G172 (fits_nar_byte _) W172 ((len - (2 : Int32))).toNatClampNeg rfl (own_ix (own_im2 len hl4 hlm) hvl171)
  have sz173 : n0 ≤ h172.size := Nat.le_trans sz170 (Keep.of_wr W172).1
  have N172 := Fr.snoc X172 N169 ge_b167
  obtain ⟨vs174, Vp174, hvl174⟩ : ∃ vs : List Value, Arv Z h172 b167 k167 .byte len vs (.int (0 : Int32)) ∧ vs.length = len.toNatClampNeg := ⟨_, V172, by rw [List.length_set]; exact hvl171⟩
  obtain ⟨T175, h175, L175, vs175, X175, e175, sz175, N175, x226, hvl175, st175⟩ : ∃ (T175 : State) (h175 : Heap) (L175 : List Loc) (vs175 : List Value), (Stand p l e room_1 s m #[(.int p0), (.int p1), (.int p2), (.int p3), (.int p4)] below meth c T175 L175 1 65545) ∧ (T175.heap = h175) ∧ (n0 ≤ h175.size) ∧ (Fr n0 L175) ∧ (Arv Z h175 b167 k167 .byte len vs175 (.int (0 : Int32))) ∧ (vs175.length = len.toNatClampNeg) ∧ (∀ target, Steps p.tables e below (T175.setTop (mkF m 191 (own_loc17 p0 p1 p2 p3 p4 len b167) [])) target → Steps p.tables e below (T172.setTop (mkF m 97 (own_loc17 p0 p1 p2 p3 p4 len b167) [])) target) := by
    by_cases hc176 : (p0 &&& (3 : Int32)) = (0 : Int32)
    · have cp178 : ∀ target, own_S p e below T172 (mkF m 105 (own_loc17 p0 p1 p2 p3 p4 len b167) [.int 4, (.int len)]) target → own_S p e below T172 (mkF m 97 (own_loc17 p0 p1 p2 p3 p4 len b167) []) target := by
        intro target kt
        show own_S p e below T172 (mkF m 97 (own_loc17 p0 p1 p2 p3 p4 len b167) []) _
        refine XS.iload X172.here hx rfl (hb hby at_97) rfl ?_
        show own_S p e below T172 (mkF m 99 (own_loc17 p0 p1 p2 p3 p4 len b167) [(.int (p0 &&& (3 : Int32)))]) _
        refine XS.ifNo X172.here hx rfl (hb hby at_99) rfl ((if0 _ _).trans (teq hc176).2) ?_
        show own_S p e below T172 (mkF m 102 (own_loc17 p0 p1 p2 p3 p4 len b167) []) _
        refine XS.iload X172.here hx rfl (hb hby at_102) rfl ?_
        show own_S p e below T172 (mkF m 104 (own_loc17 p0 p1 p2 p3 p4 len b167) [(.int len)]) _
        refine XS.iconst X172.here hx rfl (hb hby at_104) ?_
        exact kt
      by_cases hc177 : (4 : Int32) < len
      · obtain ⟨cl179, Ar179, q179, S179, M179, H179, G179⟩ := id Vp174
        have hin179 : ¬ ((4 : Int32) < 0 ∨ cl179.slots.size ≤ ((4 : Int32)).toNatClampNeg) := inb_of S179 ⟨by decide, own_lt_of (4 : Int32) (4 : Int32) len (by decide) hc177⟩
        obtain ⟨T179, h179, X179, e179, W179, st179⟩ := stB X172 hx hZ e172 Ar179 (j := (4 : Int32)) hin179 (g := (mkF m 114 (own_loc17 p0 p1 p2 p3 p4 len b167) [(.int (p4.toInt8.toInt32)), .int 4, (.ref b167)])) rfl rfl (hb hby at_114)
        have V179 : Arv Z h179 b167 k167 .byte len (vs174.set ((4 : Int32)).toNatClampNeg (.int (nar .byte (p4.toInt8.toInt32)))) (.int (0 : Int32)) := Arv.set Ar179 q179 S179 M179 H179 G179 (fits_nar_byte _) W179 ((4 : Int32)).toNatClampNeg rfl (own_ix ⟨by decide, own_lt_of (4 : Int32) (4 : Int32) len (by decide) hc177⟩ hvl174)
        have sz180 : n0 ≤ h179.size := Nat.le_trans sz173 (Keep.of_wr W179).1
        have N179 := Fr.snoc X179 N172 ge_b167
        obtain ⟨vs181, Vp181, hvl181⟩ : ∃ vs : List Value, Arv Z h179 b167 k167 .byte len vs (.int (0 : Int32)) ∧ vs.length = len.toNatClampNeg := ⟨_, V179, by rw [List.length_set]; exact hvl174⟩
        have cp183 : ∀ target, own_S p e below T179 (mkF m 118 (own_loc17 p0 p1 p2 p3 p4 len b167) [.int 5, (.int len)]) target → own_S p e below T172 (mkF m 97 (own_loc17 p0 p1 p2 p3 p4 len b167) []) target := by
          intro target kt
          show own_S p e below T172 (mkF m 97 (own_loc17 p0 p1 p2 p3 p4 len b167) []) _
          refine cp178 _ ?_
          show own_S p e below T172 (mkF m 105 (own_loc17 p0 p1 p2 p3 p4 len b167) [.int 4, (.int len)]) _
          refine XS.icmpNo X172.here hx rfl (hb hby at_105) rfl (tlt hc177).2.2.2 ?_
          show own_S p e below T172 (mkF m 108 (own_loc17 p0 p1 p2 p3 p4 len b167) []) _
          refine XS.aload X172.here hx rfl (hb hby at_108) rfl rfl ?_
          show own_S p e below T172 (mkF m 110 (own_loc17 p0 p1 p2 p3 p4 len b167) [(.ref b167)]) _
          refine XS.iconst X172.here hx rfl (hb hby at_110) ?_
          show own_S p e below T172 (mkF m 111 (own_loc17 p0 p1 p2 p3 p4 len b167) [.int 4, (.ref b167)]) _
          refine XS.iload X172.here hx rfl (hb hby at_111) rfl ?_
          show own_S p e below T172 (mkF m 113 (own_loc17 p0 p1 p2 p3 p4 len b167) [(.int p4), .int 4, (.ref b167)]) _
          refine XS.i2b X172.here hx rfl (hb hby at_113) rfl ?_
          show own_S p e below T172 (mkF m 114 (own_loc17 p0 p1 p2 p3 p4 len b167) [(.int (p4.toInt8.toInt32)), .int 4, (.ref b167)]) _
          refine st179 _ ?_
          show own_S p e below T179 (mkF m 115 (own_loc17 p0 p1 p2 p3 p4 len b167) []) _
          refine XS.iload X179.here hx rfl (hb hby at_115) rfl ?_
          show own_S p e below T179 (mkF m 117 (own_loc17 p0 p1 p2 p3 p4 len b167) [(.int len)]) _
          refine XS.iconst X179.here hx rfl (hb hby at_117) ?_
          exact kt
        by_cases hc182 : (5 : Int32) < len
        · obtain ⟨cl184, Ar184, q184, S184, M184, H184, G184⟩ := id Vp181
          have hin184 : ¬ ((5 : Int32) < 0 ∨ cl184.slots.size ≤ ((5 : Int32)).toNatClampNeg) := inb_of S184 ⟨by decide, own_lt_of (5 : Int32) (5 : Int32) len (by decide) hc182⟩
          obtain ⟨T184, h184, X184, e184, W184, st184⟩ := stB X179 hx hZ e179 Ar184 (j := (5 : Int32)) hin184 (g := (mkF m 130 (own_loc17 p0 p1 p2 p3 p4 len b167) [(.int ((p4 >>> ((8 : Int32) &&& 31)).toInt8.toInt32)), .int 5, (.ref b167)])) rfl rfl (hb hby at_130)
          have V184 : Arv Z h184 b167 k167 .byte len (vs181.set ((5 : Int32)).toNatClampNeg (.int (nar .byte ((p4 >>> ((8 : Int32) &&& 31)).toInt8.toInt32)))) (.int (0 : Int32)) := Arv.set Ar184 q184 S184 M184 H184 G184 (fits_nar_byte _) W184 ((5 : Int32)).toNatClampNeg rfl (own_ix ⟨by decide, own_lt_of (5 : Int32) (5 : Int32) len (by decide) hc182⟩ hvl181)
          have sz185 : n0 ≤ h184.size := Nat.le_trans sz180 (Keep.of_wr W184).1
          have N184 := Fr.snoc X184 N179 ge_b167
          obtain ⟨vs186, Vp186, hvl186⟩ : ∃ vs : List Value, Arv Z h184 b167 k167 .byte len vs (.int (0 : Int32)) ∧ vs.length = len.toNatClampNeg := ⟨_, V184, by rw [List.length_set]; exact hvl181⟩
          have cp188 : ∀ target, own_S p e below T184 (mkF m 135 (own_loc17 p0 p1 p2 p3 p4 len b167) [.int 6, (.int len)]) target → own_S p e below T172 (mkF m 97 (own_loc17 p0 p1 p2 p3 p4 len b167) []) target := by
            intro target kt
            show own_S p e below T172 (mkF m 97 (own_loc17 p0 p1 p2 p3 p4 len b167) []) _
            refine cp183 _ ?_
            show own_S p e below T179 (mkF m 118 (own_loc17 p0 p1 p2 p3 p4 len b167) [.int 5, (.int len)]) _
            refine XS.icmpNo X179.here hx rfl (hb hby at_118) rfl (tlt hc182).2.2.2 ?_
            show own_S p e below T179 (mkF m 121 (own_loc17 p0 p1 p2 p3 p4 len b167) []) _
            refine XS.aload X179.here hx rfl (hb hby at_121) rfl rfl ?_
            show own_S p e below T179 (mkF m 123 (own_loc17 p0 p1 p2 p3 p4 len b167) [(.ref b167)]) _
            refine XS.iconst X179.here hx rfl (hb hby at_123) ?_
            show own_S p e below T179 (mkF m 124 (own_loc17 p0 p1 p2 p3 p4 len b167) [.int 5, (.ref b167)]) _
            refine XS.iload X179.here hx rfl (hb hby at_124) rfl ?_
            show own_S p e below T179 (mkF m 126 (own_loc17 p0 p1 p2 p3 p4 len b167) [(.int p4), .int 5, (.ref b167)]) _
            refine XS.bipush X179.here hx rfl (hb hby at_126) ?_
            show own_S p e below T179 (mkF m 128 (own_loc17 p0 p1 p2 p3 p4 len b167) [.int 8, (.int p4), .int 5, (.ref b167)]) _
            refine XS.ishr X179.here hx rfl (hb hby at_128) rfl ?_
            show own_S p e below T179 (mkF m 129 (own_loc17 p0 p1 p2 p3 p4 len b167) [(.int (p4 >>> ((8 : Int32) &&& 31))), .int 5, (.ref b167)]) _
            refine XS.i2b X179.here hx rfl (hb hby at_129) rfl ?_
            show own_S p e below T179 (mkF m 130 (own_loc17 p0 p1 p2 p3 p4 len b167) [(.int ((p4 >>> ((8 : Int32) &&& 31)).toInt8.toInt32)), .int 5, (.ref b167)]) _
            refine st184 _ ?_
            show own_S p e below T184 (mkF m 131 (own_loc17 p0 p1 p2 p3 p4 len b167) []) _
            refine XS.iload X184.here hx rfl (hb hby at_131) rfl ?_
            show own_S p e below T184 (mkF m 133 (own_loc17 p0 p1 p2 p3 p4 len b167) [(.int len)]) _
            refine XS.bipush X184.here hx rfl (hb hby at_133) ?_
            exact kt
          by_cases hc187 : (6 : Int32) < len
          · obtain ⟨cl189, Ar189, q189, S189, M189, H189, G189⟩ := id Vp186
            have hin189 : ¬ ((6 : Int32) < 0 ∨ cl189.slots.size ≤ ((6 : Int32)).toNatClampNeg) := inb_of S189 ⟨by decide, own_lt_of (6 : Int32) (6 : Int32) len (by decide) hc187⟩
            obtain ⟨T189, h189, X189, e189, W189, st189⟩ := stB X184 hx hZ e184 Ar189 (j := (6 : Int32)) hin189 (g := (mkF m 148 (own_loc17 p0 p1 p2 p3 p4 len b167) [(.int ((p4 >>> ((16 : Int32) &&& 31)).toInt8.toInt32)), .int 6, (.ref b167)])) rfl rfl (hb hby at_148)
            have V189 : Arv Z h189 b167 k167 .byte len (vs186.set ((6 : Int32)).toNatClampNeg (.int (nar .byte ((p4 >>> ((16 : Int32) &&& 31)).toInt8.toInt32)))) (.int (0 : Int32)) := Arv.set Ar189 q189 S189 M189 H189 G189 (fits_nar_byte _) W189 ((6 : Int32)).toNatClampNeg rfl (own_ix ⟨by decide, own_lt_of (6 : Int32) (6 : Int32) len (by decide) hc187⟩ hvl186)
            have sz190 : n0 ≤ h189.size := Nat.le_trans sz185 (Keep.of_wr W189).1
            have N189 := Fr.snoc X189 N184 ge_b167
            obtain ⟨vs191, Vp191, hvl191⟩ : ∃ vs : List Value, Arv Z h189 b167 k167 .byte len vs (.int (0 : Int32)) ∧ vs.length = len.toNatClampNeg := ⟨_, V189, by rw [List.length_set]; exact hvl186⟩
            refine ⟨T189, h189, _, vs191, X189, e189, sz190, N189, Vp191, hvl191, fun target kt => ?_⟩
            show own_S p e below T172 (mkF m 97 (own_loc17 p0 p1 p2 p3 p4 len b167) []) _
            refine cp188 _ ?_
            show own_S p e below T184 (mkF m 135 (own_loc17 p0 p1 p2 p3 p4 len b167) [.int 6, (.int len)]) _
            refine XS.icmpNo X184.here hx rfl (hb hby at_135) rfl (tlt hc187).2.2.2 ?_
            show own_S p e below T184 (mkF m 138 (own_loc17 p0 p1 p2 p3 p4 len b167) []) _
            refine XS.aload X184.here hx rfl (hb hby at_138) rfl rfl ?_
            show own_S p e below T184 (mkF m 140 (own_loc17 p0 p1 p2 p3 p4 len b167) [(.ref b167)]) _
            refine XS.bipush X184.here hx rfl (hb hby at_140) ?_
            show own_S p e below T184 (mkF m 142 (own_loc17 p0 p1 p2 p3 p4 len b167) [.int 6, (.ref b167)]) _
            refine XS.iload X184.here hx rfl (hb hby at_142) rfl ?_
            show own_S p e below T184 (mkF m 144 (own_loc17 p0 p1 p2 p3 p4 len b167) [(.int p4), .int 6, (.ref b167)]) _
            refine XS.bipush X184.here hx rfl (hb hby at_144) ?_
            show own_S p e below T184 (mkF m 146 (own_loc17 p0 p1 p2 p3 p4 len b167) [.int 16, (.int p4), .int 6, (.ref b167)]) _
            refine XS.ishr X184.here hx rfl (hb hby at_146) rfl ?_
            show own_S p e below T184 (mkF m 147 (own_loc17 p0 p1 p2 p3 p4 len b167) [(.int (p4 >>> ((16 : Int32) &&& 31))), .int 6, (.ref b167)]) _
            refine XS.i2b X184.here hx rfl (hb hby at_147) rfl ?_
            show own_S p e below T184 (mkF m 148 (own_loc17 p0 p1 p2 p3 p4 len b167) [(.int ((p4 >>> ((16 : Int32) &&& 31)).toInt8.toInt32)), .int 6, (.ref b167)]) _
            refine st189 _ ?_
            show own_S p e below T189 (mkF m 149 (own_loc17 p0 p1 p2 p3 p4 len b167) []) _
            refine XS.goto X189.here hx rfl (pc0 := 149) (pc' := 191) rfl (hb hby at_149) (by decide) (by decide) ?_
            exact kt
          · refine ⟨T184, h184, _, vs186, X184, e184, sz185, N184, Vp186, hvl186, fun target kt => ?_⟩
            show own_S p e below T172 (mkF m 97 (own_loc17 p0 p1 p2 p3 p4 len b167) []) _
            refine cp188 _ ?_
            show own_S p e below T184 (mkF m 135 (own_loc17 p0 p1 p2 p3 p4 len b167) [.int 6, (.int len)]) _
            refine XS.icmpYes X184.here hx rfl (pc0 := 135) (pc' := 191) rfl (hb hby at_135) rfl (flt hc187).2.2.2 (by decide) (by decide) ?_
            exact kt
        · have cp193 : ∀ target, own_S p e below T179 (mkF m 135 (own_loc17 p0 p1 p2 p3 p4 len b167) [.int 6, (.int len)]) target → own_S p e below T172 (mkF m 97 (own_loc17 p0 p1 p2 p3 p4 len b167) []) target := by
            intro target kt
            show own_S p e below T172 (mkF m 97 (own_loc17 p0 p1 p2 p3 p4 len b167) []) _
            refine cp183 _ ?_
            show own_S p e below T179 (mkF m 118 (own_loc17 p0 p1 p2 p3 p4 len b167) [.int 5, (.int len)]) _
            refine XS.icmpYes X179.here hx rfl (pc0 := 118) (pc' := 131) rfl (hb hby at_118) rfl (flt hc182).2.2.2 (by decide) (by decide) ?_
            show own_S p e below T179 (mkF m 131 (own_loc17 p0 p1 p2 p3 p4 len b167) []) _
            refine XS.iload X179.here hx rfl (hb hby at_131) rfl ?_
            show own_S p e below T179 (mkF m 133 (own_loc17 p0 p1 p2 p3 p4 len b167) [(.int len)]) _
            refine XS.bipush X179.here hx rfl (hb hby at_133) ?_
            exact kt
          by_cases hc192 : (6 : Int32) < len
          · obtain ⟨cl194, Ar194, q194, S194, M194, H194, G194⟩ := id Vp181
            have hin194 : ¬ ((6 : Int32) < 0 ∨ cl194.slots.size ≤ ((6 : Int32)).toNatClampNeg) := inb_of S194 ⟨by decide, own_lt_of (6 : Int32) (6 : Int32) len (by decide) hc192⟩
            obtain ⟨T194, h194, X194, e194, W194, st194⟩ := stB X179 hx hZ e179 Ar194 (j := (6 : Int32)) hin194 (g := (mkF m 148 (own_loc17 p0 p1 p2 p3 p4 len b167) [(.int ((p4 >>> ((16 : Int32) &&& 31)).toInt8.toInt32)), .int 6, (.ref b167)])) rfl rfl (hb hby at_148)
            have V194 : Arv Z h194 b167 k167 .byte len (vs181.set ((6 : Int32)).toNatClampNeg (.int (nar .byte ((p4 >>> ((16 : Int32) &&& 31)).toInt8.toInt32)))) (.int (0 : Int32)) := Arv.set Ar194 q194 S194 M194 H194 G194 (fits_nar_byte _) W194 ((6 : Int32)).toNatClampNeg rfl (own_ix ⟨by decide, own_lt_of (6 : Int32) (6 : Int32) len (by decide) hc192⟩ hvl181)
            have sz195 : n0 ≤ h194.size := Nat.le_trans sz180 (Keep.of_wr W194).1
            have N194 := Fr.snoc X194 N179 ge_b167
            obtain ⟨vs196, Vp196, hvl196⟩ : ∃ vs : List Value, Arv Z h194 b167 k167 .byte len vs (.int (0 : Int32)) ∧ vs.length = len.toNatClampNeg := ⟨_, V194, by rw [List.length_set]; exact hvl181⟩
            refine ⟨T194, h194, _, vs196, X194, e194, sz195, N194, Vp196, hvl196, fun target kt => ?_⟩
            show own_S p e below T172 (mkF m 97 (own_loc17 p0 p1 p2 p3 p4 len b167) []) _
            refine cp193 _ ?_
            show own_S p e below T179 (mkF m 135 (own_loc17 p0 p1 p2 p3 p4 len b167) [.int 6, (.int len)]) _
            refine XS.icmpNo X179.here hx rfl (hb hby at_135) rfl (tlt hc192).2.2.2 ?_
            show own_S p e below T179 (mkF m 138 (own_loc17 p0 p1 p2 p3 p4 len b167) []) _
            refine XS.aload X179.here hx rfl (hb hby at_138) rfl rfl ?_
            show own_S p e below T179 (mkF m 140 (own_loc17 p0 p1 p2 p3 p4 len b167) [(.ref b167)]) _
            refine XS.bipush X179.here hx rfl (hb hby at_140) ?_
            show own_S p e below T179 (mkF m 142 (own_loc17 p0 p1 p2 p3 p4 len b167) [.int 6, (.ref b167)]) _
            refine XS.iload X179.here hx rfl (hb hby at_142) rfl ?_
            show own_S p e below T179 (mkF m 144 (own_loc17 p0 p1 p2 p3 p4 len b167) [(.int p4), .int 6, (.ref b167)]) _
            refine XS.bipush X179.here hx rfl (hb hby at_144) ?_
            show own_S p e below T179 (mkF m 146 (own_loc17 p0 p1 p2 p3 p4 len b167) [.int 16, (.int p4), .int 6, (.ref b167)]) _
            refine XS.ishr X179.here hx rfl (hb hby at_146) rfl ?_
            show own_S p e below T179 (mkF m 147 (own_loc17 p0 p1 p2 p3 p4 len b167) [(.int (p4 >>> ((16 : Int32) &&& 31))), .int 6, (.ref b167)]) _
            refine XS.i2b X179.here hx rfl (hb hby at_147) rfl ?_
            show own_S p e below T179 (mkF m 148 (own_loc17 p0 p1 p2 p3 p4 len b167) [(.int ((p4 >>> ((16 : Int32) &&& 31)).toInt8.toInt32)), .int 6, (.ref b167)]) _
            refine st194 _ ?_
            show own_S p e below T194 (mkF m 149 (own_loc17 p0 p1 p2 p3 p4 len b167) []) _
            refine XS.goto X194.here hx rfl (pc0 := 149) (pc' := 191) rfl (hb hby at_149) (by decide) (by decide) ?_
            exact kt
          · refine ⟨T179, h179, _, vs181, X179, e179, sz180, N179, Vp181, hvl181, fun target kt => ?_⟩
            show own_S p e below T172 (mkF m 97 (own_loc17 p0 p1 p2 p3 p4 len b167) []) _
            refine cp193 _ ?_
            show own_S p e below T179 (mkF m 135 (own_loc17 p0 p1 p2 p3 p4 len b167) [.int 6, (.int len)]) _
            refine XS.icmpYes X179.here hx rfl (pc0 := 135) (pc' := 191) rfl (hb hby at_135) rfl (flt hc192).2.2.2 (by decide) (by decide) ?_
            exact kt
      · have cp198 : ∀ target, own_S p e below T172 (mkF m 118 (own_loc17 p0 p1 p2 p3 p4 len b167) [.int 5, (.int len)]) target → own_S p e below T172 (mkF m 97 (own_loc17 p0 p1 p2 p3 p4 len b167) []) target := by
          intro target kt
          show own_S p e below T172 (mkF m 97 (own_loc17 p0 p1 p2 p3 p4 len b167) []) _
          refine cp178 _ ?_
          show own_S p e below T172 (mkF m 105 (own_loc17 p0 p1 p2 p3 p4 len b167) [.int 4, (.int len)]) _
          refine XS.icmpYes X172.here hx rfl (pc0 := 105) (pc' := 115) rfl (hb hby at_105) rfl (flt hc177).2.2.2 (by decide) (by decide) ?_
          show own_S p e below T172 (mkF m 115 (own_loc17 p0 p1 p2 p3 p4 len b167) []) _
          refine XS.iload X172.here hx rfl (hb hby at_115) rfl ?_
          show own_S p e below T172 (mkF m 117 (own_loc17 p0 p1 p2 p3 p4 len b167) [(.int len)]) _
          refine XS.iconst X172.here hx rfl (hb hby at_117) ?_
          exact kt
        by_cases hc197 : (5 : Int32) < len
        · obtain ⟨cl199, Ar199, q199, S199, M199, H199, G199⟩ := id Vp174
          have hin199 : ¬ ((5 : Int32) < 0 ∨ cl199.slots.size ≤ ((5 : Int32)).toNatClampNeg) := inb_of S199 ⟨by decide, own_lt_of (5 : Int32) (5 : Int32) len (by decide) hc197⟩
          obtain ⟨T199, h199, X199, e199, W199, st199⟩ := stB X172 hx hZ e172 Ar199 (j := (5 : Int32)) hin199 (g := (mkF m 130 (own_loc17 p0 p1 p2 p3 p4 len b167) [(.int ((p4 >>> ((8 : Int32) &&& 31)).toInt8.toInt32)), .int 5, (.ref b167)])) rfl rfl (hb hby at_130)
          have V199 : Arv Z h199 b167 k167 .byte len (vs174.set ((5 : Int32)).toNatClampNeg (.int (nar .byte ((p4 >>> ((8 : Int32) &&& 31)).toInt8.toInt32)))) (.int (0 : Int32)) := Arv.set Ar199 q199 S199 M199 H199 G199 (fits_nar_byte _) W199 ((5 : Int32)).toNatClampNeg rfl (own_ix ⟨by decide, own_lt_of (5 : Int32) (5 : Int32) len (by decide) hc197⟩ hvl174)
          have sz200 : n0 ≤ h199.size := Nat.le_trans sz173 (Keep.of_wr W199).1
          have N199 := Fr.snoc X199 N172 ge_b167
          obtain ⟨vs201, Vp201, hvl201⟩ : ∃ vs : List Value, Arv Z h199 b167 k167 .byte len vs (.int (0 : Int32)) ∧ vs.length = len.toNatClampNeg := ⟨_, V199, by rw [List.length_set]; exact hvl174⟩
          have cp203 : ∀ target, own_S p e below T199 (mkF m 135 (own_loc17 p0 p1 p2 p3 p4 len b167) [.int 6, (.int len)]) target → own_S p e below T172 (mkF m 97 (own_loc17 p0 p1 p2 p3 p4 len b167) []) target := by
            intro target kt
            show own_S p e below T172 (mkF m 97 (own_loc17 p0 p1 p2 p3 p4 len b167) []) _
            refine cp198 _ ?_
            show own_S p e below T172 (mkF m 118 (own_loc17 p0 p1 p2 p3 p4 len b167) [.int 5, (.int len)]) _
            refine XS.icmpNo X172.here hx rfl (hb hby at_118) rfl (tlt hc197).2.2.2 ?_
            show own_S p e below T172 (mkF m 121 (own_loc17 p0 p1 p2 p3 p4 len b167) []) _
            refine XS.aload X172.here hx rfl (hb hby at_121) rfl rfl ?_
            show own_S p e below T172 (mkF m 123 (own_loc17 p0 p1 p2 p3 p4 len b167) [(.ref b167)]) _
            refine XS.iconst X172.here hx rfl (hb hby at_123) ?_
            show own_S p e below T172 (mkF m 124 (own_loc17 p0 p1 p2 p3 p4 len b167) [.int 5, (.ref b167)]) _
            refine XS.iload X172.here hx rfl (hb hby at_124) rfl ?_
            show own_S p e below T172 (mkF m 126 (own_loc17 p0 p1 p2 p3 p4 len b167) [(.int p4), .int 5, (.ref b167)]) _
            refine XS.bipush X172.here hx rfl (hb hby at_126) ?_
            show own_S p e below T172 (mkF m 128 (own_loc17 p0 p1 p2 p3 p4 len b167) [.int 8, (.int p4), .int 5, (.ref b167)]) _
            refine XS.ishr X172.here hx rfl (hb hby at_128) rfl ?_
            show own_S p e below T172 (mkF m 129 (own_loc17 p0 p1 p2 p3 p4 len b167) [(.int (p4 >>> ((8 : Int32) &&& 31))), .int 5, (.ref b167)]) _
            refine XS.i2b X172.here hx rfl (hb hby at_129) rfl ?_
            show own_S p e below T172 (mkF m 130 (own_loc17 p0 p1 p2 p3 p4 len b167) [(.int ((p4 >>> ((8 : Int32) &&& 31)).toInt8.toInt32)), .int 5, (.ref b167)]) _
            refine st199 _ ?_
            show own_S p e below T199 (mkF m 131 (own_loc17 p0 p1 p2 p3 p4 len b167) []) _
            refine XS.iload X199.here hx rfl (hb hby at_131) rfl ?_
            show own_S p e below T199 (mkF m 133 (own_loc17 p0 p1 p2 p3 p4 len b167) [(.int len)]) _
            refine XS.bipush X199.here hx rfl (hb hby at_133) ?_
            exact kt
          by_cases hc202 : (6 : Int32) < len
          · obtain ⟨cl204, Ar204, q204, S204, M204, H204, G204⟩ := id Vp201
            have hin204 : ¬ ((6 : Int32) < 0 ∨ cl204.slots.size ≤ ((6 : Int32)).toNatClampNeg) := inb_of S204 ⟨by decide, own_lt_of (6 : Int32) (6 : Int32) len (by decide) hc202⟩
            obtain ⟨T204, h204, X204, e204, W204, st204⟩ := stB X199 hx hZ e199 Ar204 (j := (6 : Int32)) hin204 (g := (mkF m 148 (own_loc17 p0 p1 p2 p3 p4 len b167) [(.int ((p4 >>> ((16 : Int32) &&& 31)).toInt8.toInt32)), .int 6, (.ref b167)])) rfl rfl (hb hby at_148)
            have V204 : Arv Z h204 b167 k167 .byte len (vs201.set ((6 : Int32)).toNatClampNeg (.int (nar .byte ((p4 >>> ((16 : Int32) &&& 31)).toInt8.toInt32)))) (.int (0 : Int32)) := Arv.set Ar204 q204 S204 M204 H204 G204 (fits_nar_byte _) W204 ((6 : Int32)).toNatClampNeg rfl (own_ix ⟨by decide, own_lt_of (6 : Int32) (6 : Int32) len (by decide) hc202⟩ hvl201)
            have sz205 : n0 ≤ h204.size := Nat.le_trans sz200 (Keep.of_wr W204).1
            have N204 := Fr.snoc X204 N199 ge_b167
            obtain ⟨vs206, Vp206, hvl206⟩ : ∃ vs : List Value, Arv Z h204 b167 k167 .byte len vs (.int (0 : Int32)) ∧ vs.length = len.toNatClampNeg := ⟨_, V204, by rw [List.length_set]; exact hvl201⟩
            refine ⟨T204, h204, _, vs206, X204, e204, sz205, N204, Vp206, hvl206, fun target kt => ?_⟩
            show own_S p e below T172 (mkF m 97 (own_loc17 p0 p1 p2 p3 p4 len b167) []) _
            refine cp203 _ ?_
            show own_S p e below T199 (mkF m 135 (own_loc17 p0 p1 p2 p3 p4 len b167) [.int 6, (.int len)]) _
            refine XS.icmpNo X199.here hx rfl (hb hby at_135) rfl (tlt hc202).2.2.2 ?_
            show own_S p e below T199 (mkF m 138 (own_loc17 p0 p1 p2 p3 p4 len b167) []) _
            refine XS.aload X199.here hx rfl (hb hby at_138) rfl rfl ?_
            show own_S p e below T199 (mkF m 140 (own_loc17 p0 p1 p2 p3 p4 len b167) [(.ref b167)]) _
            refine XS.bipush X199.here hx rfl (hb hby at_140) ?_
            show own_S p e below T199 (mkF m 142 (own_loc17 p0 p1 p2 p3 p4 len b167) [.int 6, (.ref b167)]) _
            refine XS.iload X199.here hx rfl (hb hby at_142) rfl ?_
            show own_S p e below T199 (mkF m 144 (own_loc17 p0 p1 p2 p3 p4 len b167) [(.int p4), .int 6, (.ref b167)]) _
            refine XS.bipush X199.here hx rfl (hb hby at_144) ?_
            show own_S p e below T199 (mkF m 146 (own_loc17 p0 p1 p2 p3 p4 len b167) [.int 16, (.int p4), .int 6, (.ref b167)]) _
            refine XS.ishr X199.here hx rfl (hb hby at_146) rfl ?_
            show own_S p e below T199 (mkF m 147 (own_loc17 p0 p1 p2 p3 p4 len b167) [(.int (p4 >>> ((16 : Int32) &&& 31))), .int 6, (.ref b167)]) _
            refine XS.i2b X199.here hx rfl (hb hby at_147) rfl ?_
            show own_S p e below T199 (mkF m 148 (own_loc17 p0 p1 p2 p3 p4 len b167) [(.int ((p4 >>> ((16 : Int32) &&& 31)).toInt8.toInt32)), .int 6, (.ref b167)]) _
            refine st204 _ ?_
            show own_S p e below T204 (mkF m 149 (own_loc17 p0 p1 p2 p3 p4 len b167) []) _
            refine XS.goto X204.here hx rfl (pc0 := 149) (pc' := 191) rfl (hb hby at_149) (by decide) (by decide) ?_
            exact kt
          · refine ⟨T199, h199, _, vs201, X199, e199, sz200, N199, Vp201, hvl201, fun target kt => ?_⟩
            show own_S p e below T172 (mkF m 97 (own_loc17 p0 p1 p2 p3 p4 len b167) []) _
            refine cp203 _ ?_
            show own_S p e below T199 (mkF m 135 (own_loc17 p0 p1 p2 p3 p4 len b167) [.int 6, (.int len)]) _
            refine XS.icmpYes X199.here hx rfl (pc0 := 135) (pc' := 191) rfl (hb hby at_135) rfl (flt hc202).2.2.2 (by decide) (by decide) ?_
            exact kt
        · have cp208 : ∀ target, own_S p e below T172 (mkF m 135 (own_loc17 p0 p1 p2 p3 p4 len b167) [.int 6, (.int len)]) target → own_S p e below T172 (mkF m 97 (own_loc17 p0 p1 p2 p3 p4 len b167) []) target := by
            intro target kt
            show own_S p e below T172 (mkF m 97 (own_loc17 p0 p1 p2 p3 p4 len b167) []) _
            refine cp198 _ ?_
            show own_S p e below T172 (mkF m 118 (own_loc17 p0 p1 p2 p3 p4 len b167) [.int 5, (.int len)]) _
            refine XS.icmpYes X172.here hx rfl (pc0 := 118) (pc' := 131) rfl (hb hby at_118) rfl (flt hc197).2.2.2 (by decide) (by decide) ?_
            show own_S p e below T172 (mkF m 131 (own_loc17 p0 p1 p2 p3 p4 len b167) []) _
            refine XS.iload X172.here hx rfl (hb hby at_131) rfl ?_
            show own_S p e below T172 (mkF m 133 (own_loc17 p0 p1 p2 p3 p4 len b167) [(.int len)]) _
            refine XS.bipush X172.here hx rfl (hb hby at_133) ?_
            exact kt
          by_cases hc207 : (6 : Int32) < len
          · obtain ⟨cl209, Ar209, q209, S209, M209, H209, G209⟩ := id Vp174
            have hin209 : ¬ ((6 : Int32) < 0 ∨ cl209.slots.size ≤ ((6 : Int32)).toNatClampNeg) := inb_of S209 ⟨by decide, own_lt_of (6 : Int32) (6 : Int32) len (by decide) hc207⟩
            obtain ⟨T209, h209, X209, e209, W209, st209⟩ := stB X172 hx hZ e172 Ar209 (j := (6 : Int32)) hin209 (g := (mkF m 148 (own_loc17 p0 p1 p2 p3 p4 len b167) [(.int ((p4 >>> ((16 : Int32) &&& 31)).toInt8.toInt32)), .int 6, (.ref b167)])) rfl rfl (hb hby at_148)
            have V209 : Arv Z h209 b167 k167 .byte len (vs174.set ((6 : Int32)).toNatClampNeg (.int (nar .byte ((p4 >>> ((16 : Int32) &&& 31)).toInt8.toInt32)))) (.int (0 : Int32)) := Arv.set Ar209 q209 S209 M209 H209 G209 (fits_nar_byte _) W209 ((6 : Int32)).toNatClampNeg rfl (own_ix ⟨by decide, own_lt_of (6 : Int32) (6 : Int32) len (by decide) hc207⟩ hvl174)
            have sz210 : n0 ≤ h209.size := Nat.le_trans sz173 (Keep.of_wr W209).1
            have N209 := Fr.snoc X209 N172 ge_b167
            obtain ⟨vs211, Vp211, hvl211⟩ : ∃ vs : List Value, Arv Z h209 b167 k167 .byte len vs (.int (0 : Int32)) ∧ vs.length = len.toNatClampNeg := ⟨_, V209, by rw [List.length_set]; exact hvl174⟩
            refine ⟨T209, h209, _, vs211, X209, e209, sz210, N209, Vp211, hvl211, fun target kt => ?_⟩
            show own_S p e below T172 (mkF m 97 (own_loc17 p0 p1 p2 p3 p4 len b167) []) _
            refine cp208 _ ?_
            show own_S p e below T172 (mkF m 135 (own_loc17 p0 p1 p2 p3 p4 len b167) [.int 6, (.int len)]) _
            refine XS.icmpNo X172.here hx rfl (hb hby at_135) rfl (tlt hc207).2.2.2 ?_
            show own_S p e below T172 (mkF m 138 (own_loc17 p0 p1 p2 p3 p4 len b167) []) _
            refine XS.aload X172.here hx rfl (hb hby at_138) rfl rfl ?_
            show own_S p e below T172 (mkF m 140 (own_loc17 p0 p1 p2 p3 p4 len b167) [(.ref b167)]) _
            refine XS.bipush X172.here hx rfl (hb hby at_140) ?_
            show own_S p e below T172 (mkF m 142 (own_loc17 p0 p1 p2 p3 p4 len b167) [.int 6, (.ref b167)]) _
            refine XS.iload X172.here hx rfl (hb hby at_142) rfl ?_
            show own_S p e below T172 (mkF m 144 (own_loc17 p0 p1 p2 p3 p4 len b167) [(.int p4), .int 6, (.ref b167)]) _
            refine XS.bipush X172.here hx rfl (hb hby at_144) ?_
            show own_S p e below T172 (mkF m 146 (own_loc17 p0 p1 p2 p3 p4 len b167) [.int 16, (.int p4), .int 6, (.ref b167)]) _
            refine XS.ishr X172.here hx rfl (hb hby at_146) rfl ?_
            show own_S p e below T172 (mkF m 147 (own_loc17 p0 p1 p2 p3 p4 len b167) [(.int (p4 >>> ((16 : Int32) &&& 31))), .int 6, (.ref b167)]) _
            refine XS.i2b X172.here hx rfl (hb hby at_147) rfl ?_
            show own_S p e below T172 (mkF m 148 (own_loc17 p0 p1 p2 p3 p4 len b167) [(.int ((p4 >>> ((16 : Int32) &&& 31)).toInt8.toInt32)), .int 6, (.ref b167)]) _
            refine st209 _ ?_
            show own_S p e below T209 (mkF m 149 (own_loc17 p0 p1 p2 p3 p4 len b167) []) _
            refine XS.goto X209.here hx rfl (pc0 := 149) (pc' := 191) rfl (hb hby at_149) (by decide) (by decide) ?_
            exact kt
          · refine ⟨T172, h172, _, vs174, X172, e172, sz173, N172, Vp174, hvl174, fun target kt => ?_⟩
            show own_S p e below T172 (mkF m 97 (own_loc17 p0 p1 p2 p3 p4 len b167) []) _
            refine cp208 _ ?_
            show own_S p e below T172 (mkF m 135 (own_loc17 p0 p1 p2 p3 p4 len b167) [.int 6, (.int len)]) _
            refine XS.icmpYes X172.here hx rfl (pc0 := 135) (pc' := 191) rfl (hb hby at_135) rfl (flt hc207).2.2.2 (by decide) (by decide) ?_
            exact kt
    · have cp213 : ∀ target, own_S p e below T172 (mkF m 155 (own_loc17 p0 p1 p2 p3 p4 len b167) [.int 1, (.int (p0 &&& (3 : Int32)))]) target → own_S p e below T172 (mkF m 97 (own_loc17 p0 p1 p2 p3 p4 len b167) []) target := by
        intro target kt
        show own_S p e below T172 (mkF m 97 (own_loc17 p0 p1 p2 p3 p4 len b167) []) _
        refine XS.iload X172.here hx rfl (hb hby at_97) rfl ?_
        show own_S p e below T172 (mkF m 99 (own_loc17 p0 p1 p2 p3 p4 len b167) [(.int (p0 &&& (3 : Int32)))]) _
        refine XS.ifYes X172.here hx rfl (pc0 := 99) (pc' := 152) rfl (hb hby at_99) rfl ((if0 _ _).trans (feq hc176).2) (by decide) (by decide) ?_
        show own_S p e below T172 (mkF m 152 (own_loc17 p0 p1 p2 p3 p4 len b167) []) _
        refine XS.iload X172.here hx rfl (hb hby at_152) rfl ?_
        show own_S p e below T172 (mkF m 154 (own_loc17 p0 p1 p2 p3 p4 len b167) [(.int (p0 &&& (3 : Int32)))]) _
        refine XS.iconst X172.here hx rfl (hb hby at_154) ?_
        exact kt
      by_cases hc212 : (p0 &&& (3 : Int32)) = (1 : Int32)
      · obtain ⟨cl214, Ar214, q214, S214, M214, H214, G214⟩ := id Vp174
        have hin214 : ¬ ((4 : Int32) < 0 ∨ cl214.slots.size ≤ ((4 : Int32)).toNatClampNeg) := inb_of S214 (own_i1 p0 p2 len h_len (4 : Int32) hc176 hc212 (by decide) (by decide))
        obtain ⟨T214, h214, X214, e214, W214, st214⟩ := stB X172 hx hZ e172 Ar214 (j := (4 : Int32)) hin214 (g := (mkF m 164 (own_loc17 p0 p1 p2 p3 p4 len b167) [(.int ((p2 &&& (255 : Int32)).toInt8.toInt32)), .int 4, (.ref b167)])) rfl rfl (hb hby at_164)
        have V214 : Arv Z h214 b167 k167 .byte len (vs174.set ((4 : Int32)).toNatClampNeg (.int (nar .byte ((p2 &&& (255 : Int32)).toInt8.toInt32)))) (.int (0 : Int32)) := Arv.set Ar214 q214 S214 M214 H214 G214 (fits_nar_byte _) W214 ((4 : Int32)).toNatClampNeg rfl (own_ix (own_i1 p0 p2 len h_len (4 : Int32) hc176 hc212 (by decide) (by decide)) hvl174)
        have sz215 : n0 ≤ h214.size := Nat.le_trans sz173 (Keep.of_wr W214).1
        have N214 := Fr.snoc X214 N172 ge_b167
        obtain ⟨vs216, Vp216, hvl216⟩ : ∃ vs : List Value, Arv Z h214 b167 k167 .byte len vs (.int (0 : Int32)) ∧ vs.length = len.toNatClampNeg := ⟨_, V214, by rw [List.length_set]; exact hvl174⟩
        refine ⟨T214, h214, _, vs216, X214, e214, sz215, N214, Vp216, hvl216, fun target kt => ?_⟩
        show own_S p e below T172 (mkF m 97 (own_loc17 p0 p1 p2 p3 p4 len b167) []) _
        refine cp213 _ ?_
        show own_S p e below T172 (mkF m 155 (own_loc17 p0 p1 p2 p3 p4 len b167) [.int 1, (.int (p0 &&& (3 : Int32)))]) _
        refine XS.icmpNo X172.here hx rfl (hb hby at_155) rfl (teq hc212).2 ?_
        show own_S p e below T172 (mkF m 158 (own_loc17 p0 p1 p2 p3 p4 len b167) []) _
        refine XS.aload X172.here hx rfl (hb hby at_158) rfl rfl ?_
        show own_S p e below T172 (mkF m 160 (own_loc17 p0 p1 p2 p3 p4 len b167) [(.ref b167)]) _
        refine XS.iconst X172.here hx rfl (hb hby at_160) ?_
        show own_S p e below T172 (mkF m 161 (own_loc17 p0 p1 p2 p3 p4 len b167) [.int 4, (.ref b167)]) _
        refine XS.iload X172.here hx rfl (hb hby at_161) rfl ?_
        show own_S p e below T172 (mkF m 163 (own_loc17 p0 p1 p2 p3 p4 len b167) [(.int (p2 &&& (255 : Int32))), .int 4, (.ref b167)]) _
        refine XS.i2b X172.here hx rfl (hb hby at_163) rfl ?_
        show own_S p e below T172 (mkF m 164 (own_loc17 p0 p1 p2 p3 p4 len b167) [(.int ((p2 &&& (255 : Int32)).toInt8.toInt32)), .int 4, (.ref b167)]) _
        refine st214 _ ?_
        show own_S p e below T214 (mkF m 165 (own_loc17 p0 p1 p2 p3 p4 len b167) []) _
        refine XS.goto X214.here hx rfl (pc0 := 165) (pc' := 191) rfl (hb hby at_165) (by decide) (by decide) ?_
        exact kt
      · obtain ⟨cl217, Ar217, q217, S217, M217, H217, G217⟩ := id Vp174
        have hin217 : ¬ ((4 : Int32) < 0 ∨ cl217.slots.size ≤ ((4 : Int32)).toNatClampNeg) := inb_of S217 (own_i2 p0 p2 len h_len (4 : Int32) hc176 hc212 (by decide) (by decide))
        obtain ⟨T217, h217, X217, e217, W217, st217⟩ := stB X172 hx hZ e172 Ar217 (j := (4 : Int32)) hin217 (g := (mkF m 172 (own_loc17 p0 p1 p2 p3 p4 len b167) [.int 0, .int 4, (.ref b167)])) rfl rfl (hb hby at_172)
        have V217 : Arv Z h217 b167 k167 .byte len (vs174.set ((4 : Int32)).toNatClampNeg (.int (nar .byte (0 : Int32)))) (.int (0 : Int32)) := Arv.set Ar217 q217 S217 M217 H217 G217 (fits_nar_byte _) W217 ((4 : Int32)).toNatClampNeg rfl (own_ix (own_i2 p0 p2 len h_len (4 : Int32) hc176 hc212 (by decide) (by decide)) hvl174)
        have sz218 : n0 ≤ h217.size := Nat.le_trans sz173 (Keep.of_wr W217).1
        have N217 := Fr.snoc X217 N172 ge_b167
        obtain ⟨vs219, Vp219, hvl219⟩ : ∃ vs : List Value, Arv Z h217 b167 k167 .byte len vs (.int (0 : Int32)) ∧ vs.length = len.toNatClampNeg := ⟨_, V217, by rw [List.length_set]; exact hvl174⟩
        obtain ⟨cl220, Ar220, q220, S220, M220, H220, G220⟩ := id Vp219
        have hin220 : ¬ ((5 : Int32) < 0 ∨ cl220.slots.size ≤ ((5 : Int32)).toNatClampNeg) := inb_of S220 (own_i2 p0 p2 len h_len (5 : Int32) hc176 hc212 (by decide) (by decide))
        obtain ⟨T220, h220, X220, e220, W220, st220⟩ := stB X217 hx hZ e217 Ar220 (j := (5 : Int32)) hin220 (g := (mkF m 182 (own_loc17 p0 p1 p2 p3 p4 len b167) [(.int (((p2 &&& (65535 : Int32)) >>> ((8 : Int32) &&& 31)).toInt8.toInt32)), .int 5, (.ref b167)])) rfl rfl (hb hby at_182)
        have V220 : Arv Z h220 b167 k167 .byte len (vs219.set ((5 : Int32)).toNatClampNeg (.int (nar .byte (((p2 &&& (65535 : Int32)) >>> ((8 : Int32) &&& 31)).toInt8.toInt32)))) (.int (0 : Int32)) := Arv.set Ar220 q220 S220 M220 H220 G220 (fits_nar_byte _) W220 ((5 : Int32)).toNatClampNeg rfl (own_ix (own_i2 p0 p2 len h_len (5 : Int32) hc176 hc212 (by decide) (by decide)) hvl219)
        have sz221 : n0 ≤ h220.size := Nat.le_trans sz218 (Keep.of_wr W220).1
        have N220 := Fr.snoc X220 N217 ge_b167
        obtain ⟨vs222, Vp222, hvl222⟩ : ∃ vs : List Value, Arv Z h220 b167 k167 .byte len vs (.int (0 : Int32)) ∧ vs.length = len.toNatClampNeg := ⟨_, V220, by rw [List.length_set]; exact hvl219⟩
        obtain ⟨cl223, Ar223, q223, S223, M223, H223, G223⟩ := id Vp222
        have hin223 : ¬ ((6 : Int32) < 0 ∨ cl223.slots.size ≤ ((6 : Int32)).toNatClampNeg) := inb_of S223 (own_i2 p0 p2 len h_len (6 : Int32) hc176 hc212 (by decide) (by decide))
        obtain ⟨T223, h223, X223, e223, W223, st223⟩ := stB X220 hx hZ e220 Ar223 (j := (6 : Int32)) hin223 (g := (mkF m 190 (own_loc17 p0 p1 p2 p3 p4 len b167) [(.int ((p2 &&& (65535 : Int32)).toInt8.toInt32)), .int 6, (.ref b167)])) rfl rfl (hb hby at_190)
        have V223 : Arv Z h223 b167 k167 .byte len (vs222.set ((6 : Int32)).toNatClampNeg (.int (nar .byte ((p2 &&& (65535 : Int32)).toInt8.toInt32)))) (.int (0 : Int32)) := Arv.set Ar223 q223 S223 M223 H223 G223 (fits_nar_byte _) W223 ((6 : Int32)).toNatClampNeg rfl (own_ix (own_i2 p0 p2 len h_len (6 : Int32) hc176 hc212 (by decide) (by decide)) hvl222)
        have sz224 : n0 ≤ h223.size := Nat.le_trans sz221 (Keep.of_wr W223).1
        have N223 := Fr.snoc X223 N220 ge_b167
        obtain ⟨vs225, Vp225, hvl225⟩ : ∃ vs : List Value, Arv Z h223 b167 k167 .byte len vs (.int (0 : Int32)) ∧ vs.length = len.toNatClampNeg := ⟨_, V223, by rw [List.length_set]; exact hvl222⟩
        refine ⟨T223, h223, _, vs225, X223, e223, sz224, N223, Vp225, hvl225, fun target kt => ?_⟩
        show own_S p e below T172 (mkF m 97 (own_loc17 p0 p1 p2 p3 p4 len b167) []) _
        refine cp213 _ ?_
        show own_S p e below T172 (mkF m 155 (own_loc17 p0 p1 p2 p3 p4 len b167) [.int 1, (.int (p0 &&& (3 : Int32)))]) _
        refine XS.icmpYes X172.here hx rfl (pc0 := 155) (pc' := 168) rfl (hb hby at_155) rfl (feq hc212).2 (by decide) (by decide) ?_
        show own_S p e below T172 (mkF m 168 (own_loc17 p0 p1 p2 p3 p4 len b167) []) _
        refine XS.aload X172.here hx rfl (hb hby at_168) rfl rfl ?_
        show own_S p e below T172 (mkF m 170 (own_loc17 p0 p1 p2 p3 p4 len b167) [(.ref b167)]) _
        refine XS.iconst X172.here hx rfl (hb hby at_170) ?_
        show own_S p e below T172 (mkF m 171 (own_loc17 p0 p1 p2 p3 p4 len b167) [.int 4, (.ref b167)]) _
        refine XS.iconst X172.here hx rfl (hb hby at_171) ?_
        show own_S p e below T172 (mkF m 172 (own_loc17 p0 p1 p2 p3 p4 len b167) [.int 0, .int 4, (.ref b167)]) _
        refine st217 _ ?_
        show own_S p e below T217 (mkF m 173 (own_loc17 p0 p1 p2 p3 p4 len b167) []) _
        refine XS.aload X217.here hx rfl (hb hby at_173) rfl rfl ?_
        show own_S p e below T217 (mkF m 175 (own_loc17 p0 p1 p2 p3 p4 len b167) [(.ref b167)]) _
        refine XS.iconst X217.here hx rfl (hb hby at_175) ?_
        show own_S p e below T217 (mkF m 176 (own_loc17 p0 p1 p2 p3 p4 len b167) [.int 5, (.ref b167)]) _
        refine XS.iload X217.here hx rfl (hb hby at_176) rfl ?_
        show own_S p e below T217 (mkF m 178 (own_loc17 p0 p1 p2 p3 p4 len b167) [(.int (p2 &&& (65535 : Int32))), .int 5, (.ref b167)]) _
        refine XS.bipush X217.here hx rfl (hb hby at_178) ?_
        show own_S p e below T217 (mkF m 180 (own_loc17 p0 p1 p2 p3 p4 len b167) [.int 8, (.int (p2 &&& (65535 : Int32))), .int 5, (.ref b167)]) _
        refine XS.ishr X217.here hx rfl (hb hby at_180) rfl ?_
        show own_S p e below T217 (mkF m 181 (own_loc17 p0 p1 p2 p3 p4 len b167) [(.int ((p2 &&& (65535 : Int32)) >>> ((8 : Int32) &&& 31))), .int 5, (.ref b167)]) _
        refine XS.i2b X217.here hx rfl (hb hby at_181) rfl ?_
        show own_S p e below T217 (mkF m 182 (own_loc17 p0 p1 p2 p3 p4 len b167) [(.int (((p2 &&& (65535 : Int32)) >>> ((8 : Int32) &&& 31)).toInt8.toInt32)), .int 5, (.ref b167)]) _
        refine st220 _ ?_
        show own_S p e below T220 (mkF m 183 (own_loc17 p0 p1 p2 p3 p4 len b167) []) _
        refine XS.aload X220.here hx rfl (hb hby at_183) rfl rfl ?_
        show own_S p e below T220 (mkF m 185 (own_loc17 p0 p1 p2 p3 p4 len b167) [(.ref b167)]) _
        refine XS.bipush X220.here hx rfl (hb hby at_185) ?_
        show own_S p e below T220 (mkF m 187 (own_loc17 p0 p1 p2 p3 p4 len b167) [.int 6, (.ref b167)]) _
        refine XS.iload X220.here hx rfl (hb hby at_187) rfl ?_
        show own_S p e below T220 (mkF m 189 (own_loc17 p0 p1 p2 p3 p4 len b167) [(.int (p2 &&& (65535 : Int32))), .int 6, (.ref b167)]) _
        refine XS.i2b X220.here hx rfl (hb hby at_189) rfl ?_
        show own_S p e below T220 (mkF m 190 (own_loc17 p0 p1 p2 p3 p4 len b167) [(.int ((p2 &&& (65535 : Int32)).toInt8.toInt32)), .int 6, (.ref b167)]) _
        refine st223 _ ?_
        exact kt
  obtain ⟨cl227, Ar227, q227, S227, M227, H227, G227⟩ := id x226
  have hin227 : ¬ ((0 : Int32) < 0 ∨ cl227.slots.size ≤ ((0 : Int32)).toNatClampNeg) := inb_of S227 (own_in (0 : Int32) len (by decide) (by have : (0 : Int32).toInt = 0 := rfl; omega))
  obtain ⟨T227, h227, X227, e227, W227, st227⟩ := stB X175 hx hZ e175 Ar227 (j := (0 : Int32)) hin227 (g := (mkF m 196 (own_loc17 p0 p1 p2 p3 p4 len b167) [(.int (p1.toInt8.toInt32)), .int 0, (.ref b167)])) rfl rfl (hb hby at_196)
  have V227 : Arv Z h227 b167 k167 .byte len (vs175.set ((0 : Int32)).toNatClampNeg (.int (nar .byte (p1.toInt8.toInt32)))) (.int (0 : Int32)) := Arv.set Ar227 q227 S227 M227 H227 G227 (fits_nar_byte _) W227 ((0 : Int32)).toNatClampNeg rfl (own_ix (own_in (0 : Int32) len (by decide) (by have : (0 : Int32).toInt = 0 := rfl; omega)) hvl175)
  have sz228 : n0 ≤ h227.size := Nat.le_trans sz175 (Keep.of_wr W227).1
  have N227 := Fr.snoc X227 N175 ge_b167
  obtain ⟨vs229, Vp229, hvl229⟩ : ∃ vs : List Value, Arv Z h227 b167 k167 .byte len vs (.int (0 : Int32)) ∧ vs.length = len.toNatClampNeg := ⟨_, V227, by rw [List.length_set]; exact hvl175⟩
  obtain ⟨cl230, Ar230, q230, S230, M230, H230, G230⟩ := id Vp229
  have hin230 : ¬ ((1 : Int32) < 0 ∨ cl230.slots.size ≤ ((1 : Int32)).toNatClampNeg) := inb_of S230 (own_in (1 : Int32) len (by decide) (by have : (1 : Int32).toInt = 1 := rfl; omega))
  obtain ⟨T230, h230, X230, e230, W230, st230⟩ := stB X227 hx hZ e227 Ar230 (j := (1 : Int32)) hin230 (g := (mkF m 205 (own_loc17 p0 p1 p2 p3 p4 len b167) [(.int ((p1 >>> ((8 : Int32) &&& 31)).toInt8.toInt32)), .int 1, (.ref b167)])) rfl rfl (hb hby at_205)
  have V230 : Arv Z h230 b167 k167 .byte len (vs229.set ((1 : Int32)).toNatClampNeg (.int (nar .byte ((p1 >>> ((8 : Int32) &&& 31)).toInt8.toInt32)))) (.int (0 : Int32)) := Arv.set Ar230 q230 S230 M230 H230 G230 (fits_nar_byte _) W230 ((1 : Int32)).toNatClampNeg rfl (own_ix (own_in (1 : Int32) len (by decide) (by have : (1 : Int32).toInt = 1 := rfl; omega)) hvl229)
  have sz231 : n0 ≤ h230.size := Nat.le_trans sz228 (Keep.of_wr W230).1
  have N230 := Fr.snoc X230 N227 ge_b167
  obtain ⟨vs232, Vp232, hvl232⟩ : ∃ vs : List Value, Arv Z h230 b167 k167 .byte len vs (.int (0 : Int32)) ∧ vs.length = len.toNatClampNeg := ⟨_, V230, by rw [List.length_set]; exact hvl229⟩
  obtain ⟨cl233, Ar233, q233, S233, M233, H233, G233⟩ := id Vp232
  have hin233 : ¬ ((2 : Int32) < 0 ∨ cl233.slots.size ≤ ((2 : Int32)).toNatClampNeg) := inb_of S233 (own_in (2 : Int32) len (by decide) (by have : (2 : Int32).toInt = 2 := rfl; omega))
  obtain ⟨T233, h233, X233, e233, W233, st233⟩ := stB X230 hx hZ e230 Ar233 (j := (2 : Int32)) hin233 (g := (mkF m 214 (own_loc17 p0 p1 p2 p3 p4 len b167) [(.int ((p1 >>> ((16 : Int32) &&& 31)).toInt8.toInt32)), .int 2, (.ref b167)])) rfl rfl (hb hby at_214)
  have V233 : Arv Z h233 b167 k167 .byte len (vs232.set ((2 : Int32)).toNatClampNeg (.int (nar .byte ((p1 >>> ((16 : Int32) &&& 31)).toInt8.toInt32)))) (.int (0 : Int32)) := Arv.set Ar233 q233 S233 M233 H233 G233 (fits_nar_byte _) W233 ((2 : Int32)).toNatClampNeg rfl (own_ix (own_in (2 : Int32) len (by decide) (by have : (2 : Int32).toInt = 2 := rfl; omega)) hvl232)
  have sz234 : n0 ≤ h233.size := Nat.le_trans sz231 (Keep.of_wr W233).1
  have N233 := Fr.snoc X233 N230 ge_b167
  obtain ⟨vs235, Vp235, hvl235⟩ : ∃ vs : List Value, Arv Z h233 b167 k167 .byte len vs (.int (0 : Int32)) ∧ vs.length = len.toNatClampNeg := ⟨_, V233, by rw [List.length_set]; exact hvl232⟩
  obtain ⟨cl236, Ar236, q236, S236, M236, H236, G236⟩ := id Vp235
  have hin236 : ¬ ((3 : Int32) < 0 ∨ cl236.slots.size ≤ ((3 : Int32)).toNatClampNeg) := inb_of S236 (own_in (3 : Int32) len (by decide) (by have : (3 : Int32).toInt = 3 := rfl; omega))
  obtain ⟨T236, h236, X236, e236, W236, st236⟩ := stB X233 hx hZ e233 Ar236 (j := (3 : Int32)) hin236 (g := (mkF m 223 (own_loc17 p0 p1 p2 p3 p4 len b167) [(.int ((p1 >>> ((24 : Int32) &&& 31)).toInt8.toInt32)), .int 3, (.ref b167)])) rfl rfl (hb hby at_223)
  have V236 : Arv Z h236 b167 k167 .byte len (vs235.set ((3 : Int32)).toNatClampNeg (.int (nar .byte ((p1 >>> ((24 : Int32) &&& 31)).toInt8.toInt32)))) (.int (0 : Int32)) := Arv.set Ar236 q236 S236 M236 H236 G236 (fits_nar_byte _) W236 ((3 : Int32)).toNatClampNeg rfl (own_ix (own_in (3 : Int32) len (by decide) (by have : (3 : Int32).toInt = 3 := rfl; omega)) hvl235)
  have sz237 : n0 ≤ h236.size := Nat.le_trans sz234 (Keep.of_wr W236).1
  have N236 := Fr.snoc X236 N233 ge_b167
  obtain ⟨vs238, Vp238, hvl238⟩ : ∃ vs : List Value, Arv Z h236 b167 k167 .byte len vs (.int (0 : Int32)) ∧ vs.length = len.toNatClampNeg := ⟨_, V236, by rw [List.length_set]; exact hvl235⟩
  have sg241 : ∀ target, Steps p.tables e below (T236.setTop (mkF m 242 (own_loc17 p0 p1 p2 p3 p4 len b167) [(.int (own_b4 len vs238))])) target → Steps p.tables e below (T236.setTop (mkF m 224 (own_loc17 p0 p1 p2 p3 p4 len b167) [])) target := by
    intro target kt
    show own_S p e below T236 (mkF m 224 (own_loc17 p0 p1 p2 p3 p4 len b167) []) _
    refine XS.iload X236.here hx rfl (hb hby at_224) rfl ?_
    show own_S p e below T236 (mkF m 226 (own_loc17 p0 p1 p2 p3 p4 len b167) [(.int len)]) _
    refine XS.iconst X236.here hx rfl (hb hby at_226) ?_
    by_cases hc239 : (4 : Int32) < len
    · show own_S p e below T236 (mkF m 227 (own_loc17 p0 p1 p2 p3 p4 len b167) [.int 4, (.int len)]) _
      refine XS.icmpNo X236.here hx rfl (hb hby at_227) rfl (tlt hc239).2.2.2 ?_
      show own_S p e below T236 (mkF m 230 (own_loc17 p0 p1 p2 p3 p4 len b167) []) _
      refine XS.aload X236.here hx rfl (hb hby at_230) rfl rfl ?_
      show own_S p e below T236 (mkF m 232 (own_loc17 p0 p1 p2 p3 p4 len b167) [(.ref b167)]) _
      refine XS.iconst X236.here hx rfl (hb hby at_232) ?_
      obtain ⟨cl240, Ar240, q240, S240, M240, H240, G240⟩ := id Vp238
      have hin240 : ¬ ((4 : Int32) < 0 ∨ cl240.slots.size ≤ ((4 : Int32)).toNatClampNeg) := inb_of S240 ⟨by decide, hc239⟩
      have hat240 : cl240.slots[((4 : Int32)).toNatClampNeg]? = some (.int (own_el vs238 (4 : Int32))) := Has.at H240 hin240 (own_el_at (G240 _ (Nat.lt_of_not_le fun y => hin240 (Or.inr y))))
      have ld240 := X236.baloadBytes hx (j := (4 : Int32)) (v := (.int (own_el vs238 (4 : Int32)))) (by rw [e236]; exact Ar240.1) (State.isArrayOf_alike hZ.alike Ar240.2.1) Ar240.2.2 hin240 hat240 (g := (mkF m 233 (own_loc17 p0 p1 p2 p3 p4 len b167) [.int 4, (.ref b167)])) rfl rfl (hb hby at_233)
      show own_S p e below T236 (mkF m 233 (own_loc17 p0 p1 p2 p3 p4 len b167) [.int 4, (.ref b167)]) _
      refine ld240 _ ?_
      show own_S p e below T236 (mkF m 234 (own_loc17 p0 p1 p2 p3 p4 len b167) [(.int (own_el vs238 (4 : Int32)))]) _
      refine XS.sipush X236.here hx rfl (hb hby at_234) ?_
      show own_S p e below T236 (mkF m 237 (own_loc17 p0 p1 p2 p3 p4 len b167) [.int 255, (.int (own_el vs238 (4 : Int32)))]) _
      refine XS.iand X236.here hx rfl (hb hby at_237) rfl ?_
      show own_S p e below T236 (mkF m 238 (own_loc17 p0 p1 p2 p3 p4 len b167) [(.int ((own_el vs238 (4 : Int32)) &&& (255 : Int32)))]) _
      refine XS.goto X236.here hx rfl (pc0 := 238) (pc' := 242) rfl (hb hby at_238) (by decide) (by decide) ?_
      show own_S p e below T236 (mkF m 242 (own_loc17 p0 p1 p2 p3 p4 len b167) [(.int ((own_el vs238 (4 : Int32)) &&& (255 : Int32)))]) _
      have kt := own_cast (P := fun z => Steps p.tables e below (T236.setTop (mkF m 242 (own_loc17 p0 p1 p2 p3 p4 len b167) [(.int z)])) target) (show (own_b4 len vs238) = ((own_el vs238 (4 : Int32)) &&& (255 : Int32)) from (by unfold own_b4; rw [if_pos hc239])) kt
      exact kt
    · show own_S p e below T236 (mkF m 227 (own_loc17 p0 p1 p2 p3 p4 len b167) [.int 4, (.int len)]) _
      refine XS.icmpYes X236.here hx rfl (pc0 := 227) (pc' := 241) rfl (hb hby at_227) rfl (flt hc239).2.2.2 (by decide) (by decide) ?_
      show own_S p e below T236 (mkF m 241 (own_loc17 p0 p1 p2 p3 p4 len b167) []) _
      refine XS.iconst X236.here hx rfl (hb hby at_241) ?_
      show own_S p e below T236 (mkF m 242 (own_loc17 p0 p1 p2 p3 p4 len b167) [.int 0]) _
      have kt := own_cast (P := fun z => Steps p.tables e below (T236.setTop (mkF m 242 (own_loc17 p0 p1 p2 p3 p4 len b167) [(.int z)])) target) (show (own_b4 len vs238) = (0 : Int32) from (by unfold own_b4; rw [if_neg hc239])) kt
      exact kt
  have sg245 : ∀ target, Steps p.tables e below (T236.setTop (mkF m 276 (own_loc18 p0 p1 p2 p3 p4 len b167 vs238) [(.int (own_nn len vs238))])) target → Steps p.tables e below (T236.setTop (mkF m 244 (own_loc18 p0 p1 p2 p3 p4 len b167 vs238) [])) target := by
    intro target kt
    show own_S p e below T236 (mkF m 244 (own_loc18 p0 p1 p2 p3 p4 len b167 vs238) []) _
    refine XS.iload X236.here hx rfl (hb hby at_244) rfl ?_
    show own_S p e below T236 (mkF m 246 (own_loc18 p0 p1 p2 p3 p4 len b167 vs238) [(.int len)]) _
    refine XS.bipush X236.here hx rfl (hb hby at_246) ?_
    by_cases hc242 : (6 : Int32) < len
    · show own_S p e below T236 (mkF m 248 (own_loc18 p0 p1 p2 p3 p4 len b167 vs238) [.int 6, (.int len)]) _
      refine XS.icmpNo X236.here hx rfl (hb hby at_248) rfl (tlt hc242).2.2.2 ?_
      show own_S p e below T236 (mkF m 251 (own_loc18 p0 p1 p2 p3 p4 len b167 vs238) []) _
      refine XS.aload X236.here hx rfl (hb hby at_251) rfl rfl ?_
      show own_S p e below T236 (mkF m 253 (own_loc18 p0 p1 p2 p3 p4 len b167 vs238) [(.ref b167)]) _
      refine XS.iconst X236.here hx rfl (hb hby at_253) ?_
      obtain ⟨cl243, Ar243, q243, S243, M243, H243, G243⟩ := id Vp238
      have hin243 : ¬ ((5 : Int32) < 0 ∨ cl243.slots.size ≤ ((5 : Int32)).toNatClampNeg) := inb_of S243 ⟨by decide, own_lt_of (5 : Int32) (6 : Int32) len (by decide) hc242⟩
      have hat243 : cl243.slots[((5 : Int32)).toNatClampNeg]? = some (.int (own_el vs238 (5 : Int32))) := Has.at H243 hin243 (own_el_at (G243 _ (Nat.lt_of_not_le fun y => hin243 (Or.inr y))))
      have ld243 := X236.baloadBytes hx (j := (5 : Int32)) (v := (.int (own_el vs238 (5 : Int32)))) (by rw [e236]; exact Ar243.1) (State.isArrayOf_alike hZ.alike Ar243.2.1) Ar243.2.2 hin243 hat243 (g := (mkF m 254 (own_loc18 p0 p1 p2 p3 p4 len b167 vs238) [.int 5, (.ref b167)])) rfl rfl (hb hby at_254)
      show own_S p e below T236 (mkF m 254 (own_loc18 p0 p1 p2 p3 p4 len b167 vs238) [.int 5, (.ref b167)]) _
      refine ld243 _ ?_
      show own_S p e below T236 (mkF m 255 (own_loc18 p0 p1 p2 p3 p4 len b167 vs238) [(.int (own_el vs238 (5 : Int32)))]) _
      refine XS.sipush X236.here hx rfl (hb hby at_255) ?_
      show own_S p e below T236 (mkF m 258 (own_loc18 p0 p1 p2 p3 p4 len b167 vs238) [.int 255, (.int (own_el vs238 (5 : Int32)))]) _
      refine XS.iand X236.here hx rfl (hb hby at_258) rfl ?_
      show own_S p e below T236 (mkF m 259 (own_loc18 p0 p1 p2 p3 p4 len b167 vs238) [(.int ((own_el vs238 (5 : Int32)) &&& (255 : Int32)))]) _
      refine XS.bipush X236.here hx rfl (hb hby at_259) ?_
      show own_S p e below T236 (mkF m 261 (own_loc18 p0 p1 p2 p3 p4 len b167 vs238) [.int 8, (.int ((own_el vs238 (5 : Int32)) &&& (255 : Int32)))]) _
      refine XS.ishl X236.here hx rfl (hb hby at_261) rfl ?_
      show own_S p e below T236 (mkF m 262 (own_loc18 p0 p1 p2 p3 p4 len b167 vs238) [(.int (((own_el vs238 (5 : Int32)) &&& (255 : Int32)) <<< ((8 : Int32) &&& 31)))]) _
      refine XS.aload X236.here hx rfl (hb hby at_262) rfl rfl ?_
      show own_S p e below T236 (mkF m 264 (own_loc18 p0 p1 p2 p3 p4 len b167 vs238) [(.ref b167), (.int (((own_el vs238 (5 : Int32)) &&& (255 : Int32)) <<< ((8 : Int32) &&& 31)))]) _
      refine XS.bipush X236.here hx rfl (hb hby at_264) ?_
      obtain ⟨cl244, Ar244, q244, S244, M244, H244, G244⟩ := id Vp238
      have hin244 : ¬ ((6 : Int32) < 0 ∨ cl244.slots.size ≤ ((6 : Int32)).toNatClampNeg) := inb_of S244 ⟨by decide, own_lt_of (6 : Int32) (6 : Int32) len (by decide) hc242⟩
      have hat244 : cl244.slots[((6 : Int32)).toNatClampNeg]? = some (.int (own_el vs238 (6 : Int32))) := Has.at H244 hin244 (own_el_at (G244 _ (Nat.lt_of_not_le fun y => hin244 (Or.inr y))))
      have ld244 := X236.baloadBytes hx (j := (6 : Int32)) (v := (.int (own_el vs238 (6 : Int32)))) (by rw [e236]; exact Ar244.1) (State.isArrayOf_alike hZ.alike Ar244.2.1) Ar244.2.2 hin244 hat244 (g := (mkF m 266 (own_loc18 p0 p1 p2 p3 p4 len b167 vs238) [.int 6, (.ref b167), (.int (((own_el vs238 (5 : Int32)) &&& (255 : Int32)) <<< ((8 : Int32) &&& 31)))])) rfl rfl (hb hby at_266)
      show own_S p e below T236 (mkF m 266 (own_loc18 p0 p1 p2 p3 p4 len b167 vs238) [.int 6, (.ref b167), (.int (((own_el vs238 (5 : Int32)) &&& (255 : Int32)) <<< ((8 : Int32) &&& 31)))]) _
      refine ld244 _ ?_
      show own_S p e below T236 (mkF m 267 (own_loc18 p0 p1 p2 p3 p4 len b167 vs238) [(.int (own_el vs238 (6 : Int32))), (.int (((own_el vs238 (5 : Int32)) &&& (255 : Int32)) <<< ((8 : Int32) &&& 31)))]) _
      refine XS.sipush X236.here hx rfl (hb hby at_267) ?_
      show own_S p e below T236 (mkF m 270 (own_loc18 p0 p1 p2 p3 p4 len b167 vs238) [.int 255, (.int (own_el vs238 (6 : Int32))), (.int (((own_el vs238 (5 : Int32)) &&& (255 : Int32)) <<< ((8 : Int32) &&& 31)))]) _
      refine XS.iand X236.here hx rfl (hb hby at_270) rfl ?_
      show own_S p e below T236 (mkF m 271 (own_loc18 p0 p1 p2 p3 p4 len b167 vs238) [(.int ((own_el vs238 (6 : Int32)) &&& (255 : Int32))), (.int (((own_el vs238 (5 : Int32)) &&& (255 : Int32)) <<< ((8 : Int32) &&& 31)))]) _
      refine XS.ior X236.here hx rfl (hb hby at_271) rfl ?_
      show own_S p e below T236 (mkF m 272 (own_loc18 p0 p1 p2 p3 p4 len b167 vs238) [(.int ((((own_el vs238 (5 : Int32)) &&& (255 : Int32)) <<< ((8 : Int32) &&& 31)) ||| ((own_el vs238 (6 : Int32)) &&& (255 : Int32))))]) _
      refine XS.goto X236.here hx rfl (pc0 := 272) (pc' := 276) rfl (hb hby at_272) (by decide) (by decide) ?_
      show own_S p e below T236 (mkF m 276 (own_loc18 p0 p1 p2 p3 p4 len b167 vs238) [(.int ((((own_el vs238 (5 : Int32)) &&& (255 : Int32)) <<< ((8 : Int32) &&& 31)) ||| ((own_el vs238 (6 : Int32)) &&& (255 : Int32))))]) _
      have kt := own_cast (P := fun z => Steps p.tables e below (T236.setTop (mkF m 276 (own_loc18 p0 p1 p2 p3 p4 len b167 vs238) [(.int z)])) target) (show (own_nn len vs238) = ((((own_el vs238 (5 : Int32)) &&& (255 : Int32)) <<< ((8 : Int32) &&& 31)) ||| ((own_el vs238 (6 : Int32)) &&& (255 : Int32))) from (by unfold own_nn; rw [if_pos hc242])) kt
      exact kt
    · show own_S p e below T236 (mkF m 248 (own_loc18 p0 p1 p2 p3 p4 len b167 vs238) [.int 6, (.int len)]) _
      refine XS.icmpYes X236.here hx rfl (pc0 := 248) (pc' := 275) rfl (hb hby at_248) rfl (flt hc242).2.2.2 (by decide) (by decide) ?_
      show own_S p e below T236 (mkF m 275 (own_loc18 p0 p1 p2 p3 p4 len b167 vs238) []) _
      refine XS.iconst X236.here hx rfl (hb hby at_275) ?_
      show own_S p e below T236 (mkF m 276 (own_loc18 p0 p1 p2 p3 p4 len b167 vs238) [.int 0]) _
      have kt := own_cast (P := fun z => Steps p.tables e below (T236.setTop (mkF m 276 (own_loc18 p0 p1 p2 p3 p4 len b167 vs238) [(.int z)])) target) (show (own_nn len vs238) = (0 : Int32) from (by unfold own_nn; rw [if_neg hc242])) kt
      exact kt
  obtain ⟨cl246, Ar246, q246, S246, M246, H246, G246⟩ := id Vp238
  have hin246 : ¬ ((len - (1 : Int32)) < 0 ∨ cl246.slots.size ≤ ((len - (1 : Int32))).toNatClampNeg) := inb_of S246 (own_im1 len hl4 hlm)
  have hat246 : cl246.slots[((len - (1 : Int32))).toNatClampNeg]? = some (.int (own_el vs238 (len - (1 : Int32)))) := Has.at H246 hin246 (own_el_at (G246 _ (Nat.lt_of_not_le fun y => hin246 (Or.inr y))))
  have ld246 := X236.baloadBytes hx (j := (len - (1 : Int32))) (v := (.int (own_el vs238 (len - (1 : Int32))))) (by rw [e236]; exact Ar246.1) (State.isArrayOf_alike hZ.alike Ar246.2.1) Ar246.2.2 hin246 hat246 (g := (mkF m 284 (own_loc19 p0 p1 p2 p3 p4 len b167 vs238) [(.int (len - (1 : Int32))), (.ref b167)])) rfl rfl (hb hby at_284)
  obtain ⟨cl247, Ar247, q247, S247, M247, H247, G247⟩ := id Vp238
  have hin247 : ¬ ((len - (2 : Int32)) < 0 ∨ cl247.slots.size ≤ ((len - (2 : Int32))).toNatClampNeg) := inb_of S247 (own_im2 len hl4 hlm)
  have hat247 : cl247.slots[((len - (2 : Int32))).toNatClampNeg]? = some (.int (own_el vs238 (len - (2 : Int32)))) := Has.at H247 hin247 (own_el_at (G247 _ (Nat.lt_of_not_le fun y => hin247 (Or.inr y))))
  have ld247 := X236.baloadBytes hx (j := (len - (2 : Int32))) (v := (.int (own_el vs238 (len - (2 : Int32))))) (by rw [e236]; exact Ar247.1) (State.isArrayOf_alike hZ.alike Ar247.2.1) Ar247.2.2 hin247 hat247 (g := (mkF m 297 (own_loc20 p0 p1 p2 p3 p4 len b167 vs238) [(.int (len - (2 : Int32))), (.ref b167)])) rfl rfl (hb hby at_297)
  obtain ⟨b4, h_b4⟩ : ∃ z : Int32, z = (own_b4 len vs238) := ⟨_, rfl⟩
  have sg248 : ∀ target, Steps p.tables e below (T236.setTop (mkF m 322 (own_loc26 p0 p1 p2 p3 p4 len b167 b4 vs238) [])) target → Steps p.tables e below (T236.setTop (mkF m 322 (own_loc25 p0 p1 p2 p3 p4 len b167 vs238) [])) target := by subst h_b4; exact fun _ k => k
  obtain ⟨nn, h_nn⟩ : ∃ z : Int32, z = (own_nn len vs238) := ⟨_, rfl⟩
  have sg249 : ∀ target, Steps p.tables e below (T236.setTop (mkF m 322 (own_loc27 p0 p1 p2 p3 p4 len b167 b4 nn vs238) [])) target → Steps p.tables e below (T236.setTop (mkF m 322 (own_loc26 p0 p1 p2 p3 p4 len b167 b4 vs238) [])) target := by subst h_nn; exact fun _ k => k
  obtain ⟨la, h_la⟩ : ∃ z : Int32, z = ((own_el vs238 (len - (1 : Int32))) &&& (255 : Int32)) := ⟨_, rfl⟩
  have sg250 : ∀ target, Steps p.tables e below (T236.setTop (mkF m 322 (own_loc28 p0 p1 p2 p3 p4 len b167 b4 nn la vs238) [])) target → Steps p.tables e below (T236.setTop (mkF m 322 (own_loc27 p0 p1 p2 p3 p4 len b167 b4 nn vs238) [])) target := by subst h_la; exact fun _ k => k
  obtain ⟨lb, h_lb⟩ : ∃ z : Int32, z = ((((own_el vs238 (len - (2 : Int32))) &&& (255 : Int32)) <<< ((8 : Int32) &&& 31)) ||| la) := ⟨_, rfl⟩
  have sg251 : ∀ target, Steps p.tables e below (T236.setTop (mkF m 322 (own_loc29 p0 p1 p2 p3 p4 len b167 b4 nn la lb) [])) target → Steps p.tables e below (T236.setTop (mkF m 322 (own_loc28 p0 p1 p2 p3 p4 len b167 b4 nn la vs238) [])) target := by subst h_lb; exact fun _ k => k
  have sg266 : ∀ target, Steps p.tables e below (T236.setTop (mkF m 552 (own_loc43 p0 p1 p2 p3 p4 len b167 b4 nn la lb) [])) target → Steps p.tables e below (T236.setTop (mkF m 322 (own_loc29 p0 p1 p2 p3 p4 len b167 b4 nn la lb) [])) target := by
    intro target kt
    show own_S p e below T236 (mkF m 322 (own_loc29 p0 p1 p2 p3 p4 len b167 b4 nn la lb) []) _
    refine XS.iload X236.here hx rfl (hb hby at_322) rfl ?_
    show own_S p e below T236 (mkF m 324 (own_loc29 p0 p1 p2 p3 p4 len b167 b4 nn la lb) [(.int len)]) _
    refine XS.iconst X236.here hx rfl (hb hby at_324) ?_
    by_cases hc252 : len = (4 : Int32)
    · show own_S p e below T236 (mkF m 325 (own_loc29 p0 p1 p2 p3 p4 len b167 b4 nn la lb) [.int 4, (.int len)]) _
      refine XS.icmpNo X236.here hx rfl (hb hby at_325) rfl (teq hc252).2 ?_
      show own_S p e below T236 (mkF m 328 (own_loc29 p0 p1 p2 p3 p4 len b167 b4 nn la lb) []) _
      refine XS.iconst X236.here hx rfl (hb hby at_328) ?_
      show own_S p e below T236 (mkF m 329 (own_loc29 p0 p1 p2 p3 p4 len b167 b4 nn la lb) [.int 1]) _
      refine XS.istore X236.here hx rfl (hb hby at_329) rfl (l' := (own_loc30 p0 p1 p2 p3 p4 len b167 b4 nn la lb)) rfl ?_
      show own_S p e below T236 (mkF m 331 (own_loc30 p0 p1 p2 p3 p4 len b167 b4 nn la lb) []) _
      refine XS.iconst X236.here hx rfl (hb hby at_331) ?_
      show own_S p e below T236 (mkF m 332 (own_loc30 p0 p1 p2 p3 p4 len b167 b4 nn la lb) [.int 5]) _
      refine XS.istore X236.here hx rfl (hb hby at_332) rfl (l' := (own_loc31 p0 p1 p2 p3 p4 len b167 b4 nn la lb)) rfl ?_
      show own_S p e below T236 (mkF m 334 (own_loc31 p0 p1 p2 p3 p4 len b167 b4 nn la lb) []) _
      refine XS.iconst X236.here hx rfl (hb hby at_334) ?_
      show own_S p e below T236 (mkF m 335 (own_loc31 p0 p1 p2 p3 p4 len b167 b4 nn la lb) [.int 0]) _
      refine XS.istore X236.here hx rfl (hb hby at_335) rfl (l' := (own_loc31 p0 p1 p2 p3 p4 len b167 b4 nn la lb)) rfl ?_
      show own_S p e below T236 (mkF m 337 (own_loc31 p0 p1 p2 p3 p4 len b167 b4 nn la lb) []) _
      refine XS.iconst X236.here hx rfl (hb hby at_337) ?_
      show own_S p e below T236 (mkF m 338 (own_loc31 p0 p1 p2 p3 p4 len b167 b4 nn la lb) [.int 0]) _
      refine XS.istore X236.here hx rfl (hb hby at_338) rfl (l' := (own_loc31 p0 p1 p2 p3 p4 len b167 b4 nn la lb)) rfl ?_
      show own_S p e below T236 (mkF m 340 (own_loc31 p0 p1 p2 p3 p4 len b167 b4 nn la lb) []) _
      refine XS.goto X236.here hx rfl (pc0 := 340) (pc' := 552) rfl (hb hby at_340) (by decide) (by decide) ?_
      show own_S p e below T236 (mkF m 552 (own_loc31 p0 p1 p2 p3 p4 len b167 b4 nn la lb) []) _
      have kt := own_cast (P := fun z => Steps p.tables e below (T236.setTop (mkF m 552 #[.val (.int p0), .val (.int p1), .val (.int p2), .val (.int p3), .val (.int p4), .val (.int (p0 &&& (3 : Int32))), .val (.int ((own_ushr p0 (2 : Int32)) &&& (3 : Int32))), .val (.int (p2 &&& (255 : Int32))), .val (.int (p2 &&& (65535 : Int32))), .val (.int (own_body p0 p2)), .val (.int len), .val (.ref b167), .val (.int b4), .val (.int nn), .val (.int la), .val (.int lb), .val (.int z), .val (.int (own_c_1 len b4 nn)), .val (.int (own_c_2 len b4 nn)), .val (.int (own_c_3 len b4 nn la lb)), .unset] [])) target) (show (own_c_0 len b4 nn) = (1 : Int32) from (by unfold own_c_0; rw [if_pos hc252])) kt
      have kt := own_cast (P := fun z => Steps p.tables e below (T236.setTop (mkF m 552 #[.val (.int p0), .val (.int p1), .val (.int p2), .val (.int p3), .val (.int p4), .val (.int (p0 &&& (3 : Int32))), .val (.int ((own_ushr p0 (2 : Int32)) &&& (3 : Int32))), .val (.int (p2 &&& (255 : Int32))), .val (.int (p2 &&& (65535 : Int32))), .val (.int (own_body p0 p2)), .val (.int len), .val (.ref b167), .val (.int b4), .val (.int nn), .val (.int la), .val (.int lb), .val (.int 1), .val (.int z), .val (.int (own_c_2 len b4 nn)), .val (.int (own_c_3 len b4 nn la lb)), .unset] [])) target) (show (own_c_1 len b4 nn) = (5 : Int32) from (by unfold own_c_1; rw [if_pos hc252])) kt
      have kt := own_cast (P := fun z => Steps p.tables e below (T236.setTop (mkF m 552 #[.val (.int p0), .val (.int p1), .val (.int p2), .val (.int p3), .val (.int p4), .val (.int (p0 &&& (3 : Int32))), .val (.int ((own_ushr p0 (2 : Int32)) &&& (3 : Int32))), .val (.int (p2 &&& (255 : Int32))), .val (.int (p2 &&& (65535 : Int32))), .val (.int (own_body p0 p2)), .val (.int len), .val (.ref b167), .val (.int b4), .val (.int nn), .val (.int la), .val (.int lb), .val (.int 1), .val (.int 5), .val (.int z), .val (.int (own_c_3 len b4 nn la lb)), .unset] [])) target) (show (own_c_2 len b4 nn) = (0 : Int32) from (by unfold own_c_2; rw [if_pos hc252])) kt
      have kt := own_cast (P := fun z => Steps p.tables e below (T236.setTop (mkF m 552 #[.val (.int p0), .val (.int p1), .val (.int p2), .val (.int p3), .val (.int p4), .val (.int (p0 &&& (3 : Int32))), .val (.int ((own_ushr p0 (2 : Int32)) &&& (3 : Int32))), .val (.int (p2 &&& (255 : Int32))), .val (.int (p2 &&& (65535 : Int32))), .val (.int (own_body p0 p2)), .val (.int len), .val (.ref b167), .val (.int b4), .val (.int nn), .val (.int la), .val (.int lb), .val (.int 1), .val (.int 5), .val (.int 0), .val (.int z), .unset] [])) target) (show (own_c_3 len b4 nn la lb) = (0 : Int32) from (by unfold own_c_3; rw [if_pos hc252])) kt
      exact kt
    · show own_S p e below T236 (mkF m 325 (own_loc29 p0 p1 p2 p3 p4 len b167 b4 nn la lb) [.int 4, (.int len)]) _
      refine XS.icmpYes X236.here hx rfl (pc0 := 325) (pc' := 343) rfl (hb hby at_325) rfl (feq hc252).2 (by decide) (by decide) ?_
      show own_S p e below T236 (mkF m 343 (own_loc29 p0 p1 p2 p3 p4 len b167 b4 nn la lb) []) _
      refine XS.iload X236.here hx rfl (hb hby at_343) rfl ?_
      show own_S p e below T236 (mkF m 345 (own_loc29 p0 p1 p2 p3 p4 len b167 b4 nn la lb) [(.int len)]) _
      refine XS.iconst X236.here hx rfl (hb hby at_345) ?_
      by_cases hc253 : len = (5 : Int32)
      · show own_S p e below T236 (mkF m 346 (own_loc29 p0 p1 p2 p3 p4 len b167 b4 nn la lb) [.int 5, (.int len)]) _
        refine XS.icmpNo X236.here hx rfl (hb hby at_346) rfl (teq hc253).2 ?_
        show own_S p e below T236 (mkF m 349 (own_loc29 p0 p1 p2 p3 p4 len b167 b4 nn la lb) []) _
        refine XS.iconst X236.here hx rfl (hb hby at_349) ?_
        show own_S p e below T236 (mkF m 350 (own_loc29 p0 p1 p2 p3 p4 len b167 b4 nn la lb) [.int 1]) _
        refine XS.istore X236.here hx rfl (hb hby at_350) rfl (l' := (own_loc30 p0 p1 p2 p3 p4 len b167 b4 nn la lb)) rfl ?_
        show own_S p e below T236 (mkF m 352 (own_loc30 p0 p1 p2 p3 p4 len b167 b4 nn la lb) []) _
        refine XS.iconst X236.here hx rfl (hb hby at_352) ?_
        show own_S p e below T236 (mkF m 353 (own_loc30 p0 p1 p2 p3 p4 len b167 b4 nn la lb) [.int 5]) _
        refine XS.istore X236.here hx rfl (hb hby at_353) rfl (l' := (own_loc31 p0 p1 p2 p3 p4 len b167 b4 nn la lb)) rfl ?_
        show own_S p e below T236 (mkF m 355 (own_loc31 p0 p1 p2 p3 p4 len b167 b4 nn la lb) []) _
        refine XS.iconst X236.here hx rfl (hb hby at_355) ?_
        show own_S p e below T236 (mkF m 356 (own_loc31 p0 p1 p2 p3 p4 len b167 b4 nn la lb) [.int 0]) _
        refine XS.istore X236.here hx rfl (hb hby at_356) rfl (l' := (own_loc31 p0 p1 p2 p3 p4 len b167 b4 nn la lb)) rfl ?_
        show own_S p e below T236 (mkF m 358 (own_loc31 p0 p1 p2 p3 p4 len b167 b4 nn la lb) []) _
        refine XS.iload X236.here hx rfl (hb hby at_358) rfl ?_
        by_cases hc254 : b4 = (0 : Int32)
        · show own_S p e below T236 (mkF m 360 (own_loc31 p0 p1 p2 p3 p4 len b167 b4 nn la lb) [(.int b4)]) _
          refine XS.ifNo X236.here hx rfl (hb hby at_360) rfl ((if0 _ _).trans (teq hc254).2) ?_
          show own_S p e below T236 (mkF m 363 (own_loc31 p0 p1 p2 p3 p4 len b167 b4 nn la lb) []) _
          refine XS.sipush X236.here hx rfl (hb hby at_363) ?_
          show own_S p e below T236 (mkF m 366 (own_loc31 p0 p1 p2 p3 p4 len b167 b4 nn la lb) [.int 256]) _
          refine XS.goto X236.here hx rfl (pc0 := 366) (pc' := 371) rfl (hb hby at_366) (by decide) (by decide) ?_
          show own_S p e below T236 (mkF m 371 (own_loc31 p0 p1 p2 p3 p4 len b167 b4 nn la lb) [.int 256]) _
          refine XS.istore X236.here hx rfl (hb hby at_371) rfl (l' := (own_loc32 p0 p1 p2 p3 p4 len b167 b4 nn la lb)) rfl ?_
          show own_S p e below T236 (mkF m 373 (own_loc32 p0 p1 p2 p3 p4 len b167 b4 nn la lb) []) _
          refine XS.goto X236.here hx rfl (pc0 := 373) (pc' := 552) rfl (hb hby at_373) (by decide) (by decide) ?_
          show own_S p e below T236 (mkF m 552 (own_loc32 p0 p1 p2 p3 p4 len b167 b4 nn la lb) []) _
          have kt := own_cast (P := fun z => Steps p.tables e below (T236.setTop (mkF m 552 #[.val (.int p0), .val (.int p1), .val (.int p2), .val (.int p3), .val (.int p4), .val (.int (p0 &&& (3 : Int32))), .val (.int ((own_ushr p0 (2 : Int32)) &&& (3 : Int32))), .val (.int (p2 &&& (255 : Int32))), .val (.int (p2 &&& (65535 : Int32))), .val (.int (own_body p0 p2)), .val (.int len), .val (.ref b167), .val (.int b4), .val (.int nn), .val (.int la), .val (.int lb), .val (.int z), .val (.int (own_c_1 len b4 nn)), .val (.int (own_c_2 len b4 nn)), .val (.int (own_c_3 len b4 nn la lb)), .unset] [])) target) (show (own_c_0 len b4 nn) = (1 : Int32) from (by unfold own_c_0; rw [if_neg hc252, if_pos hc253])) kt
          have kt := own_cast (P := fun z => Steps p.tables e below (T236.setTop (mkF m 552 #[.val (.int p0), .val (.int p1), .val (.int p2), .val (.int p3), .val (.int p4), .val (.int (p0 &&& (3 : Int32))), .val (.int ((own_ushr p0 (2 : Int32)) &&& (3 : Int32))), .val (.int (p2 &&& (255 : Int32))), .val (.int (p2 &&& (65535 : Int32))), .val (.int (own_body p0 p2)), .val (.int len), .val (.ref b167), .val (.int b4), .val (.int nn), .val (.int la), .val (.int lb), .val (.int 1), .val (.int z), .val (.int (own_c_2 len b4 nn)), .val (.int (own_c_3 len b4 nn la lb)), .unset] [])) target) (show (own_c_1 len b4 nn) = (5 : Int32) from (by unfold own_c_1; rw [if_neg hc252, if_pos hc253])) kt
          have kt := own_cast (P := fun z => Steps p.tables e below (T236.setTop (mkF m 552 #[.val (.int p0), .val (.int p1), .val (.int p2), .val (.int p3), .val (.int p4), .val (.int (p0 &&& (3 : Int32))), .val (.int ((own_ushr p0 (2 : Int32)) &&& (3 : Int32))), .val (.int (p2 &&& (255 : Int32))), .val (.int (p2 &&& (65535 : Int32))), .val (.int (own_body p0 p2)), .val (.int len), .val (.ref b167), .val (.int b4), .val (.int nn), .val (.int la), .val (.int lb), .val (.int 1), .val (.int 5), .val (.int z), .val (.int (own_c_3 len b4 nn la lb)), .unset] [])) target) (show (own_c_2 len b4 nn) = (0 : Int32) from (by unfold own_c_2; rw [if_neg hc252, if_pos hc253])) kt
          have kt := own_cast (P := fun z => Steps p.tables e below (T236.setTop (mkF m 552 #[.val (.int p0), .val (.int p1), .val (.int p2), .val (.int p3), .val (.int p4), .val (.int (p0 &&& (3 : Int32))), .val (.int ((own_ushr p0 (2 : Int32)) &&& (3 : Int32))), .val (.int (p2 &&& (255 : Int32))), .val (.int (p2 &&& (65535 : Int32))), .val (.int (own_body p0 p2)), .val (.int len), .val (.ref b167), .val (.int b4), .val (.int nn), .val (.int la), .val (.int lb), .val (.int 1), .val (.int 5), .val (.int 0), .val (.int z), .unset] [])) target) (show (own_c_3 len b4 nn la lb) = (256 : Int32) from (by unfold own_c_3; rw [if_neg hc252, if_pos hc253, if_pos hc254])) kt
          exact kt
        · show own_S p e below T236 (mkF m 360 (own_loc31 p0 p1 p2 p3 p4 len b167 b4 nn la lb) [(.int b4)]) _
          refine XS.ifYes X236.here hx rfl (pc0 := 360) (pc' := 369) rfl (hb hby at_360) rfl ((if0 _ _).trans (feq hc254).2) (by decide) (by decide) ?_
          show own_S p e below T236 (mkF m 369 (own_loc31 p0 p1 p2 p3 p4 len b167 b4 nn la lb) []) _
          refine XS.iload X236.here hx rfl (hb hby at_369) rfl ?_
          show own_S p e below T236 (mkF m 371 (own_loc31 p0 p1 p2 p3 p4 len b167 b4 nn la lb) [(.int b4)]) _
          refine XS.istore X236.here hx rfl (hb hby at_371) rfl (l' := (own_loc33 p0 p1 p2 p3 p4 len b167 b4 nn la lb)) rfl ?_
          show own_S p e below T236 (mkF m 373 (own_loc33 p0 p1 p2 p3 p4 len b167 b4 nn la lb) []) _
          refine XS.goto X236.here hx rfl (pc0 := 373) (pc' := 552) rfl (hb hby at_373) (by decide) (by decide) ?_
          show own_S p e below T236 (mkF m 552 (own_loc33 p0 p1 p2 p3 p4 len b167 b4 nn la lb) []) _
          have kt := own_cast (P := fun z => Steps p.tables e below (T236.setTop (mkF m 552 #[.val (.int p0), .val (.int p1), .val (.int p2), .val (.int p3), .val (.int p4), .val (.int (p0 &&& (3 : Int32))), .val (.int ((own_ushr p0 (2 : Int32)) &&& (3 : Int32))), .val (.int (p2 &&& (255 : Int32))), .val (.int (p2 &&& (65535 : Int32))), .val (.int (own_body p0 p2)), .val (.int len), .val (.ref b167), .val (.int b4), .val (.int nn), .val (.int la), .val (.int lb), .val (.int z), .val (.int (own_c_1 len b4 nn)), .val (.int (own_c_2 len b4 nn)), .val (.int (own_c_3 len b4 nn la lb)), .unset] [])) target) (show (own_c_0 len b4 nn) = (1 : Int32) from (by unfold own_c_0; rw [if_neg hc252, if_pos hc253])) kt
          have kt := own_cast (P := fun z => Steps p.tables e below (T236.setTop (mkF m 552 #[.val (.int p0), .val (.int p1), .val (.int p2), .val (.int p3), .val (.int p4), .val (.int (p0 &&& (3 : Int32))), .val (.int ((own_ushr p0 (2 : Int32)) &&& (3 : Int32))), .val (.int (p2 &&& (255 : Int32))), .val (.int (p2 &&& (65535 : Int32))), .val (.int (own_body p0 p2)), .val (.int len), .val (.ref b167), .val (.int b4), .val (.int nn), .val (.int la), .val (.int lb), .val (.int 1), .val (.int z), .val (.int (own_c_2 len b4 nn)), .val (.int (own_c_3 len b4 nn la lb)), .unset] [])) target) (show (own_c_1 len b4 nn) = (5 : Int32) from (by unfold own_c_1; rw [if_neg hc252, if_pos hc253])) kt
          have kt := own_cast (P := fun z => Steps p.tables e below (T236.setTop (mkF m 552 #[.val (.int p0), .val (.int p1), .val (.int p2), .val (.int p3), .val (.int p4), .val (.int (p0 &&& (3 : Int32))), .val (.int ((own_ushr p0 (2 : Int32)) &&& (3 : Int32))), .val (.int (p2 &&& (255 : Int32))), .val (.int (p2 &&& (65535 : Int32))), .val (.int (own_body p0 p2)), .val (.int len), .val (.ref b167), .val (.int b4), .val (.int nn), .val (.int la), .val (.int lb), .val (.int 1), .val (.int 5), .val (.int z), .val (.int (own_c_3 len b4 nn la lb)), .unset] [])) target) (show (own_c_2 len b4 nn) = (0 : Int32) from (by unfold own_c_2; rw [if_neg hc252, if_pos hc253])) kt
          have kt := own_cast (P := fun z => Steps p.tables e below (T236.setTop (mkF m 552 #[.val (.int p0), .val (.int p1), .val (.int p2), .val (.int p3), .val (.int p4), .val (.int (p0 &&& (3 : Int32))), .val (.int ((own_ushr p0 (2 : Int32)) &&& (3 : Int32))), .val (.int (p2 &&& (255 : Int32))), .val (.int (p2 &&& (65535 : Int32))), .val (.int (own_body p0 p2)), .val (.int len), .val (.ref b167), .val (.int b4), .val (.int nn), .val (.int la), .val (.int lb), .val (.int 1), .val (.int 5), .val (.int 0), .val (.int z), .unset] [])) target) (show (own_c_3 len b4 nn la lb) = b4 from (by unfold own_c_3; rw [if_neg hc252, if_pos hc253, if_neg hc254])) kt
          exact kt
      · show own_S p e below T236 (mkF m 346 (own_loc29 p0 p1 p2 p3 p4 len b167 b4 nn la lb) [.int 5, (.int len)]) _
        refine XS.icmpYes X236.here hx rfl (pc0 := 346) (pc' := 376) rfl (hb hby at_346) rfl (feq hc253).2 (by decide) (by decide) ?_
        show own_S p e below T236 (mkF m 376 (own_loc29 p0 p1 p2 p3 p4 len b167 b4 nn la lb) []) _
        refine XS.iload X236.here hx rfl (hb hby at_376) rfl ?_
        by_cases hc255 : b4 = (0 : Int32)
        · show own_S p e below T236 (mkF m 378 (own_loc29 p0 p1 p2 p3 p4 len b167 b4 nn la lb) [(.int b4)]) _
          refine XS.ifYes X236.here hx rfl (pc0 := 378) (pc' := 444) rfl (hb hby at_378) rfl ((if0 _ _).trans (teq hc255).1) (by decide) (by decide) ?_
          show own_S p e below T236 (mkF m 444 (own_loc29 p0 p1 p2 p3 p4 len b167 b4 nn la lb) []) _
          refine XS.iload X236.here hx rfl (hb hby at_444) rfl ?_
          show own_S p e below T236 (mkF m 446 (own_loc29 p0 p1 p2 p3 p4 len b167 b4 nn la lb) [(.int len)]) _
          refine XS.bipush X236.here hx rfl (hb hby at_446) ?_
          by_cases hc256 : len = (7 : Int32)
          · show own_S p e below T236 (mkF m 448 (own_loc29 p0 p1 p2 p3 p4 len b167 b4 nn la lb) [.int 7, (.int len)]) _
            refine XS.icmpNo X236.here hx rfl (hb hby at_448) rfl (teq hc256).2 ?_
            show own_S p e below T236 (mkF m 451 (own_loc29 p0 p1 p2 p3 p4 len b167 b4 nn la lb) []) _
            refine XS.iconst X236.here hx rfl (hb hby at_451) ?_
            show own_S p e below T236 (mkF m 452 (own_loc29 p0 p1 p2 p3 p4 len b167 b4 nn la lb) [.int 1]) _
            refine XS.istore X236.here hx rfl (hb hby at_452) rfl (l' := (own_loc30 p0 p1 p2 p3 p4 len b167 b4 nn la lb)) rfl ?_
            show own_S p e below T236 (mkF m 454 (own_loc30 p0 p1 p2 p3 p4 len b167 b4 nn la lb) []) _
            refine XS.bipush X236.here hx rfl (hb hby at_454) ?_
            show own_S p e below T236 (mkF m 456 (own_loc30 p0 p1 p2 p3 p4 len b167 b4 nn la lb) [.int 7]) _
            refine XS.istore X236.here hx rfl (hb hby at_456) rfl (l' := (own_loc34 p0 p1 p2 p3 p4 len b167 b4 nn la lb)) rfl ?_
            show own_S p e below T236 (mkF m 458 (own_loc34 p0 p1 p2 p3 p4 len b167 b4 nn la lb) []) _
            refine XS.iconst X236.here hx rfl (hb hby at_458) ?_
            show own_S p e below T236 (mkF m 459 (own_loc34 p0 p1 p2 p3 p4 len b167 b4 nn la lb) [.int 0]) _
            refine XS.istore X236.here hx rfl (hb hby at_459) rfl (l' := (own_loc34 p0 p1 p2 p3 p4 len b167 b4 nn la lb)) rfl ?_
            show own_S p e below T236 (mkF m 461 (own_loc34 p0 p1 p2 p3 p4 len b167 b4 nn la lb) []) _
            refine XS.iload X236.here hx rfl (hb hby at_461) rfl ?_
            by_cases hc257 : nn = (0 : Int32)
            · show own_S p e below T236 (mkF m 463 (own_loc34 p0 p1 p2 p3 p4 len b167 b4 nn la lb) [(.int nn)]) _
              refine XS.ifNo X236.here hx rfl (hb hby at_463) rfl ((if0 _ _).trans (teq hc257).2) ?_
              show own_S p e below T236 (mkF m 466 (own_loc34 p0 p1 p2 p3 p4 len b167 b4 nn la lb) []) _
              refine X236.ldcInt hx hown (mvT hZ (hw _ (List.mem_of_getElem? (i := 56) rfl))) (g := (mkF m 466 (own_loc34 p0 p1 p2 p3 p4 len b167 b4 nn la lb) [])) rfl (hb hby at_466) _ ?_
              show own_S p e below T236 (mkF m 468 (own_loc34 p0 p1 p2 p3 p4 len b167 b4 nn la lb) [.int 65536]) _
              refine XS.goto X236.here hx rfl (pc0 := 468) (pc' := 473) rfl (hb hby at_468) (by decide) (by decide) ?_
              show own_S p e below T236 (mkF m 473 (own_loc34 p0 p1 p2 p3 p4 len b167 b4 nn la lb) [.int 65536]) _
              refine XS.istore X236.here hx rfl (hb hby at_473) rfl (l' := (own_loc35 p0 p1 p2 p3 p4 len b167 b4 nn la lb)) rfl ?_
              show own_S p e below T236 (mkF m 475 (own_loc35 p0 p1 p2 p3 p4 len b167 b4 nn la lb) []) _
              refine XS.goto X236.here hx rfl (pc0 := 475) (pc' := 552) rfl (hb hby at_475) (by decide) (by decide) ?_
              show own_S p e below T236 (mkF m 552 (own_loc35 p0 p1 p2 p3 p4 len b167 b4 nn la lb) []) _
              have kt := own_cast (P := fun z => Steps p.tables e below (T236.setTop (mkF m 552 #[.val (.int p0), .val (.int p1), .val (.int p2), .val (.int p3), .val (.int p4), .val (.int (p0 &&& (3 : Int32))), .val (.int ((own_ushr p0 (2 : Int32)) &&& (3 : Int32))), .val (.int (p2 &&& (255 : Int32))), .val (.int (p2 &&& (65535 : Int32))), .val (.int (own_body p0 p2)), .val (.int len), .val (.ref b167), .val (.int b4), .val (.int nn), .val (.int la), .val (.int lb), .val (.int z), .val (.int (own_c_1 len b4 nn)), .val (.int (own_c_2 len b4 nn)), .val (.int (own_c_3 len b4 nn la lb)), .unset] [])) target) (show (own_c_0 len b4 nn) = (1 : Int32) from (by unfold own_c_0; rw [if_neg hc252, if_neg hc253, if_pos hc255, if_pos hc256])) kt
              have kt := own_cast (P := fun z => Steps p.tables e below (T236.setTop (mkF m 552 #[.val (.int p0), .val (.int p1), .val (.int p2), .val (.int p3), .val (.int p4), .val (.int (p0 &&& (3 : Int32))), .val (.int ((own_ushr p0 (2 : Int32)) &&& (3 : Int32))), .val (.int (p2 &&& (255 : Int32))), .val (.int (p2 &&& (65535 : Int32))), .val (.int (own_body p0 p2)), .val (.int len), .val (.ref b167), .val (.int b4), .val (.int nn), .val (.int la), .val (.int lb), .val (.int 1), .val (.int z), .val (.int (own_c_2 len b4 nn)), .val (.int (own_c_3 len b4 nn la lb)), .unset] [])) target) (show (own_c_1 len b4 nn) = (7 : Int32) from (by unfold own_c_1; rw [if_neg hc252, if_neg hc253, if_pos hc255, if_pos hc256])) kt
              have kt := own_cast (P := fun z => Steps p.tables e below (T236.setTop (mkF m 552 #[.val (.int p0), .val (.int p1), .val (.int p2), .val (.int p3), .val (.int p4), .val (.int (p0 &&& (3 : Int32))), .val (.int ((own_ushr p0 (2 : Int32)) &&& (3 : Int32))), .val (.int (p2 &&& (255 : Int32))), .val (.int (p2 &&& (65535 : Int32))), .val (.int (own_body p0 p2)), .val (.int len), .val (.ref b167), .val (.int b4), .val (.int nn), .val (.int la), .val (.int lb), .val (.int 1), .val (.int 7), .val (.int z), .val (.int (own_c_3 len b4 nn la lb)), .unset] [])) target) (show (own_c_2 len b4 nn) = (0 : Int32) from (by unfold own_c_2; rw [if_neg hc252, if_neg hc253, if_pos hc255, if_pos hc256])) kt
              have kt := own_cast (P := fun z => Steps p.tables e below (T236.setTop (mkF m 552 #[.val (.int p0), .val (.int p1), .val (.int p2), .val (.int p3), .val (.int p4), .val (.int (p0 &&& (3 : Int32))), .val (.int ((own_ushr p0 (2 : Int32)) &&& (3 : Int32))), .val (.int (p2 &&& (255 : Int32))), .val (.int (p2 &&& (65535 : Int32))), .val (.int (own_body p0 p2)), .val (.int len), .val (.ref b167), .val (.int b4), .val (.int nn), .val (.int la), .val (.int lb), .val (.int 1), .val (.int 7), .val (.int 0), .val (.int z), .unset] [])) target) (show (own_c_3 len b4 nn la lb) = (65536 : Int32) from (by unfold own_c_3; rw [if_neg hc252, if_neg hc253, if_pos hc255, if_pos hc256, if_pos hc257])) kt
              exact kt
            · show own_S p e below T236 (mkF m 463 (own_loc34 p0 p1 p2 p3 p4 len b167 b4 nn la lb) [(.int nn)]) _
              refine XS.ifYes X236.here hx rfl (pc0 := 463) (pc' := 471) rfl (hb hby at_463) rfl ((if0 _ _).trans (feq hc257).2) (by decide) (by decide) ?_
              show own_S p e below T236 (mkF m 471 (own_loc34 p0 p1 p2 p3 p4 len b167 b4 nn la lb) []) _
              refine XS.iload X236.here hx rfl (hb hby at_471) rfl ?_
              show own_S p e below T236 (mkF m 473 (own_loc34 p0 p1 p2 p3 p4 len b167 b4 nn la lb) [(.int nn)]) _
              refine XS.istore X236.here hx rfl (hb hby at_473) rfl (l' := (own_loc36 p0 p1 p2 p3 p4 len b167 b4 nn la lb)) rfl ?_
              show own_S p e below T236 (mkF m 475 (own_loc36 p0 p1 p2 p3 p4 len b167 b4 nn la lb) []) _
              refine XS.goto X236.here hx rfl (pc0 := 475) (pc' := 552) rfl (hb hby at_475) (by decide) (by decide) ?_
              show own_S p e below T236 (mkF m 552 (own_loc36 p0 p1 p2 p3 p4 len b167 b4 nn la lb) []) _
              have kt := own_cast (P := fun z => Steps p.tables e below (T236.setTop (mkF m 552 #[.val (.int p0), .val (.int p1), .val (.int p2), .val (.int p3), .val (.int p4), .val (.int (p0 &&& (3 : Int32))), .val (.int ((own_ushr p0 (2 : Int32)) &&& (3 : Int32))), .val (.int (p2 &&& (255 : Int32))), .val (.int (p2 &&& (65535 : Int32))), .val (.int (own_body p0 p2)), .val (.int len), .val (.ref b167), .val (.int b4), .val (.int nn), .val (.int la), .val (.int lb), .val (.int z), .val (.int (own_c_1 len b4 nn)), .val (.int (own_c_2 len b4 nn)), .val (.int (own_c_3 len b4 nn la lb)), .unset] [])) target) (show (own_c_0 len b4 nn) = (1 : Int32) from (by unfold own_c_0; rw [if_neg hc252, if_neg hc253, if_pos hc255, if_pos hc256])) kt
              have kt := own_cast (P := fun z => Steps p.tables e below (T236.setTop (mkF m 552 #[.val (.int p0), .val (.int p1), .val (.int p2), .val (.int p3), .val (.int p4), .val (.int (p0 &&& (3 : Int32))), .val (.int ((own_ushr p0 (2 : Int32)) &&& (3 : Int32))), .val (.int (p2 &&& (255 : Int32))), .val (.int (p2 &&& (65535 : Int32))), .val (.int (own_body p0 p2)), .val (.int len), .val (.ref b167), .val (.int b4), .val (.int nn), .val (.int la), .val (.int lb), .val (.int 1), .val (.int z), .val (.int (own_c_2 len b4 nn)), .val (.int (own_c_3 len b4 nn la lb)), .unset] [])) target) (show (own_c_1 len b4 nn) = (7 : Int32) from (by unfold own_c_1; rw [if_neg hc252, if_neg hc253, if_pos hc255, if_pos hc256])) kt
              have kt := own_cast (P := fun z => Steps p.tables e below (T236.setTop (mkF m 552 #[.val (.int p0), .val (.int p1), .val (.int p2), .val (.int p3), .val (.int p4), .val (.int (p0 &&& (3 : Int32))), .val (.int ((own_ushr p0 (2 : Int32)) &&& (3 : Int32))), .val (.int (p2 &&& (255 : Int32))), .val (.int (p2 &&& (65535 : Int32))), .val (.int (own_body p0 p2)), .val (.int len), .val (.ref b167), .val (.int b4), .val (.int nn), .val (.int la), .val (.int lb), .val (.int 1), .val (.int 7), .val (.int z), .val (.int (own_c_3 len b4 nn la lb)), .unset] [])) target) (show (own_c_2 len b4 nn) = (0 : Int32) from (by unfold own_c_2; rw [if_neg hc252, if_neg hc253, if_pos hc255, if_pos hc256])) kt
              have kt := own_cast (P := fun z => Steps p.tables e below (T236.setTop (mkF m 552 #[.val (.int p0), .val (.int p1), .val (.int p2), .val (.int p3), .val (.int p4), .val (.int (p0 &&& (3 : Int32))), .val (.int ((own_ushr p0 (2 : Int32)) &&& (3 : Int32))), .val (.int (p2 &&& (255 : Int32))), .val (.int (p2 &&& (65535 : Int32))), .val (.int (own_body p0 p2)), .val (.int len), .val (.ref b167), .val (.int b4), .val (.int nn), .val (.int la), .val (.int lb), .val (.int 1), .val (.int 7), .val (.int 0), .val (.int z), .unset] [])) target) (show (own_c_3 len b4 nn la lb) = nn from (by unfold own_c_3; rw [if_neg hc252, if_neg hc253, if_pos hc255, if_pos hc256, if_neg hc257])) kt
              exact kt
          · show own_S p e below T236 (mkF m 448 (own_loc29 p0 p1 p2 p3 p4 len b167 b4 nn la lb) [.int 7, (.int len)]) _
            refine XS.icmpYes X236.here hx rfl (pc0 := 448) (pc' := 478) rfl (hb hby at_448) rfl (feq hc256).2 (by decide) (by decide) ?_
            show own_S p e below T236 (mkF m 478 (own_loc29 p0 p1 p2 p3 p4 len b167 b4 nn la lb) []) _
            refine XS.iload X236.here hx rfl (hb hby at_478) rfl ?_
            show own_S p e below T236 (mkF m 480 (own_loc29 p0 p1 p2 p3 p4 len b167 b4 nn la lb) [(.int len)]) _
            refine XS.bipush X236.here hx rfl (hb hby at_480) ?_
            by_cases hc258 : (7 : Int32) < len
            · show own_S p e below T236 (mkF m 482 (own_loc29 p0 p1 p2 p3 p4 len b167 b4 nn la lb) [.int 7, (.int len)]) _
              refine XS.icmpNo X236.here hx rfl (hb hby at_482) rfl (tlt hc258).2.2.2 ?_
              show own_S p e below T236 (mkF m 485 (own_loc29 p0 p1 p2 p3 p4 len b167 b4 nn la lb) []) _
              refine XS.iload X236.here hx rfl (hb hby at_485) rfl ?_
              by_cases hc259 : nn = (0 : Int32)
              · show own_S p e below T236 (mkF m 487 (own_loc29 p0 p1 p2 p3 p4 len b167 b4 nn la lb) [(.int nn)]) _
                refine XS.ifYes X236.here hx rfl (pc0 := 487) (pc' := 552) rfl (hb hby at_487) rfl ((if0 _ _).trans (teq hc259).1) (by decide) (by decide) ?_
                show own_S p e below T236 (mkF m 552 (own_loc29 p0 p1 p2 p3 p4 len b167 b4 nn la lb) []) _
                have kt := own_cast (P := fun z => Steps p.tables e below (T236.setTop (mkF m 552 #[.val (.int p0), .val (.int p1), .val (.int p2), .val (.int p3), .val (.int p4), .val (.int (p0 &&& (3 : Int32))), .val (.int ((own_ushr p0 (2 : Int32)) &&& (3 : Int32))), .val (.int (p2 &&& (255 : Int32))), .val (.int (p2 &&& (65535 : Int32))), .val (.int (own_body p0 p2)), .val (.int len), .val (.ref b167), .val (.int b4), .val (.int nn), .val (.int la), .val (.int lb), .val (.int z), .val (.int (own_c_1 len b4 nn)), .val (.int (own_c_2 len b4 nn)), .val (.int (own_c_3 len b4 nn la lb)), .unset] [])) target) (show (own_c_0 len b4 nn) = (0 : Int32) from (by unfold own_c_0; rw [if_neg hc252, if_neg hc253, if_pos hc255, if_neg hc256, if_pos hc258, if_pos hc259])) kt
                have kt := own_cast (P := fun z => Steps p.tables e below (T236.setTop (mkF m 552 #[.val (.int p0), .val (.int p1), .val (.int p2), .val (.int p3), .val (.int p4), .val (.int (p0 &&& (3 : Int32))), .val (.int ((own_ushr p0 (2 : Int32)) &&& (3 : Int32))), .val (.int (p2 &&& (255 : Int32))), .val (.int (p2 &&& (65535 : Int32))), .val (.int (own_body p0 p2)), .val (.int len), .val (.ref b167), .val (.int b4), .val (.int nn), .val (.int la), .val (.int lb), .val (.int 0), .val (.int z), .val (.int (own_c_2 len b4 nn)), .val (.int (own_c_3 len b4 nn la lb)), .unset] [])) target) (show (own_c_1 len b4 nn) = (0 : Int32) from (by unfold own_c_1; rw [if_neg hc252, if_neg hc253, if_pos hc255, if_neg hc256, if_pos hc258, if_pos hc259])) kt
                have kt := own_cast (P := fun z => Steps p.tables e below (T236.setTop (mkF m 552 #[.val (.int p0), .val (.int p1), .val (.int p2), .val (.int p3), .val (.int p4), .val (.int (p0 &&& (3 : Int32))), .val (.int ((own_ushr p0 (2 : Int32)) &&& (3 : Int32))), .val (.int (p2 &&& (255 : Int32))), .val (.int (p2 &&& (65535 : Int32))), .val (.int (own_body p0 p2)), .val (.int len), .val (.ref b167), .val (.int b4), .val (.int nn), .val (.int la), .val (.int lb), .val (.int 0), .val (.int 0), .val (.int z), .val (.int (own_c_3 len b4 nn la lb)), .unset] [])) target) (show (own_c_2 len b4 nn) = (0 : Int32) from (by unfold own_c_2; rw [if_neg hc252, if_neg hc253, if_pos hc255, if_neg hc256, if_pos hc258, if_pos hc259])) kt
                have kt := own_cast (P := fun z => Steps p.tables e below (T236.setTop (mkF m 552 #[.val (.int p0), .val (.int p1), .val (.int p2), .val (.int p3), .val (.int p4), .val (.int (p0 &&& (3 : Int32))), .val (.int ((own_ushr p0 (2 : Int32)) &&& (3 : Int32))), .val (.int (p2 &&& (255 : Int32))), .val (.int (p2 &&& (65535 : Int32))), .val (.int (own_body p0 p2)), .val (.int len), .val (.ref b167), .val (.int b4), .val (.int nn), .val (.int la), .val (.int lb), .val (.int 0), .val (.int 0), .val (.int 0), .val (.int z), .unset] [])) target) (show (own_c_3 len b4 nn la lb) = (0 : Int32) from (by unfold own_c_3; rw [if_neg hc252, if_neg hc253, if_pos hc255, if_neg hc256, if_pos hc258, if_pos hc259])) kt
                exact kt
              · show own_S p e below T236 (mkF m 487 (own_loc29 p0 p1 p2 p3 p4 len b167 b4 nn la lb) [(.int nn)]) _
                refine XS.ifNo X236.here hx rfl (hb hby at_487) rfl ((if0 _ _).trans (feq hc259).1) ?_
                show own_S p e below T236 (mkF m 490 (own_loc29 p0 p1 p2 p3 p4 len b167 b4 nn la lb) []) _
                refine XS.iload X236.here hx rfl (hb hby at_490) rfl ?_
                show own_S p e below T236 (mkF m 492 (own_loc29 p0 p1 p2 p3 p4 len b167 b4 nn la lb) [(.int len)]) _
                refine XS.bipush X236.here hx rfl (hb hby at_492) ?_
                show own_S p e below T236 (mkF m 494 (own_loc29 p0 p1 p2 p3 p4 len b167 b4 nn la lb) [.int 7, (.int len)]) _
                refine XS.iload X236.here hx rfl (hb hby at_494) rfl ?_
                show own_S p e below T236 (mkF m 496 (own_loc29 p0 p1 p2 p3 p4 len b167 b4 nn la lb) [(.int nn), .int 7, (.int len)]) _
                refine XS.iadd X236.here hx rfl (hb hby at_496) rfl ?_
                by_cases hc260 : len = ((7 : Int32) + nn)
                · show own_S p e below T236 (mkF m 497 (own_loc29 p0 p1 p2 p3 p4 len b167 b4 nn la lb) [(.int ((7 : Int32) + nn)), (.int len)]) _
                  refine XS.icmpNo X236.here hx rfl (hb hby at_497) rfl (teq hc260).2 ?_
                  show own_S p e below T236 (mkF m 500 (own_loc29 p0 p1 p2 p3 p4 len b167 b4 nn la lb) []) _
                  refine XS.iconst X236.here hx rfl (hb hby at_500) ?_
                  show own_S p e below T236 (mkF m 501 (own_loc29 p0 p1 p2 p3 p4 len b167 b4 nn la lb) [.int 1]) _
                  refine XS.istore X236.here hx rfl (hb hby at_501) rfl (l' := (own_loc30 p0 p1 p2 p3 p4 len b167 b4 nn la lb)) rfl ?_
                  show own_S p e below T236 (mkF m 503 (own_loc30 p0 p1 p2 p3 p4 len b167 b4 nn la lb) []) _
                  refine XS.bipush X236.here hx rfl (hb hby at_503) ?_
                  show own_S p e below T236 (mkF m 505 (own_loc30 p0 p1 p2 p3 p4 len b167 b4 nn la lb) [.int 7]) _
                  refine XS.istore X236.here hx rfl (hb hby at_505) rfl (l' := (own_loc34 p0 p1 p2 p3 p4 len b167 b4 nn la lb)) rfl ?_
                  show own_S p e below T236 (mkF m 507 (own_loc34 p0 p1 p2 p3 p4 len b167 b4 nn la lb) []) _
                  refine XS.iload X236.here hx rfl (hb hby at_507) rfl ?_
                  show own_S p e below T236 (mkF m 509 (own_loc34 p0 p1 p2 p3 p4 len b167 b4 nn la lb) [(.int nn)]) _
                  refine XS.istore X236.here hx rfl (hb hby at_509) rfl (l' := (own_loc37 p0 p1 p2 p3 p4 len b167 b4 nn la lb)) rfl ?_
                  show own_S p e below T236 (mkF m 511 (own_loc37 p0 p1 p2 p3 p4 len b167 b4 nn la lb) []) _
                  refine XS.iconst X236.here hx rfl (hb hby at_511) ?_
                  show own_S p e below T236 (mkF m 512 (own_loc37 p0 p1 p2 p3 p4 len b167 b4 nn la lb) [.int 0]) _
                  refine XS.istore X236.here hx rfl (hb hby at_512) rfl (l' := (own_loc37 p0 p1 p2 p3 p4 len b167 b4 nn la lb)) rfl ?_
                  show own_S p e below T236 (mkF m 514 (own_loc37 p0 p1 p2 p3 p4 len b167 b4 nn la lb) []) _
                  refine XS.goto X236.here hx rfl (pc0 := 514) (pc' := 552) rfl (hb hby at_514) (by decide) (by decide) ?_
                  show own_S p e below T236 (mkF m 552 (own_loc37 p0 p1 p2 p3 p4 len b167 b4 nn la lb) []) _
                  have kt := own_cast (P := fun z => Steps p.tables e below (T236.setTop (mkF m 552 #[.val (.int p0), .val (.int p1), .val (.int p2), .val (.int p3), .val (.int p4), .val (.int (p0 &&& (3 : Int32))), .val (.int ((own_ushr p0 (2 : Int32)) &&& (3 : Int32))), .val (.int (p2 &&& (255 : Int32))), .val (.int (p2 &&& (65535 : Int32))), .val (.int (own_body p0 p2)), .val (.int len), .val (.ref b167), .val (.int b4), .val (.int nn), .val (.int la), .val (.int lb), .val (.int z), .val (.int (own_c_1 len b4 nn)), .val (.int (own_c_2 len b4 nn)), .val (.int (own_c_3 len b4 nn la lb)), .unset] [])) target) (show (own_c_0 len b4 nn) = (1 : Int32) from (by unfold own_c_0; rw [if_neg hc252, if_neg hc253, if_pos hc255, if_neg hc256, if_pos hc258, if_neg hc259, if_pos hc260])) kt
                  have kt := own_cast (P := fun z => Steps p.tables e below (T236.setTop (mkF m 552 #[.val (.int p0), .val (.int p1), .val (.int p2), .val (.int p3), .val (.int p4), .val (.int (p0 &&& (3 : Int32))), .val (.int ((own_ushr p0 (2 : Int32)) &&& (3 : Int32))), .val (.int (p2 &&& (255 : Int32))), .val (.int (p2 &&& (65535 : Int32))), .val (.int (own_body p0 p2)), .val (.int len), .val (.ref b167), .val (.int b4), .val (.int nn), .val (.int la), .val (.int lb), .val (.int 1), .val (.int z), .val (.int (own_c_2 len b4 nn)), .val (.int (own_c_3 len b4 nn la lb)), .unset] [])) target) (show (own_c_1 len b4 nn) = (7 : Int32) from (by unfold own_c_1; rw [if_neg hc252, if_neg hc253, if_pos hc255, if_neg hc256, if_pos hc258, if_neg hc259, if_pos hc260])) kt
                  have kt := own_cast (P := fun z => Steps p.tables e below (T236.setTop (mkF m 552 #[.val (.int p0), .val (.int p1), .val (.int p2), .val (.int p3), .val (.int p4), .val (.int (p0 &&& (3 : Int32))), .val (.int ((own_ushr p0 (2 : Int32)) &&& (3 : Int32))), .val (.int (p2 &&& (255 : Int32))), .val (.int (p2 &&& (65535 : Int32))), .val (.int (own_body p0 p2)), .val (.int len), .val (.ref b167), .val (.int b4), .val (.int nn), .val (.int la), .val (.int lb), .val (.int 1), .val (.int 7), .val (.int z), .val (.int (own_c_3 len b4 nn la lb)), .unset] [])) target) (show (own_c_2 len b4 nn) = nn from (by unfold own_c_2; rw [if_neg hc252, if_neg hc253, if_pos hc255, if_neg hc256, if_pos hc258, if_neg hc259, if_pos hc260])) kt
                  have kt := own_cast (P := fun z => Steps p.tables e below (T236.setTop (mkF m 552 #[.val (.int p0), .val (.int p1), .val (.int p2), .val (.int p3), .val (.int p4), .val (.int (p0 &&& (3 : Int32))), .val (.int ((own_ushr p0 (2 : Int32)) &&& (3 : Int32))), .val (.int (p2 &&& (255 : Int32))), .val (.int (p2 &&& (65535 : Int32))), .val (.int (own_body p0 p2)), .val (.int len), .val (.ref b167), .val (.int b4), .val (.int nn), .val (.int la), .val (.int lb), .val (.int 1), .val (.int 7), .val (.int nn), .val (.int z), .unset] [])) target) (show (own_c_3 len b4 nn la lb) = (0 : Int32) from (by unfold own_c_3; rw [if_neg hc252, if_neg hc253, if_pos hc255, if_neg hc256, if_pos hc258, if_neg hc259, if_pos hc260])) kt
                  exact kt
                · show own_S p e below T236 (mkF m 497 (own_loc29 p0 p1 p2 p3 p4 len b167 b4 nn la lb) [(.int ((7 : Int32) + nn)), (.int len)]) _
                  refine XS.icmpYes X236.here hx rfl (pc0 := 497) (pc' := 517) rfl (hb hby at_497) rfl (feq hc260).2 (by decide) (by decide) ?_
                  show own_S p e below T236 (mkF m 517 (own_loc29 p0 p1 p2 p3 p4 len b167 b4 nn la lb) []) _
                  refine XS.iload X236.here hx rfl (hb hby at_517) rfl ?_
                  show own_S p e below T236 (mkF m 519 (own_loc29 p0 p1 p2 p3 p4 len b167 b4 nn la lb) [(.int len)]) _
                  refine XS.bipush X236.here hx rfl (hb hby at_519) ?_
                  show own_S p e below T236 (mkF m 521 (own_loc29 p0 p1 p2 p3 p4 len b167 b4 nn la lb) [.int 9, (.int len)]) _
                  refine XS.iload X236.here hx rfl (hb hby at_521) rfl ?_
                  show own_S p e below T236 (mkF m 523 (own_loc29 p0 p1 p2 p3 p4 len b167 b4 nn la lb) [(.int nn), .int 9, (.int len)]) _
                  refine XS.iadd X236.here hx rfl (hb hby at_523) rfl ?_
                  by_cases hc261 : len = ((9 : Int32) + nn)
                  · show own_S p e below T236 (mkF m 524 (own_loc29 p0 p1 p2 p3 p4 len b167 b4 nn la lb) [(.int ((9 : Int32) + nn)), (.int len)]) _
                    refine XS.icmpNo X236.here hx rfl (hb hby at_524) rfl (teq hc261).2 ?_
                    show own_S p e below T236 (mkF m 527 (own_loc29 p0 p1 p2 p3 p4 len b167 b4 nn la lb) []) _
                    refine XS.iconst X236.here hx rfl (hb hby at_527) ?_
                    show own_S p e below T236 (mkF m 528 (own_loc29 p0 p1 p2 p3 p4 len b167 b4 nn la lb) [.int 1]) _
                    refine XS.istore X236.here hx rfl (hb hby at_528) rfl (l' := (own_loc30 p0 p1 p2 p3 p4 len b167 b4 nn la lb)) rfl ?_
                    show own_S p e below T236 (mkF m 530 (own_loc30 p0 p1 p2 p3 p4 len b167 b4 nn la lb) []) _
                    refine XS.bipush X236.here hx rfl (hb hby at_530) ?_
                    show own_S p e below T236 (mkF m 532 (own_loc30 p0 p1 p2 p3 p4 len b167 b4 nn la lb) [.int 7]) _
                    refine XS.istore X236.here hx rfl (hb hby at_532) rfl (l' := (own_loc34 p0 p1 p2 p3 p4 len b167 b4 nn la lb)) rfl ?_
                    show own_S p e below T236 (mkF m 534 (own_loc34 p0 p1 p2 p3 p4 len b167 b4 nn la lb) []) _
                    refine XS.iload X236.here hx rfl (hb hby at_534) rfl ?_
                    show own_S p e below T236 (mkF m 536 (own_loc34 p0 p1 p2 p3 p4 len b167 b4 nn la lb) [(.int nn)]) _
                    refine XS.istore X236.here hx rfl (hb hby at_536) rfl (l' := (own_loc37 p0 p1 p2 p3 p4 len b167 b4 nn la lb)) rfl ?_
                    show own_S p e below T236 (mkF m 538 (own_loc37 p0 p1 p2 p3 p4 len b167 b4 nn la lb) []) _
                    refine XS.iload X236.here hx rfl (hb hby at_538) rfl ?_
                    by_cases hc262 : lb = (0 : Int32)
                    · show own_S p e below T236 (mkF m 540 (own_loc37 p0 p1 p2 p3 p4 len b167 b4 nn la lb) [(.int lb)]) _
                      refine XS.ifNo X236.here hx rfl (hb hby at_540) rfl ((if0 _ _).trans (teq hc262).2) ?_
                      show own_S p e below T236 (mkF m 543 (own_loc37 p0 p1 p2 p3 p4 len b167 b4 nn la lb) []) _
                      refine X236.ldcInt hx hown (mvT hZ (hw _ (List.mem_of_getElem? (i := 56) rfl))) (g := (mkF m 543 (own_loc37 p0 p1 p2 p3 p4 len b167 b4 nn la lb) [])) rfl (hb hby at_543) _ ?_
                      show own_S p e below T236 (mkF m 545 (own_loc37 p0 p1 p2 p3 p4 len b167 b4 nn la lb) [.int 65536]) _
                      refine XS.goto X236.here hx rfl (pc0 := 545) (pc' := 550) rfl (hb hby at_545) (by decide) (by decide) ?_
                      show own_S p e below T236 (mkF m 550 (own_loc37 p0 p1 p2 p3 p4 len b167 b4 nn la lb) [.int 65536]) _
                      refine XS.istore X236.here hx rfl (hb hby at_550) rfl (l' := (own_loc38 p0 p1 p2 p3 p4 len b167 b4 nn la lb)) rfl ?_
                      show own_S p e below T236 (mkF m 552 (own_loc38 p0 p1 p2 p3 p4 len b167 b4 nn la lb) []) _
                      have kt := own_cast (P := fun z => Steps p.tables e below (T236.setTop (mkF m 552 #[.val (.int p0), .val (.int p1), .val (.int p2), .val (.int p3), .val (.int p4), .val (.int (p0 &&& (3 : Int32))), .val (.int ((own_ushr p0 (2 : Int32)) &&& (3 : Int32))), .val (.int (p2 &&& (255 : Int32))), .val (.int (p2 &&& (65535 : Int32))), .val (.int (own_body p0 p2)), .val (.int len), .val (.ref b167), .val (.int b4), .val (.int nn), .val (.int la), .val (.int lb), .val (.int z), .val (.int (own_c_1 len b4 nn)), .val (.int (own_c_2 len b4 nn)), .val (.int (own_c_3 len b4 nn la lb)), .unset] [])) target) (show (own_c_0 len b4 nn) = (1 : Int32) from (by unfold own_c_0; rw [if_neg hc252, if_neg hc253, if_pos hc255, if_neg hc256, if_pos hc258, if_neg hc259, if_neg hc260, if_pos hc261])) kt
                      have kt := own_cast (P := fun z => Steps p.tables e below (T236.setTop (mkF m 552 #[.val (.int p0), .val (.int p1), .val (.int p2), .val (.int p3), .val (.int p4), .val (.int (p0 &&& (3 : Int32))), .val (.int ((own_ushr p0 (2 : Int32)) &&& (3 : Int32))), .val (.int (p2 &&& (255 : Int32))), .val (.int (p2 &&& (65535 : Int32))), .val (.int (own_body p0 p2)), .val (.int len), .val (.ref b167), .val (.int b4), .val (.int nn), .val (.int la), .val (.int lb), .val (.int 1), .val (.int z), .val (.int (own_c_2 len b4 nn)), .val (.int (own_c_3 len b4 nn la lb)), .unset] [])) target) (show (own_c_1 len b4 nn) = (7 : Int32) from (by unfold own_c_1; rw [if_neg hc252, if_neg hc253, if_pos hc255, if_neg hc256, if_pos hc258, if_neg hc259, if_neg hc260, if_pos hc261])) kt
                      have kt := own_cast (P := fun z => Steps p.tables e below (T236.setTop (mkF m 552 #[.val (.int p0), .val (.int p1), .val (.int p2), .val (.int p3), .val (.int p4), .val (.int (p0 &&& (3 : Int32))), .val (.int ((own_ushr p0 (2 : Int32)) &&& (3 : Int32))), .val (.int (p2 &&& (255 : Int32))), .val (.int (p2 &&& (65535 : Int32))), .val (.int (own_body p0 p2)), .val (.int len), .val (.ref b167), .val (.int b4), .val (.int nn), .val (.int la), .val (.int lb), .val (.int 1), .val (.int 7), .val (.int z), .val (.int (own_c_3 len b4 nn la lb)), .unset] [])) target) (show (own_c_2 len b4 nn) = nn from (by unfold own_c_2; rw [if_neg hc252, if_neg hc253, if_pos hc255, if_neg hc256, if_pos hc258, if_neg hc259, if_neg hc260, if_pos hc261])) kt
                      have kt := own_cast (P := fun z => Steps p.tables e below (T236.setTop (mkF m 552 #[.val (.int p0), .val (.int p1), .val (.int p2), .val (.int p3), .val (.int p4), .val (.int (p0 &&& (3 : Int32))), .val (.int ((own_ushr p0 (2 : Int32)) &&& (3 : Int32))), .val (.int (p2 &&& (255 : Int32))), .val (.int (p2 &&& (65535 : Int32))), .val (.int (own_body p0 p2)), .val (.int len), .val (.ref b167), .val (.int b4), .val (.int nn), .val (.int la), .val (.int lb), .val (.int 1), .val (.int 7), .val (.int nn), .val (.int z), .unset] [])) target) (show (own_c_3 len b4 nn la lb) = (65536 : Int32) from (by unfold own_c_3; rw [if_neg hc252, if_neg hc253, if_pos hc255, if_neg hc256, if_pos hc258, if_neg hc259, if_neg hc260, if_pos hc261, if_pos hc262])) kt
                      exact kt
                    · show own_S p e below T236 (mkF m 540 (own_loc37 p0 p1 p2 p3 p4 len b167 b4 nn la lb) [(.int lb)]) _
                      refine XS.ifYes X236.here hx rfl (pc0 := 540) (pc' := 548) rfl (hb hby at_540) rfl ((if0 _ _).trans (feq hc262).2) (by decide) (by decide) ?_
                      show own_S p e below T236 (mkF m 548 (own_loc37 p0 p1 p2 p3 p4 len b167 b4 nn la lb) []) _
                      refine XS.iload X236.here hx rfl (hb hby at_548) rfl ?_
                      show own_S p e below T236 (mkF m 550 (own_loc37 p0 p1 p2 p3 p4 len b167 b4 nn la lb) [(.int lb)]) _
                      refine XS.istore X236.here hx rfl (hb hby at_550) rfl (l' := (own_loc39 p0 p1 p2 p3 p4 len b167 b4 nn la lb)) rfl ?_
                      show own_S p e below T236 (mkF m 552 (own_loc39 p0 p1 p2 p3 p4 len b167 b4 nn la lb) []) _
                      have kt := own_cast (P := fun z => Steps p.tables e below (T236.setTop (mkF m 552 #[.val (.int p0), .val (.int p1), .val (.int p2), .val (.int p3), .val (.int p4), .val (.int (p0 &&& (3 : Int32))), .val (.int ((own_ushr p0 (2 : Int32)) &&& (3 : Int32))), .val (.int (p2 &&& (255 : Int32))), .val (.int (p2 &&& (65535 : Int32))), .val (.int (own_body p0 p2)), .val (.int len), .val (.ref b167), .val (.int b4), .val (.int nn), .val (.int la), .val (.int lb), .val (.int z), .val (.int (own_c_1 len b4 nn)), .val (.int (own_c_2 len b4 nn)), .val (.int (own_c_3 len b4 nn la lb)), .unset] [])) target) (show (own_c_0 len b4 nn) = (1 : Int32) from (by unfold own_c_0; rw [if_neg hc252, if_neg hc253, if_pos hc255, if_neg hc256, if_pos hc258, if_neg hc259, if_neg hc260, if_pos hc261])) kt
                      have kt := own_cast (P := fun z => Steps p.tables e below (T236.setTop (mkF m 552 #[.val (.int p0), .val (.int p1), .val (.int p2), .val (.int p3), .val (.int p4), .val (.int (p0 &&& (3 : Int32))), .val (.int ((own_ushr p0 (2 : Int32)) &&& (3 : Int32))), .val (.int (p2 &&& (255 : Int32))), .val (.int (p2 &&& (65535 : Int32))), .val (.int (own_body p0 p2)), .val (.int len), .val (.ref b167), .val (.int b4), .val (.int nn), .val (.int la), .val (.int lb), .val (.int 1), .val (.int z), .val (.int (own_c_2 len b4 nn)), .val (.int (own_c_3 len b4 nn la lb)), .unset] [])) target) (show (own_c_1 len b4 nn) = (7 : Int32) from (by unfold own_c_1; rw [if_neg hc252, if_neg hc253, if_pos hc255, if_neg hc256, if_pos hc258, if_neg hc259, if_neg hc260, if_pos hc261])) kt
                      have kt := own_cast (P := fun z => Steps p.tables e below (T236.setTop (mkF m 552 #[.val (.int p0), .val (.int p1), .val (.int p2), .val (.int p3), .val (.int p4), .val (.int (p0 &&& (3 : Int32))), .val (.int ((own_ushr p0 (2 : Int32)) &&& (3 : Int32))), .val (.int (p2 &&& (255 : Int32))), .val (.int (p2 &&& (65535 : Int32))), .val (.int (own_body p0 p2)), .val (.int len), .val (.ref b167), .val (.int b4), .val (.int nn), .val (.int la), .val (.int lb), .val (.int 1), .val (.int 7), .val (.int z), .val (.int (own_c_3 len b4 nn la lb)), .unset] [])) target) (show (own_c_2 len b4 nn) = nn from (by unfold own_c_2; rw [if_neg hc252, if_neg hc253, if_pos hc255, if_neg hc256, if_pos hc258, if_neg hc259, if_neg hc260, if_pos hc261])) kt
                      have kt := own_cast (P := fun z => Steps p.tables e below (T236.setTop (mkF m 552 #[.val (.int p0), .val (.int p1), .val (.int p2), .val (.int p3), .val (.int p4), .val (.int (p0 &&& (3 : Int32))), .val (.int ((own_ushr p0 (2 : Int32)) &&& (3 : Int32))), .val (.int (p2 &&& (255 : Int32))), .val (.int (p2 &&& (65535 : Int32))), .val (.int (own_body p0 p2)), .val (.int len), .val (.ref b167), .val (.int b4), .val (.int nn), .val (.int la), .val (.int lb), .val (.int 1), .val (.int 7), .val (.int nn), .val (.int z), .unset] [])) target) (show (own_c_3 len b4 nn la lb) = lb from (by unfold own_c_3; rw [if_neg hc252, if_neg hc253, if_pos hc255, if_neg hc256, if_pos hc258, if_neg hc259, if_neg hc260, if_pos hc261, if_neg hc262])) kt
                      exact kt
                  · show own_S p e below T236 (mkF m 524 (own_loc29 p0 p1 p2 p3 p4 len b167 b4 nn la lb) [(.int ((9 : Int32) + nn)), (.int len)]) _
                    refine XS.icmpYes X236.here hx rfl (pc0 := 524) (pc' := 552) rfl (hb hby at_524) rfl (feq hc261).2 (by decide) (by decide) ?_
                    show own_S p e below T236 (mkF m 552 (own_loc29 p0 p1 p2 p3 p4 len b167 b4 nn la lb) []) _
                    have kt := own_cast (P := fun z => Steps p.tables e below (T236.setTop (mkF m 552 #[.val (.int p0), .val (.int p1), .val (.int p2), .val (.int p3), .val (.int p4), .val (.int (p0 &&& (3 : Int32))), .val (.int ((own_ushr p0 (2 : Int32)) &&& (3 : Int32))), .val (.int (p2 &&& (255 : Int32))), .val (.int (p2 &&& (65535 : Int32))), .val (.int (own_body p0 p2)), .val (.int len), .val (.ref b167), .val (.int b4), .val (.int nn), .val (.int la), .val (.int lb), .val (.int z), .val (.int (own_c_1 len b4 nn)), .val (.int (own_c_2 len b4 nn)), .val (.int (own_c_3 len b4 nn la lb)), .unset] [])) target) (show (own_c_0 len b4 nn) = (0 : Int32) from (by unfold own_c_0; rw [if_neg hc252, if_neg hc253, if_pos hc255, if_neg hc256, if_pos hc258, if_neg hc259, if_neg hc260, if_neg hc261])) kt
                    have kt := own_cast (P := fun z => Steps p.tables e below (T236.setTop (mkF m 552 #[.val (.int p0), .val (.int p1), .val (.int p2), .val (.int p3), .val (.int p4), .val (.int (p0 &&& (3 : Int32))), .val (.int ((own_ushr p0 (2 : Int32)) &&& (3 : Int32))), .val (.int (p2 &&& (255 : Int32))), .val (.int (p2 &&& (65535 : Int32))), .val (.int (own_body p0 p2)), .val (.int len), .val (.ref b167), .val (.int b4), .val (.int nn), .val (.int la), .val (.int lb), .val (.int 0), .val (.int z), .val (.int (own_c_2 len b4 nn)), .val (.int (own_c_3 len b4 nn la lb)), .unset] [])) target) (show (own_c_1 len b4 nn) = (0 : Int32) from (by unfold own_c_1; rw [if_neg hc252, if_neg hc253, if_pos hc255, if_neg hc256, if_pos hc258, if_neg hc259, if_neg hc260, if_neg hc261])) kt
                    have kt := own_cast (P := fun z => Steps p.tables e below (T236.setTop (mkF m 552 #[.val (.int p0), .val (.int p1), .val (.int p2), .val (.int p3), .val (.int p4), .val (.int (p0 &&& (3 : Int32))), .val (.int ((own_ushr p0 (2 : Int32)) &&& (3 : Int32))), .val (.int (p2 &&& (255 : Int32))), .val (.int (p2 &&& (65535 : Int32))), .val (.int (own_body p0 p2)), .val (.int len), .val (.ref b167), .val (.int b4), .val (.int nn), .val (.int la), .val (.int lb), .val (.int 0), .val (.int 0), .val (.int z), .val (.int (own_c_3 len b4 nn la lb)), .unset] [])) target) (show (own_c_2 len b4 nn) = (0 : Int32) from (by unfold own_c_2; rw [if_neg hc252, if_neg hc253, if_pos hc255, if_neg hc256, if_pos hc258, if_neg hc259, if_neg hc260, if_neg hc261])) kt
                    have kt := own_cast (P := fun z => Steps p.tables e below (T236.setTop (mkF m 552 #[.val (.int p0), .val (.int p1), .val (.int p2), .val (.int p3), .val (.int p4), .val (.int (p0 &&& (3 : Int32))), .val (.int ((own_ushr p0 (2 : Int32)) &&& (3 : Int32))), .val (.int (p2 &&& (255 : Int32))), .val (.int (p2 &&& (65535 : Int32))), .val (.int (own_body p0 p2)), .val (.int len), .val (.ref b167), .val (.int b4), .val (.int nn), .val (.int la), .val (.int lb), .val (.int 0), .val (.int 0), .val (.int 0), .val (.int z), .unset] [])) target) (show (own_c_3 len b4 nn la lb) = (0 : Int32) from (by unfold own_c_3; rw [if_neg hc252, if_neg hc253, if_pos hc255, if_neg hc256, if_pos hc258, if_neg hc259, if_neg hc260, if_neg hc261])) kt
                    exact kt
            · show own_S p e below T236 (mkF m 482 (own_loc29 p0 p1 p2 p3 p4 len b167 b4 nn la lb) [.int 7, (.int len)]) _
              refine XS.icmpYes X236.here hx rfl (pc0 := 482) (pc' := 552) rfl (hb hby at_482) rfl (flt hc258).2.2.2 (by decide) (by decide) ?_
              show own_S p e below T236 (mkF m 552 (own_loc29 p0 p1 p2 p3 p4 len b167 b4 nn la lb) []) _
              have kt := own_cast (P := fun z => Steps p.tables e below (T236.setTop (mkF m 552 #[.val (.int p0), .val (.int p1), .val (.int p2), .val (.int p3), .val (.int p4), .val (.int (p0 &&& (3 : Int32))), .val (.int ((own_ushr p0 (2 : Int32)) &&& (3 : Int32))), .val (.int (p2 &&& (255 : Int32))), .val (.int (p2 &&& (65535 : Int32))), .val (.int (own_body p0 p2)), .val (.int len), .val (.ref b167), .val (.int b4), .val (.int nn), .val (.int la), .val (.int lb), .val (.int z), .val (.int (own_c_1 len b4 nn)), .val (.int (own_c_2 len b4 nn)), .val (.int (own_c_3 len b4 nn la lb)), .unset] [])) target) (show (own_c_0 len b4 nn) = (0 : Int32) from (by unfold own_c_0; rw [if_neg hc252, if_neg hc253, if_pos hc255, if_neg hc256, if_neg hc258])) kt
              have kt := own_cast (P := fun z => Steps p.tables e below (T236.setTop (mkF m 552 #[.val (.int p0), .val (.int p1), .val (.int p2), .val (.int p3), .val (.int p4), .val (.int (p0 &&& (3 : Int32))), .val (.int ((own_ushr p0 (2 : Int32)) &&& (3 : Int32))), .val (.int (p2 &&& (255 : Int32))), .val (.int (p2 &&& (65535 : Int32))), .val (.int (own_body p0 p2)), .val (.int len), .val (.ref b167), .val (.int b4), .val (.int nn), .val (.int la), .val (.int lb), .val (.int 0), .val (.int z), .val (.int (own_c_2 len b4 nn)), .val (.int (own_c_3 len b4 nn la lb)), .unset] [])) target) (show (own_c_1 len b4 nn) = (0 : Int32) from (by unfold own_c_1; rw [if_neg hc252, if_neg hc253, if_pos hc255, if_neg hc256, if_neg hc258])) kt
              have kt := own_cast (P := fun z => Steps p.tables e below (T236.setTop (mkF m 552 #[.val (.int p0), .val (.int p1), .val (.int p2), .val (.int p3), .val (.int p4), .val (.int (p0 &&& (3 : Int32))), .val (.int ((own_ushr p0 (2 : Int32)) &&& (3 : Int32))), .val (.int (p2 &&& (255 : Int32))), .val (.int (p2 &&& (65535 : Int32))), .val (.int (own_body p0 p2)), .val (.int len), .val (.ref b167), .val (.int b4), .val (.int nn), .val (.int la), .val (.int lb), .val (.int 0), .val (.int 0), .val (.int z), .val (.int (own_c_3 len b4 nn la lb)), .unset] [])) target) (show (own_c_2 len b4 nn) = (0 : Int32) from (by unfold own_c_2; rw [if_neg hc252, if_neg hc253, if_pos hc255, if_neg hc256, if_neg hc258])) kt
              have kt := own_cast (P := fun z => Steps p.tables e below (T236.setTop (mkF m 552 #[.val (.int p0), .val (.int p1), .val (.int p2), .val (.int p3), .val (.int p4), .val (.int (p0 &&& (3 : Int32))), .val (.int ((own_ushr p0 (2 : Int32)) &&& (3 : Int32))), .val (.int (p2 &&& (255 : Int32))), .val (.int (p2 &&& (65535 : Int32))), .val (.int (own_body p0 p2)), .val (.int len), .val (.ref b167), .val (.int b4), .val (.int nn), .val (.int la), .val (.int lb), .val (.int 0), .val (.int 0), .val (.int 0), .val (.int z), .unset] [])) target) (show (own_c_3 len b4 nn la lb) = (0 : Int32) from (by unfold own_c_3; rw [if_neg hc252, if_neg hc253, if_pos hc255, if_neg hc256, if_neg hc258])) kt
              exact kt
        · show own_S p e below T236 (mkF m 378 (own_loc29 p0 p1 p2 p3 p4 len b167 b4 nn la lb) [(.int b4)]) _
          refine XS.ifNo X236.here hx rfl (hb hby at_378) rfl ((if0 _ _).trans (feq hc255).1) ?_
          show own_S p e below T236 (mkF m 381 (own_loc29 p0 p1 p2 p3 p4 len b167 b4 nn la lb) []) _
          refine XS.iload X236.here hx rfl (hb hby at_381) rfl ?_
          show own_S p e below T236 (mkF m 383 (own_loc29 p0 p1 p2 p3 p4 len b167 b4 nn la lb) [(.int len)]) _
          refine XS.iconst X236.here hx rfl (hb hby at_383) ?_
          show own_S p e below T236 (mkF m 384 (own_loc29 p0 p1 p2 p3 p4 len b167 b4 nn la lb) [.int 5, (.int len)]) _
          refine XS.iload X236.here hx rfl (hb hby at_384) rfl ?_
          show own_S p e below T236 (mkF m 386 (own_loc29 p0 p1 p2 p3 p4 len b167 b4 nn la lb) [(.int b4), .int 5, (.int len)]) _
          refine XS.iadd X236.here hx rfl (hb hby at_386) rfl ?_
          by_cases hc263 : len = ((5 : Int32) + b4)
          · show own_S p e below T236 (mkF m 387 (own_loc29 p0 p1 p2 p3 p4 len b167 b4 nn la lb) [(.int ((5 : Int32) + b4)), (.int len)]) _
            refine XS.icmpNo X236.here hx rfl (hb hby at_387) rfl (teq hc263).2 ?_
            show own_S p e below T236 (mkF m 390 (own_loc29 p0 p1 p2 p3 p4 len b167 b4 nn la lb) []) _
            refine XS.iconst X236.here hx rfl (hb hby at_390) ?_
            show own_S p e below T236 (mkF m 391 (own_loc29 p0 p1 p2 p3 p4 len b167 b4 nn la lb) [.int 1]) _
            refine XS.istore X236.here hx rfl (hb hby at_391) rfl (l' := (own_loc30 p0 p1 p2 p3 p4 len b167 b4 nn la lb)) rfl ?_
            show own_S p e below T236 (mkF m 393 (own_loc30 p0 p1 p2 p3 p4 len b167 b4 nn la lb) []) _
            refine XS.iconst X236.here hx rfl (hb hby at_393) ?_
            show own_S p e below T236 (mkF m 394 (own_loc30 p0 p1 p2 p3 p4 len b167 b4 nn la lb) [.int 5]) _
            refine XS.istore X236.here hx rfl (hb hby at_394) rfl (l' := (own_loc31 p0 p1 p2 p3 p4 len b167 b4 nn la lb)) rfl ?_
            show own_S p e below T236 (mkF m 396 (own_loc31 p0 p1 p2 p3 p4 len b167 b4 nn la lb) []) _
            refine XS.iload X236.here hx rfl (hb hby at_396) rfl ?_
            show own_S p e below T236 (mkF m 398 (own_loc31 p0 p1 p2 p3 p4 len b167 b4 nn la lb) [(.int b4)]) _
            refine XS.istore X236.here hx rfl (hb hby at_398) rfl (l' := (own_loc40 p0 p1 p2 p3 p4 len b167 b4 nn la lb)) rfl ?_
            show own_S p e below T236 (mkF m 400 (own_loc40 p0 p1 p2 p3 p4 len b167 b4 nn la lb) []) _
            refine XS.iconst X236.here hx rfl (hb hby at_400) ?_
            show own_S p e below T236 (mkF m 401 (own_loc40 p0 p1 p2 p3 p4 len b167 b4 nn la lb) [.int 0]) _
            refine XS.istore X236.here hx rfl (hb hby at_401) rfl (l' := (own_loc40 p0 p1 p2 p3 p4 len b167 b4 nn la lb)) rfl ?_
            show own_S p e below T236 (mkF m 403 (own_loc40 p0 p1 p2 p3 p4 len b167 b4 nn la lb) []) _
            refine XS.goto X236.here hx rfl (pc0 := 403) (pc' := 552) rfl (hb hby at_403) (by decide) (by decide) ?_
            show own_S p e below T236 (mkF m 552 (own_loc40 p0 p1 p2 p3 p4 len b167 b4 nn la lb) []) _
            have kt := own_cast (P := fun z => Steps p.tables e below (T236.setTop (mkF m 552 #[.val (.int p0), .val (.int p1), .val (.int p2), .val (.int p3), .val (.int p4), .val (.int (p0 &&& (3 : Int32))), .val (.int ((own_ushr p0 (2 : Int32)) &&& (3 : Int32))), .val (.int (p2 &&& (255 : Int32))), .val (.int (p2 &&& (65535 : Int32))), .val (.int (own_body p0 p2)), .val (.int len), .val (.ref b167), .val (.int b4), .val (.int nn), .val (.int la), .val (.int lb), .val (.int z), .val (.int (own_c_1 len b4 nn)), .val (.int (own_c_2 len b4 nn)), .val (.int (own_c_3 len b4 nn la lb)), .unset] [])) target) (show (own_c_0 len b4 nn) = (1 : Int32) from (by unfold own_c_0; rw [if_neg hc252, if_neg hc253, if_neg hc255, if_pos hc263])) kt
            have kt := own_cast (P := fun z => Steps p.tables e below (T236.setTop (mkF m 552 #[.val (.int p0), .val (.int p1), .val (.int p2), .val (.int p3), .val (.int p4), .val (.int (p0 &&& (3 : Int32))), .val (.int ((own_ushr p0 (2 : Int32)) &&& (3 : Int32))), .val (.int (p2 &&& (255 : Int32))), .val (.int (p2 &&& (65535 : Int32))), .val (.int (own_body p0 p2)), .val (.int len), .val (.ref b167), .val (.int b4), .val (.int nn), .val (.int la), .val (.int lb), .val (.int 1), .val (.int z), .val (.int (own_c_2 len b4 nn)), .val (.int (own_c_3 len b4 nn la lb)), .unset] [])) target) (show (own_c_1 len b4 nn) = (5 : Int32) from (by unfold own_c_1; rw [if_neg hc252, if_neg hc253, if_neg hc255, if_pos hc263])) kt
            have kt := own_cast (P := fun z => Steps p.tables e below (T236.setTop (mkF m 552 #[.val (.int p0), .val (.int p1), .val (.int p2), .val (.int p3), .val (.int p4), .val (.int (p0 &&& (3 : Int32))), .val (.int ((own_ushr p0 (2 : Int32)) &&& (3 : Int32))), .val (.int (p2 &&& (255 : Int32))), .val (.int (p2 &&& (65535 : Int32))), .val (.int (own_body p0 p2)), .val (.int len), .val (.ref b167), .val (.int b4), .val (.int nn), .val (.int la), .val (.int lb), .val (.int 1), .val (.int 5), .val (.int z), .val (.int (own_c_3 len b4 nn la lb)), .unset] [])) target) (show (own_c_2 len b4 nn) = b4 from (by unfold own_c_2; rw [if_neg hc252, if_neg hc253, if_neg hc255, if_pos hc263])) kt
            have kt := own_cast (P := fun z => Steps p.tables e below (T236.setTop (mkF m 552 #[.val (.int p0), .val (.int p1), .val (.int p2), .val (.int p3), .val (.int p4), .val (.int (p0 &&& (3 : Int32))), .val (.int ((own_ushr p0 (2 : Int32)) &&& (3 : Int32))), .val (.int (p2 &&& (255 : Int32))), .val (.int (p2 &&& (65535 : Int32))), .val (.int (own_body p0 p2)), .val (.int len), .val (.ref b167), .val (.int b4), .val (.int nn), .val (.int la), .val (.int lb), .val (.int 1), .val (.int 5), .val (.int b4), .val (.int z), .unset] [])) target) (show (own_c_3 len b4 nn la lb) = (0 : Int32) from (by unfold own_c_3; rw [if_neg hc252, if_neg hc253, if_neg hc255, if_pos hc263])) kt
            exact kt
          · show own_S p e below T236 (mkF m 387 (own_loc29 p0 p1 p2 p3 p4 len b167 b4 nn la lb) [(.int ((5 : Int32) + b4)), (.int len)]) _
            refine XS.icmpYes X236.here hx rfl (pc0 := 387) (pc' := 406) rfl (hb hby at_387) rfl (feq hc263).2 (by decide) (by decide) ?_
            show own_S p e below T236 (mkF m 406 (own_loc29 p0 p1 p2 p3 p4 len b167 b4 nn la lb) []) _
            refine XS.iload X236.here hx rfl (hb hby at_406) rfl ?_
            show own_S p e below T236 (mkF m 408 (own_loc29 p0 p1 p2 p3 p4 len b167 b4 nn la lb) [(.int len)]) _
            refine XS.bipush X236.here hx rfl (hb hby at_408) ?_
            show own_S p e below T236 (mkF m 410 (own_loc29 p0 p1 p2 p3 p4 len b167 b4 nn la lb) [.int 6, (.int len)]) _
            refine XS.iload X236.here hx rfl (hb hby at_410) rfl ?_
            show own_S p e below T236 (mkF m 412 (own_loc29 p0 p1 p2 p3 p4 len b167 b4 nn la lb) [(.int b4), .int 6, (.int len)]) _
            refine XS.iadd X236.here hx rfl (hb hby at_412) rfl ?_
            by_cases hc264 : len = ((6 : Int32) + b4)
            · show own_S p e below T236 (mkF m 413 (own_loc29 p0 p1 p2 p3 p4 len b167 b4 nn la lb) [(.int ((6 : Int32) + b4)), (.int len)]) _
              refine XS.icmpNo X236.here hx rfl (hb hby at_413) rfl (teq hc264).2 ?_
              show own_S p e below T236 (mkF m 416 (own_loc29 p0 p1 p2 p3 p4 len b167 b4 nn la lb) []) _
              refine XS.iconst X236.here hx rfl (hb hby at_416) ?_
              show own_S p e below T236 (mkF m 417 (own_loc29 p0 p1 p2 p3 p4 len b167 b4 nn la lb) [.int 1]) _
              refine XS.istore X236.here hx rfl (hb hby at_417) rfl (l' := (own_loc30 p0 p1 p2 p3 p4 len b167 b4 nn la lb)) rfl ?_
              show own_S p e below T236 (mkF m 419 (own_loc30 p0 p1 p2 p3 p4 len b167 b4 nn la lb) []) _
              refine XS.iconst X236.here hx rfl (hb hby at_419) ?_
              show own_S p e below T236 (mkF m 420 (own_loc30 p0 p1 p2 p3 p4 len b167 b4 nn la lb) [.int 5]) _
              refine XS.istore X236.here hx rfl (hb hby at_420) rfl (l' := (own_loc31 p0 p1 p2 p3 p4 len b167 b4 nn la lb)) rfl ?_
              show own_S p e below T236 (mkF m 422 (own_loc31 p0 p1 p2 p3 p4 len b167 b4 nn la lb) []) _
              refine XS.iload X236.here hx rfl (hb hby at_422) rfl ?_
              show own_S p e below T236 (mkF m 424 (own_loc31 p0 p1 p2 p3 p4 len b167 b4 nn la lb) [(.int b4)]) _
              refine XS.istore X236.here hx rfl (hb hby at_424) rfl (l' := (own_loc40 p0 p1 p2 p3 p4 len b167 b4 nn la lb)) rfl ?_
              show own_S p e below T236 (mkF m 426 (own_loc40 p0 p1 p2 p3 p4 len b167 b4 nn la lb) []) _
              refine XS.iload X236.here hx rfl (hb hby at_426) rfl ?_
              by_cases hc265 : la = (0 : Int32)
              · show own_S p e below T236 (mkF m 428 (own_loc40 p0 p1 p2 p3 p4 len b167 b4 nn la lb) [(.int la)]) _
                refine XS.ifNo X236.here hx rfl (hb hby at_428) rfl ((if0 _ _).trans (teq hc265).2) ?_
                show own_S p e below T236 (mkF m 431 (own_loc40 p0 p1 p2 p3 p4 len b167 b4 nn la lb) []) _
                refine XS.sipush X236.here hx rfl (hb hby at_431) ?_
                show own_S p e below T236 (mkF m 434 (own_loc40 p0 p1 p2 p3 p4 len b167 b4 nn la lb) [.int 256]) _
                refine XS.goto X236.here hx rfl (pc0 := 434) (pc' := 439) rfl (hb hby at_434) (by decide) (by decide) ?_
                show own_S p e below T236 (mkF m 439 (own_loc40 p0 p1 p2 p3 p4 len b167 b4 nn la lb) [.int 256]) _
                refine XS.istore X236.here hx rfl (hb hby at_439) rfl (l' := (own_loc41 p0 p1 p2 p3 p4 len b167 b4 nn la lb)) rfl ?_
                show own_S p e below T236 (mkF m 441 (own_loc41 p0 p1 p2 p3 p4 len b167 b4 nn la lb) []) _
                refine XS.goto X236.here hx rfl (pc0 := 441) (pc' := 552) rfl (hb hby at_441) (by decide) (by decide) ?_
                show own_S p e below T236 (mkF m 552 (own_loc41 p0 p1 p2 p3 p4 len b167 b4 nn la lb) []) _
                have kt := own_cast (P := fun z => Steps p.tables e below (T236.setTop (mkF m 552 #[.val (.int p0), .val (.int p1), .val (.int p2), .val (.int p3), .val (.int p4), .val (.int (p0 &&& (3 : Int32))), .val (.int ((own_ushr p0 (2 : Int32)) &&& (3 : Int32))), .val (.int (p2 &&& (255 : Int32))), .val (.int (p2 &&& (65535 : Int32))), .val (.int (own_body p0 p2)), .val (.int len), .val (.ref b167), .val (.int b4), .val (.int nn), .val (.int la), .val (.int lb), .val (.int z), .val (.int (own_c_1 len b4 nn)), .val (.int (own_c_2 len b4 nn)), .val (.int (own_c_3 len b4 nn la lb)), .unset] [])) target) (show (own_c_0 len b4 nn) = (1 : Int32) from (by unfold own_c_0; rw [if_neg hc252, if_neg hc253, if_neg hc255, if_neg hc263, if_pos hc264])) kt
                have kt := own_cast (P := fun z => Steps p.tables e below (T236.setTop (mkF m 552 #[.val (.int p0), .val (.int p1), .val (.int p2), .val (.int p3), .val (.int p4), .val (.int (p0 &&& (3 : Int32))), .val (.int ((own_ushr p0 (2 : Int32)) &&& (3 : Int32))), .val (.int (p2 &&& (255 : Int32))), .val (.int (p2 &&& (65535 : Int32))), .val (.int (own_body p0 p2)), .val (.int len), .val (.ref b167), .val (.int b4), .val (.int nn), .val (.int la), .val (.int lb), .val (.int 1), .val (.int z), .val (.int (own_c_2 len b4 nn)), .val (.int (own_c_3 len b4 nn la lb)), .unset] [])) target) (show (own_c_1 len b4 nn) = (5 : Int32) from (by unfold own_c_1; rw [if_neg hc252, if_neg hc253, if_neg hc255, if_neg hc263, if_pos hc264])) kt
                have kt := own_cast (P := fun z => Steps p.tables e below (T236.setTop (mkF m 552 #[.val (.int p0), .val (.int p1), .val (.int p2), .val (.int p3), .val (.int p4), .val (.int (p0 &&& (3 : Int32))), .val (.int ((own_ushr p0 (2 : Int32)) &&& (3 : Int32))), .val (.int (p2 &&& (255 : Int32))), .val (.int (p2 &&& (65535 : Int32))), .val (.int (own_body p0 p2)), .val (.int len), .val (.ref b167), .val (.int b4), .val (.int nn), .val (.int la), .val (.int lb), .val (.int 1), .val (.int 5), .val (.int z), .val (.int (own_c_3 len b4 nn la lb)), .unset] [])) target) (show (own_c_2 len b4 nn) = b4 from (by unfold own_c_2; rw [if_neg hc252, if_neg hc253, if_neg hc255, if_neg hc263, if_pos hc264])) kt
                have kt := own_cast (P := fun z => Steps p.tables e below (T236.setTop (mkF m 552 #[.val (.int p0), .val (.int p1), .val (.int p2), .val (.int p3), .val (.int p4), .val (.int (p0 &&& (3 : Int32))), .val (.int ((own_ushr p0 (2 : Int32)) &&& (3 : Int32))), .val (.int (p2 &&& (255 : Int32))), .val (.int (p2 &&& (65535 : Int32))), .val (.int (own_body p0 p2)), .val (.int len), .val (.ref b167), .val (.int b4), .val (.int nn), .val (.int la), .val (.int lb), .val (.int 1), .val (.int 5), .val (.int b4), .val (.int z), .unset] [])) target) (show (own_c_3 len b4 nn la lb) = (256 : Int32) from (by unfold own_c_3; rw [if_neg hc252, if_neg hc253, if_neg hc255, if_neg hc263, if_pos hc264, if_pos hc265])) kt
                exact kt
              · show own_S p e below T236 (mkF m 428 (own_loc40 p0 p1 p2 p3 p4 len b167 b4 nn la lb) [(.int la)]) _
                refine XS.ifYes X236.here hx rfl (pc0 := 428) (pc' := 437) rfl (hb hby at_428) rfl ((if0 _ _).trans (feq hc265).2) (by decide) (by decide) ?_
                show own_S p e below T236 (mkF m 437 (own_loc40 p0 p1 p2 p3 p4 len b167 b4 nn la lb) []) _
                refine XS.iload X236.here hx rfl (hb hby at_437) rfl ?_
                show own_S p e below T236 (mkF m 439 (own_loc40 p0 p1 p2 p3 p4 len b167 b4 nn la lb) [(.int la)]) _
                refine XS.istore X236.here hx rfl (hb hby at_439) rfl (l' := (own_loc42 p0 p1 p2 p3 p4 len b167 b4 nn la lb)) rfl ?_
                show own_S p e below T236 (mkF m 441 (own_loc42 p0 p1 p2 p3 p4 len b167 b4 nn la lb) []) _
                refine XS.goto X236.here hx rfl (pc0 := 441) (pc' := 552) rfl (hb hby at_441) (by decide) (by decide) ?_
                show own_S p e below T236 (mkF m 552 (own_loc42 p0 p1 p2 p3 p4 len b167 b4 nn la lb) []) _
                have kt := own_cast (P := fun z => Steps p.tables e below (T236.setTop (mkF m 552 #[.val (.int p0), .val (.int p1), .val (.int p2), .val (.int p3), .val (.int p4), .val (.int (p0 &&& (3 : Int32))), .val (.int ((own_ushr p0 (2 : Int32)) &&& (3 : Int32))), .val (.int (p2 &&& (255 : Int32))), .val (.int (p2 &&& (65535 : Int32))), .val (.int (own_body p0 p2)), .val (.int len), .val (.ref b167), .val (.int b4), .val (.int nn), .val (.int la), .val (.int lb), .val (.int z), .val (.int (own_c_1 len b4 nn)), .val (.int (own_c_2 len b4 nn)), .val (.int (own_c_3 len b4 nn la lb)), .unset] [])) target) (show (own_c_0 len b4 nn) = (1 : Int32) from (by unfold own_c_0; rw [if_neg hc252, if_neg hc253, if_neg hc255, if_neg hc263, if_pos hc264])) kt
                have kt := own_cast (P := fun z => Steps p.tables e below (T236.setTop (mkF m 552 #[.val (.int p0), .val (.int p1), .val (.int p2), .val (.int p3), .val (.int p4), .val (.int (p0 &&& (3 : Int32))), .val (.int ((own_ushr p0 (2 : Int32)) &&& (3 : Int32))), .val (.int (p2 &&& (255 : Int32))), .val (.int (p2 &&& (65535 : Int32))), .val (.int (own_body p0 p2)), .val (.int len), .val (.ref b167), .val (.int b4), .val (.int nn), .val (.int la), .val (.int lb), .val (.int 1), .val (.int z), .val (.int (own_c_2 len b4 nn)), .val (.int (own_c_3 len b4 nn la lb)), .unset] [])) target) (show (own_c_1 len b4 nn) = (5 : Int32) from (by unfold own_c_1; rw [if_neg hc252, if_neg hc253, if_neg hc255, if_neg hc263, if_pos hc264])) kt
                have kt := own_cast (P := fun z => Steps p.tables e below (T236.setTop (mkF m 552 #[.val (.int p0), .val (.int p1), .val (.int p2), .val (.int p3), .val (.int p4), .val (.int (p0 &&& (3 : Int32))), .val (.int ((own_ushr p0 (2 : Int32)) &&& (3 : Int32))), .val (.int (p2 &&& (255 : Int32))), .val (.int (p2 &&& (65535 : Int32))), .val (.int (own_body p0 p2)), .val (.int len), .val (.ref b167), .val (.int b4), .val (.int nn), .val (.int la), .val (.int lb), .val (.int 1), .val (.int 5), .val (.int z), .val (.int (own_c_3 len b4 nn la lb)), .unset] [])) target) (show (own_c_2 len b4 nn) = b4 from (by unfold own_c_2; rw [if_neg hc252, if_neg hc253, if_neg hc255, if_neg hc263, if_pos hc264])) kt
                have kt := own_cast (P := fun z => Steps p.tables e below (T236.setTop (mkF m 552 #[.val (.int p0), .val (.int p1), .val (.int p2), .val (.int p3), .val (.int p4), .val (.int (p0 &&& (3 : Int32))), .val (.int ((own_ushr p0 (2 : Int32)) &&& (3 : Int32))), .val (.int (p2 &&& (255 : Int32))), .val (.int (p2 &&& (65535 : Int32))), .val (.int (own_body p0 p2)), .val (.int len), .val (.ref b167), .val (.int b4), .val (.int nn), .val (.int la), .val (.int lb), .val (.int 1), .val (.int 5), .val (.int b4), .val (.int z), .unset] [])) target) (show (own_c_3 len b4 nn la lb) = la from (by unfold own_c_3; rw [if_neg hc252, if_neg hc253, if_neg hc255, if_neg hc263, if_pos hc264, if_neg hc265])) kt
                exact kt
            · show own_S p e below T236 (mkF m 413 (own_loc29 p0 p1 p2 p3 p4 len b167 b4 nn la lb) [(.int ((6 : Int32) + b4)), (.int len)]) _
              refine XS.icmpYes X236.here hx rfl (pc0 := 413) (pc' := 552) rfl (hb hby at_413) rfl (feq hc264).2 (by decide) (by decide) ?_
              show own_S p e below T236 (mkF m 552 (own_loc29 p0 p1 p2 p3 p4 len b167 b4 nn la lb) []) _
              have kt := own_cast (P := fun z => Steps p.tables e below (T236.setTop (mkF m 552 #[.val (.int p0), .val (.int p1), .val (.int p2), .val (.int p3), .val (.int p4), .val (.int (p0 &&& (3 : Int32))), .val (.int ((own_ushr p0 (2 : Int32)) &&& (3 : Int32))), .val (.int (p2 &&& (255 : Int32))), .val (.int (p2 &&& (65535 : Int32))), .val (.int (own_body p0 p2)), .val (.int len), .val (.ref b167), .val (.int b4), .val (.int nn), .val (.int la), .val (.int lb), .val (.int z), .val (.int (own_c_1 len b4 nn)), .val (.int (own_c_2 len b4 nn)), .val (.int (own_c_3 len b4 nn la lb)), .unset] [])) target) (show (own_c_0 len b4 nn) = (0 : Int32) from (by unfold own_c_0; rw [if_neg hc252, if_neg hc253, if_neg hc255, if_neg hc263, if_neg hc264])) kt
              have kt := own_cast (P := fun z => Steps p.tables e below (T236.setTop (mkF m 552 #[.val (.int p0), .val (.int p1), .val (.int p2), .val (.int p3), .val (.int p4), .val (.int (p0 &&& (3 : Int32))), .val (.int ((own_ushr p0 (2 : Int32)) &&& (3 : Int32))), .val (.int (p2 &&& (255 : Int32))), .val (.int (p2 &&& (65535 : Int32))), .val (.int (own_body p0 p2)), .val (.int len), .val (.ref b167), .val (.int b4), .val (.int nn), .val (.int la), .val (.int lb), .val (.int 0), .val (.int z), .val (.int (own_c_2 len b4 nn)), .val (.int (own_c_3 len b4 nn la lb)), .unset] [])) target) (show (own_c_1 len b4 nn) = (0 : Int32) from (by unfold own_c_1; rw [if_neg hc252, if_neg hc253, if_neg hc255, if_neg hc263, if_neg hc264])) kt
              have kt := own_cast (P := fun z => Steps p.tables e below (T236.setTop (mkF m 552 #[.val (.int p0), .val (.int p1), .val (.int p2), .val (.int p3), .val (.int p4), .val (.int (p0 &&& (3 : Int32))), .val (.int ((own_ushr p0 (2 : Int32)) &&& (3 : Int32))), .val (.int (p2 &&& (255 : Int32))), .val (.int (p2 &&& (65535 : Int32))), .val (.int (own_body p0 p2)), .val (.int len), .val (.ref b167), .val (.int b4), .val (.int nn), .val (.int la), .val (.int lb), .val (.int 0), .val (.int 0), .val (.int z), .val (.int (own_c_3 len b4 nn la lb)), .unset] [])) target) (show (own_c_2 len b4 nn) = (0 : Int32) from (by unfold own_c_2; rw [if_neg hc252, if_neg hc253, if_neg hc255, if_neg hc263, if_neg hc264])) kt
              have kt := own_cast (P := fun z => Steps p.tables e below (T236.setTop (mkF m 552 #[.val (.int p0), .val (.int p1), .val (.int p2), .val (.int p3), .val (.int p4), .val (.int (p0 &&& (3 : Int32))), .val (.int ((own_ushr p0 (2 : Int32)) &&& (3 : Int32))), .val (.int (p2 &&& (255 : Int32))), .val (.int (p2 &&& (65535 : Int32))), .val (.int (own_body p0 p2)), .val (.int len), .val (.ref b167), .val (.int b4), .val (.int nn), .val (.int la), .val (.int lb), .val (.int 0), .val (.int 0), .val (.int 0), .val (.int z), .unset] [])) target) (show (own_c_3 len b4 nn la lb) = (0 : Int32) from (by unfold own_c_3; rw [if_neg hc252, if_neg hc253, if_neg hc255, if_neg hc263, if_neg hc264])) kt
              exact kt
  have cp267 : ∀ target, own_S p e below T236 (mkF m 554 (own_loc43 p0 p1 p2 p3 p4 len b167 b4 nn la lb) [(.ref b167)]) target → own_S p e below s₁ (mkF m 0 (own_loc9 p0 p1 p2 p3 p4) []) target := by
    intro target kt
    show own_S p e below s₁ (mkF m 0 (own_loc9 p0 p1 p2 p3 p4) []) _
    refine XS.iloadN X0.here hx rfl (hb hby at_0) rfl ?_
    show own_S p e below s₁ (mkF m 1 (own_loc9 p0 p1 p2 p3 p4) [(.int p0)]) _
    refine XS.iconst X0.here hx rfl (hb hby at_1) ?_
    show own_S p e below s₁ (mkF m 2 (own_loc9 p0 p1 p2 p3 p4) [.int 3, (.int p0)]) _
    refine XS.iand X0.here hx rfl (hb hby at_2) rfl ?_
    show own_S p e below s₁ (mkF m 3 (own_loc9 p0 p1 p2 p3 p4) [(.int (p0 &&& (3 : Int32)))]) _
    refine XS.istore X0.here hx rfl (hb hby at_3) rfl (l' := (own_loc10 p0 p1 p2 p3 p4)) rfl ?_
    show own_S p e below s₁ (mkF m 5 (own_loc10 p0 p1 p2 p3 p4) []) _
    refine XS.iloadN X0.here hx rfl (hb hby at_5) rfl ?_
    show own_S p e below s₁ (mkF m 6 (own_loc10 p0 p1 p2 p3 p4) [(.int p0)]) _
    refine XS.iconst X0.here hx rfl (hb hby at_6) ?_
    show own_S p e below s₁ (mkF m 7 (own_loc10 p0 p1 p2 p3 p4) [.int 2, (.int p0)]) _
    refine XS.iushr X0.here hx rfl (hb hby at_7) rfl ?_
    show own_S p e below s₁ (mkF m 8 (own_loc10 p0 p1 p2 p3 p4) [(.int (own_ushr p0 (2 : Int32)))]) _
    refine XS.iconst X0.here hx rfl (hb hby at_8) ?_
    show own_S p e below s₁ (mkF m 9 (own_loc10 p0 p1 p2 p3 p4) [.int 3, (.int (own_ushr p0 (2 : Int32)))]) _
    refine XS.iand X0.here hx rfl (hb hby at_9) rfl ?_
    show own_S p e below s₁ (mkF m 10 (own_loc10 p0 p1 p2 p3 p4) [(.int ((own_ushr p0 (2 : Int32)) &&& (3 : Int32)))]) _
    refine XS.istore X0.here hx rfl (hb hby at_10) rfl (l' := (own_loc11 p0 p1 p2 p3 p4)) rfl ?_
    show own_S p e below s₁ (mkF m 12 (own_loc11 p0 p1 p2 p3 p4) []) _
    refine XS.iloadN X0.here hx rfl (hb hby at_12) rfl ?_
    show own_S p e below s₁ (mkF m 13 (own_loc11 p0 p1 p2 p3 p4) [(.int p2)]) _
    refine XS.sipush X0.here hx rfl (hb hby at_13) ?_
    show own_S p e below s₁ (mkF m 16 (own_loc11 p0 p1 p2 p3 p4) [.int 255, (.int p2)]) _
    refine XS.iand X0.here hx rfl (hb hby at_16) rfl ?_
    show own_S p e below s₁ (mkF m 17 (own_loc11 p0 p1 p2 p3 p4) [(.int (p2 &&& (255 : Int32)))]) _
    refine XS.istore X0.here hx rfl (hb hby at_17) rfl (l' := (own_loc12 p0 p1 p2 p3 p4)) rfl ?_
    show own_S p e below s₁ (mkF m 19 (own_loc12 p0 p1 p2 p3 p4) []) _
    refine XS.iloadN X0.here hx rfl (hb hby at_19) rfl ?_
    show own_S p e below s₁ (mkF m 20 (own_loc12 p0 p1 p2 p3 p4) [(.int p2)]) _
    refine X0.ldcInt hx hown (mvT hZ (hw _ (List.mem_of_getElem? (i := 0) rfl))) (g := (mkF m 20 (own_loc12 p0 p1 p2 p3 p4) [(.int p2)])) rfl (hb hby at_20) _ ?_
    show own_S p e below s₁ (mkF m 22 (own_loc12 p0 p1 p2 p3 p4) [.int 65535, (.int p2)]) _
    refine XS.iand X0.here hx rfl (hb hby at_22) rfl ?_
    show own_S p e below s₁ (mkF m 23 (own_loc12 p0 p1 p2 p3 p4) [(.int (p2 &&& (65535 : Int32)))]) _
    refine XS.istore X0.here hx rfl (hb hby at_23) rfl (l' := (own_loc13 p0 p1 p2 p3 p4)) rfl ?_
    show own_S p e below s₁ (mkF m 25 (own_loc13 p0 p1 p2 p3 p4) []) _
    refine sg165 _ ?_
    show own_S p e below s₁ (mkF m 62 (own_loc13 p0 p1 p2 p3 p4) [(.int (own_body p0 p2))]) _
    refine XS.istore X0.here hx rfl (hb hby at_62) rfl (l' := (own_loc14 p0 p1 p2 p3 p4)) rfl ?_
    show own_S p e below s₁ (mkF m 64 (own_loc14 p0 p1 p2 p3 p4) []) _
    refine XS.iconst X0.here hx rfl (hb hby at_64) ?_
    show own_S p e below s₁ (mkF m 65 (own_loc14 p0 p1 p2 p3 p4) [.int 4]) _
    refine XS.iload X0.here hx rfl (hb hby at_65) rfl ?_
    show own_S p e below s₁ (mkF m 67 (own_loc14 p0 p1 p2 p3 p4) [(.int (own_body p0 p2)), .int 4]) _
    refine XS.iadd X0.here hx rfl (hb hby at_67) rfl ?_
    show own_S p e below s₁ (mkF m 68 (own_loc14 p0 p1 p2 p3 p4) [(.int ((4 : Int32) + (own_body p0 p2)))]) _
    refine XS.istore X0.here hx rfl (hb hby at_68) rfl (l' := (own_loc15 p0 p1 p2 p3 p4)) rfl ?_
    show own_S p e below s₁ (mkF m 70 (own_loc15 p0 p1 p2 p3 p4) []) _
    refine sg166 _ ?_
    show own_S p e below s₁ (mkF m 70 (own_loc16 p0 p1 p2 p3 p4 len) []) _
    refine XS.iload X0.here hx rfl (hb hby at_70) rfl ?_
    show own_S p e below s₁ (mkF m 72 (own_loc16 p0 p1 p2 p3 p4 len) [(.int len)]) _
    refine st167 _ ?_
    show own_S p e below T167 (mkF m 74 (own_loc16 p0 p1 p2 p3 p4 len) [(.ref b167)]) _
    refine XS.astore X167.here hx rfl (hb hby at_74) rfl rfl (l' := (own_loc17 p0 p1 p2 p3 p4 len b167)) rfl ?_
    show own_S p e below T167 (mkF m 76 (own_loc17 p0 p1 p2 p3 p4 len b167) []) _
    refine XS.aload X167.here hx rfl (hb hby at_76) rfl rfl ?_
    show own_S p e below T167 (mkF m 78 (own_loc17 p0 p1 p2 p3 p4 len b167) [(.ref b167)]) _
    refine XS.iload X167.here hx rfl (hb hby at_78) rfl ?_
    show own_S p e below T167 (mkF m 80 (own_loc17 p0 p1 p2 p3 p4 len b167) [(.int len), (.ref b167)]) _
    refine XS.iconst X167.here hx rfl (hb hby at_80) ?_
    show own_S p e below T167 (mkF m 81 (own_loc17 p0 p1 p2 p3 p4 len b167) [.int 1, (.int len), (.ref b167)]) _
    refine XS.isub X167.here hx rfl (hb hby at_81) rfl ?_
    show own_S p e below T167 (mkF m 82 (own_loc17 p0 p1 p2 p3 p4 len b167) [(.int (len - (1 : Int32))), (.ref b167)]) _
    refine XS.iloadN X167.here hx rfl (hb hby at_82) rfl ?_
    show own_S p e below T167 (mkF m 83 (own_loc17 p0 p1 p2 p3 p4 len b167) [(.int p3), (.int (len - (1 : Int32))), (.ref b167)]) _
    refine XS.i2b X167.here hx rfl (hb hby at_83) rfl ?_
    show own_S p e below T167 (mkF m 84 (own_loc17 p0 p1 p2 p3 p4 len b167) [(.int (p3.toInt8.toInt32)), (.int (len - (1 : Int32))), (.ref b167)]) _
    refine st169 _ ?_
    show own_S p e below T169 (mkF m 85 (own_loc17 p0 p1 p2 p3 p4 len b167) []) _
    refine XS.aload X169.here hx rfl (hb hby at_85) rfl rfl ?_
    show own_S p e below T169 (mkF m 87 (own_loc17 p0 p1 p2 p3 p4 len b167) [(.ref b167)]) _
    refine XS.iload X169.here hx rfl (hb hby at_87) rfl ?_
    show own_S p e below T169 (mkF m 89 (own_loc17 p0 p1 p2 p3 p4 len b167) [(.int len), (.ref b167)]) _
    refine XS.iconst X169.here hx rfl (hb hby at_89) ?_
    show own_S p e below T169 (mkF m 90 (own_loc17 p0 p1 p2 p3 p4 len b167) [.int 2, (.int len), (.ref b167)]) _
    refine XS.isub X169.here hx rfl (hb hby at_90) rfl ?_
    show own_S p e below T169 (mkF m 91 (own_loc17 p0 p1 p2 p3 p4 len b167) [(.int (len - (2 : Int32))), (.ref b167)]) _
    refine XS.iloadN X169.here hx rfl (hb hby at_91) rfl ?_
    show own_S p e below T169 (mkF m 92 (own_loc17 p0 p1 p2 p3 p4 len b167) [(.int p3), (.int (len - (2 : Int32))), (.ref b167)]) _
    refine XS.bipush X169.here hx rfl (hb hby at_92) ?_
    show own_S p e below T169 (mkF m 94 (own_loc17 p0 p1 p2 p3 p4 len b167) [.int 8, (.int p3), (.int (len - (2 : Int32))), (.ref b167)]) _
    refine XS.ishr X169.here hx rfl (hb hby at_94) rfl ?_
    show own_S p e below T169 (mkF m 95 (own_loc17 p0 p1 p2 p3 p4 len b167) [(.int (p3 >>> ((8 : Int32) &&& 31))), (.int (len - (2 : Int32))), (.ref b167)]) _
    refine XS.i2b X169.here hx rfl (hb hby at_95) rfl ?_
    show own_S p e below T169 (mkF m 96 (own_loc17 p0 p1 p2 p3 p4 len b167) [(.int ((p3 >>> ((8 : Int32) &&& 31)).toInt8.toInt32)), (.int (len - (2 : Int32))), (.ref b167)]) _
    refine st172 _ ?_
    show own_S p e below T172 (mkF m 97 (own_loc17 p0 p1 p2 p3 p4 len b167) []) _
    refine st175 _ ?_
    show own_S p e below T175 (mkF m 191 (own_loc17 p0 p1 p2 p3 p4 len b167) []) _
    refine XS.aload X175.here hx rfl (hb hby at_191) rfl rfl ?_
    show own_S p e below T175 (mkF m 193 (own_loc17 p0 p1 p2 p3 p4 len b167) [(.ref b167)]) _
    refine XS.iconst X175.here hx rfl (hb hby at_193) ?_
    show own_S p e below T175 (mkF m 194 (own_loc17 p0 p1 p2 p3 p4 len b167) [.int 0, (.ref b167)]) _
    refine XS.iloadN X175.here hx rfl (hb hby at_194) rfl ?_
    show own_S p e below T175 (mkF m 195 (own_loc17 p0 p1 p2 p3 p4 len b167) [(.int p1), .int 0, (.ref b167)]) _
    refine XS.i2b X175.here hx rfl (hb hby at_195) rfl ?_
    show own_S p e below T175 (mkF m 196 (own_loc17 p0 p1 p2 p3 p4 len b167) [(.int (p1.toInt8.toInt32)), .int 0, (.ref b167)]) _
    refine st227 _ ?_
    show own_S p e below T227 (mkF m 197 (own_loc17 p0 p1 p2 p3 p4 len b167) []) _
    refine XS.aload X227.here hx rfl (hb hby at_197) rfl rfl ?_
    show own_S p e below T227 (mkF m 199 (own_loc17 p0 p1 p2 p3 p4 len b167) [(.ref b167)]) _
    refine XS.iconst X227.here hx rfl (hb hby at_199) ?_
    show own_S p e below T227 (mkF m 200 (own_loc17 p0 p1 p2 p3 p4 len b167) [.int 1, (.ref b167)]) _
    refine XS.iloadN X227.here hx rfl (hb hby at_200) rfl ?_
    show own_S p e below T227 (mkF m 201 (own_loc17 p0 p1 p2 p3 p4 len b167) [(.int p1), .int 1, (.ref b167)]) _
    refine XS.bipush X227.here hx rfl (hb hby at_201) ?_
    show own_S p e below T227 (mkF m 203 (own_loc17 p0 p1 p2 p3 p4 len b167) [.int 8, (.int p1), .int 1, (.ref b167)]) _
    refine XS.ishr X227.here hx rfl (hb hby at_203) rfl ?_
    show own_S p e below T227 (mkF m 204 (own_loc17 p0 p1 p2 p3 p4 len b167) [(.int (p1 >>> ((8 : Int32) &&& 31))), .int 1, (.ref b167)]) _
    refine XS.i2b X227.here hx rfl (hb hby at_204) rfl ?_
    show own_S p e below T227 (mkF m 205 (own_loc17 p0 p1 p2 p3 p4 len b167) [(.int ((p1 >>> ((8 : Int32) &&& 31)).toInt8.toInt32)), .int 1, (.ref b167)]) _
    refine st230 _ ?_
    show own_S p e below T230 (mkF m 206 (own_loc17 p0 p1 p2 p3 p4 len b167) []) _
    refine XS.aload X230.here hx rfl (hb hby at_206) rfl rfl ?_
    show own_S p e below T230 (mkF m 208 (own_loc17 p0 p1 p2 p3 p4 len b167) [(.ref b167)]) _
    refine XS.iconst X230.here hx rfl (hb hby at_208) ?_
    show own_S p e below T230 (mkF m 209 (own_loc17 p0 p1 p2 p3 p4 len b167) [.int 2, (.ref b167)]) _
    refine XS.iloadN X230.here hx rfl (hb hby at_209) rfl ?_
    show own_S p e below T230 (mkF m 210 (own_loc17 p0 p1 p2 p3 p4 len b167) [(.int p1), .int 2, (.ref b167)]) _
    refine XS.bipush X230.here hx rfl (hb hby at_210) ?_
    show own_S p e below T230 (mkF m 212 (own_loc17 p0 p1 p2 p3 p4 len b167) [.int 16, (.int p1), .int 2, (.ref b167)]) _
    refine XS.ishr X230.here hx rfl (hb hby at_212) rfl ?_
    show own_S p e below T230 (mkF m 213 (own_loc17 p0 p1 p2 p3 p4 len b167) [(.int (p1 >>> ((16 : Int32) &&& 31))), .int 2, (.ref b167)]) _
    refine XS.i2b X230.here hx rfl (hb hby at_213) rfl ?_
    show own_S p e below T230 (mkF m 214 (own_loc17 p0 p1 p2 p3 p4 len b167) [(.int ((p1 >>> ((16 : Int32) &&& 31)).toInt8.toInt32)), .int 2, (.ref b167)]) _
    refine st233 _ ?_
    show own_S p e below T233 (mkF m 215 (own_loc17 p0 p1 p2 p3 p4 len b167) []) _
    refine XS.aload X233.here hx rfl (hb hby at_215) rfl rfl ?_
    show own_S p e below T233 (mkF m 217 (own_loc17 p0 p1 p2 p3 p4 len b167) [(.ref b167)]) _
    refine XS.iconst X233.here hx rfl (hb hby at_217) ?_
    show own_S p e below T233 (mkF m 218 (own_loc17 p0 p1 p2 p3 p4 len b167) [.int 3, (.ref b167)]) _
    refine XS.iloadN X233.here hx rfl (hb hby at_218) rfl ?_
    show own_S p e below T233 (mkF m 219 (own_loc17 p0 p1 p2 p3 p4 len b167) [(.int p1), .int 3, (.ref b167)]) _
    refine XS.bipush X233.here hx rfl (hb hby at_219) ?_
    show own_S p e below T233 (mkF m 221 (own_loc17 p0 p1 p2 p3 p4 len b167) [.int 24, (.int p1), .int 3, (.ref b167)]) _
    refine XS.ishr X233.here hx rfl (hb hby at_221) rfl ?_
    show own_S p e below T233 (mkF m 222 (own_loc17 p0 p1 p2 p3 p4 len b167) [(.int (p1 >>> ((24 : Int32) &&& 31))), .int 3, (.ref b167)]) _
    refine XS.i2b X233.here hx rfl (hb hby at_222) rfl ?_
    show own_S p e below T233 (mkF m 223 (own_loc17 p0 p1 p2 p3 p4 len b167) [(.int ((p1 >>> ((24 : Int32) &&& 31)).toInt8.toInt32)), .int 3, (.ref b167)]) _
    refine st236 _ ?_
    show own_S p e below T236 (mkF m 224 (own_loc17 p0 p1 p2 p3 p4 len b167) []) _
    refine sg241 _ ?_
    show own_S p e below T236 (mkF m 242 (own_loc17 p0 p1 p2 p3 p4 len b167) [(.int (own_b4 len vs238))]) _
    refine XS.istore X236.here hx rfl (hb hby at_242) rfl (l' := (own_loc18 p0 p1 p2 p3 p4 len b167 vs238)) rfl ?_
    show own_S p e below T236 (mkF m 244 (own_loc18 p0 p1 p2 p3 p4 len b167 vs238) []) _
    refine sg245 _ ?_
    show own_S p e below T236 (mkF m 276 (own_loc18 p0 p1 p2 p3 p4 len b167 vs238) [(.int (own_nn len vs238))]) _
    refine XS.istore X236.here hx rfl (hb hby at_276) rfl (l' := (own_loc19 p0 p1 p2 p3 p4 len b167 vs238)) rfl ?_
    show own_S p e below T236 (mkF m 278 (own_loc19 p0 p1 p2 p3 p4 len b167 vs238) []) _
    refine XS.aload X236.here hx rfl (hb hby at_278) rfl rfl ?_
    show own_S p e below T236 (mkF m 280 (own_loc19 p0 p1 p2 p3 p4 len b167 vs238) [(.ref b167)]) _
    refine XS.iload X236.here hx rfl (hb hby at_280) rfl ?_
    show own_S p e below T236 (mkF m 282 (own_loc19 p0 p1 p2 p3 p4 len b167 vs238) [(.int len), (.ref b167)]) _
    refine XS.iconst X236.here hx rfl (hb hby at_282) ?_
    show own_S p e below T236 (mkF m 283 (own_loc19 p0 p1 p2 p3 p4 len b167 vs238) [.int 1, (.int len), (.ref b167)]) _
    refine XS.isub X236.here hx rfl (hb hby at_283) rfl ?_
    show own_S p e below T236 (mkF m 284 (own_loc19 p0 p1 p2 p3 p4 len b167 vs238) [(.int (len - (1 : Int32))), (.ref b167)]) _
    refine ld246 _ ?_
    show own_S p e below T236 (mkF m 285 (own_loc19 p0 p1 p2 p3 p4 len b167 vs238) [(.int (own_el vs238 (len - (1 : Int32))))]) _
    refine XS.sipush X236.here hx rfl (hb hby at_285) ?_
    show own_S p e below T236 (mkF m 288 (own_loc19 p0 p1 p2 p3 p4 len b167 vs238) [.int 255, (.int (own_el vs238 (len - (1 : Int32))))]) _
    refine XS.iand X236.here hx rfl (hb hby at_288) rfl ?_
    show own_S p e below T236 (mkF m 289 (own_loc19 p0 p1 p2 p3 p4 len b167 vs238) [(.int ((own_el vs238 (len - (1 : Int32))) &&& (255 : Int32)))]) _
    refine XS.istore X236.here hx rfl (hb hby at_289) rfl (l' := (own_loc20 p0 p1 p2 p3 p4 len b167 vs238)) rfl ?_
    show own_S p e below T236 (mkF m 291 (own_loc20 p0 p1 p2 p3 p4 len b167 vs238) []) _
    refine XS.aload X236.here hx rfl (hb hby at_291) rfl rfl ?_
    show own_S p e below T236 (mkF m 293 (own_loc20 p0 p1 p2 p3 p4 len b167 vs238) [(.ref b167)]) _
    refine XS.iload X236.here hx rfl (hb hby at_293) rfl ?_
    show own_S p e below T236 (mkF m 295 (own_loc20 p0 p1 p2 p3 p4 len b167 vs238) [(.int len), (.ref b167)]) _
    refine XS.iconst X236.here hx rfl (hb hby at_295) ?_
    show own_S p e below T236 (mkF m 296 (own_loc20 p0 p1 p2 p3 p4 len b167 vs238) [.int 2, (.int len), (.ref b167)]) _
    refine XS.isub X236.here hx rfl (hb hby at_296) rfl ?_
    show own_S p e below T236 (mkF m 297 (own_loc20 p0 p1 p2 p3 p4 len b167 vs238) [(.int (len - (2 : Int32))), (.ref b167)]) _
    refine ld247 _ ?_
    show own_S p e below T236 (mkF m 298 (own_loc20 p0 p1 p2 p3 p4 len b167 vs238) [(.int (own_el vs238 (len - (2 : Int32))))]) _
    refine XS.sipush X236.here hx rfl (hb hby at_298) ?_
    show own_S p e below T236 (mkF m 301 (own_loc20 p0 p1 p2 p3 p4 len b167 vs238) [.int 255, (.int (own_el vs238 (len - (2 : Int32))))]) _
    refine XS.iand X236.here hx rfl (hb hby at_301) rfl ?_
    show own_S p e below T236 (mkF m 302 (own_loc20 p0 p1 p2 p3 p4 len b167 vs238) [(.int ((own_el vs238 (len - (2 : Int32))) &&& (255 : Int32)))]) _
    refine XS.bipush X236.here hx rfl (hb hby at_302) ?_
    show own_S p e below T236 (mkF m 304 (own_loc20 p0 p1 p2 p3 p4 len b167 vs238) [.int 8, (.int ((own_el vs238 (len - (2 : Int32))) &&& (255 : Int32)))]) _
    refine XS.ishl X236.here hx rfl (hb hby at_304) rfl ?_
    show own_S p e below T236 (mkF m 305 (own_loc20 p0 p1 p2 p3 p4 len b167 vs238) [(.int (((own_el vs238 (len - (2 : Int32))) &&& (255 : Int32)) <<< ((8 : Int32) &&& 31)))]) _
    refine XS.iload X236.here hx rfl (hb hby at_305) rfl ?_
    show own_S p e below T236 (mkF m 307 (own_loc20 p0 p1 p2 p3 p4 len b167 vs238) [(.int ((own_el vs238 (len - (1 : Int32))) &&& (255 : Int32))), (.int (((own_el vs238 (len - (2 : Int32))) &&& (255 : Int32)) <<< ((8 : Int32) &&& 31)))]) _
    refine XS.ior X236.here hx rfl (hb hby at_307) rfl ?_
    show own_S p e below T236 (mkF m 308 (own_loc20 p0 p1 p2 p3 p4 len b167 vs238) [(.int ((((own_el vs238 (len - (2 : Int32))) &&& (255 : Int32)) <<< ((8 : Int32) &&& 31)) ||| ((own_el vs238 (len - (1 : Int32))) &&& (255 : Int32))))]) _
    refine XS.istore X236.here hx rfl (hb hby at_308) rfl (l' := (own_loc21 p0 p1 p2 p3 p4 len b167 vs238)) rfl ?_
    show own_S p e below T236 (mkF m 310 (own_loc21 p0 p1 p2 p3 p4 len b167 vs238) []) _
    refine XS.iconst X236.here hx rfl (hb hby at_310) ?_
    show own_S p e below T236 (mkF m 311 (own_loc21 p0 p1 p2 p3 p4 len b167 vs238) [.int 0]) _
    refine XS.istore X236.here hx rfl (hb hby at_311) rfl (l' := (own_loc22 p0 p1 p2 p3 p4 len b167 vs238)) rfl ?_
    show own_S p e below T236 (mkF m 313 (own_loc22 p0 p1 p2 p3 p4 len b167 vs238) []) _
    refine XS.iconst X236.here hx rfl (hb hby at_313) ?_
    show own_S p e below T236 (mkF m 314 (own_loc22 p0 p1 p2 p3 p4 len b167 vs238) [.int 0]) _
    refine XS.istore X236.here hx rfl (hb hby at_314) rfl (l' := (own_loc23 p0 p1 p2 p3 p4 len b167 vs238)) rfl ?_
    show own_S p e below T236 (mkF m 316 (own_loc23 p0 p1 p2 p3 p4 len b167 vs238) []) _
    refine XS.iconst X236.here hx rfl (hb hby at_316) ?_
    show own_S p e below T236 (mkF m 317 (own_loc23 p0 p1 p2 p3 p4 len b167 vs238) [.int 0]) _
    refine XS.istore X236.here hx rfl (hb hby at_317) rfl (l' := (own_loc24 p0 p1 p2 p3 p4 len b167 vs238)) rfl ?_
    show own_S p e below T236 (mkF m 319 (own_loc24 p0 p1 p2 p3 p4 len b167 vs238) []) _
    refine XS.iconst X236.here hx rfl (hb hby at_319) ?_
    show own_S p e below T236 (mkF m 320 (own_loc24 p0 p1 p2 p3 p4 len b167 vs238) [.int 0]) _
    refine XS.istore X236.here hx rfl (hb hby at_320) rfl (l' := (own_loc25 p0 p1 p2 p3 p4 len b167 vs238)) rfl ?_
    show own_S p e below T236 (mkF m 322 (own_loc25 p0 p1 p2 p3 p4 len b167 vs238) []) _
    refine sg248 _ ?_
    show own_S p e below T236 (mkF m 322 (own_loc26 p0 p1 p2 p3 p4 len b167 b4 vs238) []) _
    refine sg249 _ ?_
    show own_S p e below T236 (mkF m 322 (own_loc27 p0 p1 p2 p3 p4 len b167 b4 nn vs238) []) _
    refine sg250 _ ?_
    show own_S p e below T236 (mkF m 322 (own_loc28 p0 p1 p2 p3 p4 len b167 b4 nn la vs238) []) _
    refine sg251 _ ?_
    show own_S p e below T236 (mkF m 322 (own_loc29 p0 p1 p2 p3 p4 len b167 b4 nn la lb) []) _
    refine sg266 _ ?_
    show own_S p e below T236 (mkF m 552 (own_loc43 p0 p1 p2 p3 p4 len b167 b4 nn la lb) []) _
    refine XS.aload X236.here hx rfl (hb hby at_552) rfl rfl ?_
    exact kt
  obtain ⟨_, _, ⟨T268, L268, k268, n268⟩, -, X268, ⟨Lc268, hQ268, l268, y268, z268⟩, st268⟩ := Jvm.LawKit.callS X236 hx (y := (⟨"com/example/chipmantle/chipmantle/CommandApdu", "parse", "([B)Lcom/example/chipmantle/chipmantle/CommandApdu;"⟩ : MethodName)) hown (mvT hZ (hw _ (List.mem_of_getElem? (i := 2) rfl))) (mvT hZ (hw _ (List.mem_of_getElem? (i := 3) rfl))) (mvT hZ (hw _ (List.mem_of_getElem? (i := 4) rfl))) (mvT hZ (hw _ (List.mem_of_getElem? (i := 5) rfl))) (by decide) (backOf (W := 0) (rm1 l Z ag hw [] b167 k167 len vs238 h236 n0 sz237 Vp238 hl4 hlm ge_b167) hZ (hw _ (List.mem_of_getElem? (i := 5) rfl)) (hw _ (List.mem_of_getElem? (i := 4) rfl)) (by decide) (by decide)) (g := (mkF m 554 (own_loc43 p0 p1 p2 p3 p4 len b167 b4 nn la lb) [(.ref b167)])) rfl (by rw [hml]; rfl) (argsL := [(.ref b167)]) (rest := []) (lenOf pd_4 rfl) rfl (by show 2 * 0 + _ ≤ _; exact Nat.le_of_eq rfl) (hb hby at_554) (fun _ _ => ⟨rfl, e236, (by decide : 1 + 1 ≤ _), (by decide : 65545 + 4 ≤ _)⟩)
  dsimp only [Pt.U, Pt.locs, Pt.cells, Pt.slots] at X268 l268 y268 z268 st268 hQ268
  subst l268 y268 z268
  rcases hQ268 with q268 | q268
  · obtain ⟨rfl, N268q, K268, hpv268⟩ := q268
    have N268 := Fr.app N236 N268q
    have x269 := Vp238.keep K268 nin0
    have sz270 : n0 ≤ T268.heap.size := Nat.le_trans sz237 K268.1
    have hkey := own_key len vs238 b4 nn la lb hl4 hlm h_b4 h_nn h_la h_lb
    obtain ⟨hk0, hk1⟩ := hkey
    obtain ⟨fs, hr, hrun, hended, hW, hsame⟩ := X268.leave (v := some (.int (1 : Int32))) (fun h => by rw [Bd.returns] at h; cases h)
    refine ⟨_, _, pre0 _ ?_, hrun, hended, _, _, rfl, ?_, ⟨_, rfl⟩, hW, hsame.mono (by decide) (by decide)⟩
    · show own_S p e below s₁ (mkF m 0 (own_loc9 p0 p1 p2 p3 p4) []) _
      refine cp267 _ ?_
      show own_S p e below T236 (mkF m 554 (own_loc43 p0 p1 p2 p3 p4 len b167 b4 nn la lb) [(.ref b167)]) _
      refine st268 _ ?_
      show own_S p e below T268 (mkF m 557 (own_loc43 p0 p1 p2 p3 p4 len b167 b4 nn la lb) [.null]) _
      refine XS.astore X268.here hx rfl (hb hby at_557) rfl rfl (l' := (own_loc44 p0 p1 p2 p3 p4 len b167 b4 nn la lb)) rfl ?_
      show own_S p e below T268 (mkF m 559 (own_loc44 p0 p1 p2 p3 p4 len b167 b4 nn la lb) []) _
      refine XS.iload X268.here hx rfl (hb hby at_559) rfl ?_
      show own_S p e below T268 (mkF m 561 (own_loc44 p0 p1 p2 p3 p4 len b167 b4 nn la lb) [(.int (own_c_0 len b4 nn))]) _
      refine XS.ifNo X268.here hx rfl (hb hby at_561) rfl ((if0 _ _).trans (teq (show (own_c_0 len b4 nn) = (0 : Int32) from (hk0.trans hpv268))).2) ?_
      show own_S p e below T268 (mkF m 564 (own_loc44 p0 p1 p2 p3 p4 len b167 b4 nn la lb) []) _
      refine XS.aload X268.here hx rfl (hb hby at_564) rfl rfl ?_
      show own_S p e below T268 (mkF m 566 (own_loc44 p0 p1 p2 p3 p4 len b167 b4 nn la lb) [.null]) _
      refine XS.ifnonnullNo X268.here hx rfl (hb hby at_566) rfl ?_
      show own_S p e below T268 (mkF m 569 (own_loc44 p0 p1 p2 p3 p4 len b167 b4 nn la lb) []) _
      refine XS.iconst X268.here hx rfl (hb hby at_569) ?_
      show own_S p e below T268 (mkF m 570 (own_loc44 p0 p1 p2 p3 p4 len b167 b4 nn la lb) [.int 1]) _
      refine XS.goto X268.here hx rfl (pc0 := 570) (pc' := 574) rfl (hb hby at_570) (by decide) (by decide) ?_
      show own_S p e below T268 (mkF m 574 (own_loc44 p0 p1 p2 p3 p4 len b167 b4 nn la lb) [.int 1]) _
      exact retN X268 hx (t := .boolean) Bd.returns (by simp) (hb hby at_574) hr
    · exact ⟨rfl, N268⟩
  · obtain ⟨r268, rfl, N268q, K268, gsq268, hpv268, Ex268, F1268, F2268, F3268, F4268⟩ := q268
    have N268 := Fr.app N236 N268q
    have x271 := Vp238.keep K268 nin0
    have sz272 : n0 ≤ T268.heap.size := Nat.le_trans sz237 K268.1
    have hkey := own_key len vs238 b4 nn la lb hl4 hlm h_b4 h_nn h_la h_lb
    obtain ⟨hk0, hk1⟩ := hkey
    obtain ⟨cq273, kq273, q273a, q273b, q273c⟩ := isOf hZ rfl Ex268
    obtain ⟨_, _, ⟨T273, L273, k273, n273⟩, -, X273, ⟨Lc273, hQ273, l273, y273, z273⟩, st273⟩ := X268.virtualBack hx (y := (⟨"com/example/chipmantle/chipmantle/CommandApdu", "bytes", "()[B"⟩ : MethodName)) (z := (⟨"com/example/chipmantle/chipmantle/CommandApdu", "bytes", "()[B"⟩ : MethodName)) hown (mvT hZ (hw _ (List.mem_of_getElem? (i := 22) rfl))) (mvT hZ (hw _ (List.mem_of_getElem? (i := 23) rfl))) (notFace_of_selects (args := #[]) (mvT hZ (hw _ (List.mem_of_getElem? (i := 25) rfl)))) (mvT hZ (hw _ (List.mem_of_getElem? (i := 25) rfl))) (mvT hZ (hw _ (List.mem_of_getElem? (i := 24) rfl))) (by decide) (backOf (W := 0) (rm4 l Z ag hw [] r268 b167 T268.heap n0 sz272 F1268) hZ (hw _ (List.mem_of_getElem? (i := 26) rfl)) (hw _ (List.mem_of_getElem? (i := 4) rfl)) (by decide) (by decide)) q273a q273c (g := (mkF m 582 (own_loc45 p0 p1 p2 p3 p4 len b167 b4 nn la lb r268) [(.ref r268)])) rfl (by rw [hml]; rfl) (Steps.refl _) (argsL := []) (rest := []) (lenOf pd_3 rfl) rfl (by show 2 * 0 + _ ≤ _; exact Nat.le_of_eq rfl) (hb hby at_582) (fun _ _ => ⟨rfl, rfl, (by decide : 2 + 0 ≤ _), (by decide : 65549 + 0 ≤ _)⟩)
    dsimp only [Pt.U, Pt.locs, Pt.cells, Pt.slots] at X273 l273 y273 z273 st273 hQ273
    subst l273 y273 z273
    obtain ⟨rfl, N273q, e273⟩ := hQ273
    have N273 := Fr.app N268 N273q
    obtain ⟨cq274, kq274, q274a, q274b, q274c⟩ := isOf hZ e273 Ex268
    obtain ⟨_, _, ⟨T274, L274, k274, n274⟩, -, X274, ⟨Lc274, hQ274, l274, y274, z274⟩, st274⟩ := X273.virtualBack hx (y := (⟨"com/example/chipmantle/chipmantle/CommandApdu", "offsetCdata", "()I"⟩ : MethodName)) (z := (⟨"com/example/chipmantle/chipmantle/CommandApdu", "offsetCdata", "()I"⟩ : MethodName)) hown (mvT hZ (hw _ (List.mem_of_getElem? (i := 27) rfl))) (mvT hZ (hw _ (List.mem_of_getElem? (i := 28) rfl))) (notFace_of_selects (args := #[]) (mvT hZ (hw _ (List.mem_of_getElem? (i := 30) rfl)))) (mvT hZ (hw _ (List.mem_of_getElem? (i := 30) rfl))) (mvT hZ (hw _ (List.mem_of_getElem? (i := 29) rfl))) (by decide) (backOf (W := 0) (rm5 l Z ag hw [] r268 (own_po len vs238) T268.heap n0 sz272 F2268) hZ (hw _ (List.mem_of_getElem? (i := 31) rfl)) (hw _ (List.mem_of_getElem? (i := 4) rfl)) (by decide) (by decide)) q274a q274c (g := (mkF m 592 (own_loc45 p0 p1 p2 p3 p4 len b167 b4 nn la lb r268) [(.ref r268)])) rfl (by rw [hml]; rfl) (Steps.refl _) (argsL := []) (rest := []) (lenOf pd_0 rfl) rfl (by show 2 * 0 + _ ≤ _; exact Nat.le_of_eq rfl) (hb hby at_592) (fun _ _ => ⟨rfl, e273, (by decide : 2 + 0 ≤ _), (by decide : 65549 + 0 ≤ _)⟩)
    dsimp only [Pt.U, Pt.locs, Pt.cells, Pt.slots] at X274 l274 y274 z274 st274 hQ274
    subst l274 y274 z274
    obtain ⟨rfl, N274q, e274⟩ := hQ274
    have N274 := Fr.app N273 N274q
    have cp275 : ∀ target, own_S p e below T274 (mkF m 602 (own_loc45 p0 p1 p2 p3 p4 len b167 b4 nn la lb r268) [(.ref r268)]) target → own_S p e below s₁ (mkF m 0 (own_loc9 p0 p1 p2 p3 p4) []) target := by
      intro target kt
      show own_S p e below s₁ (mkF m 0 (own_loc9 p0 p1 p2 p3 p4) []) _
      refine cp267 _ ?_
      show own_S p e below T236 (mkF m 554 (own_loc43 p0 p1 p2 p3 p4 len b167 b4 nn la lb) [(.ref b167)]) _
      refine st268 _ ?_
      show own_S p e below T268 (mkF m 557 (own_loc43 p0 p1 p2 p3 p4 len b167 b4 nn la lb) [(.ref r268)]) _
      refine XS.astore X268.here hx rfl (hb hby at_557) rfl rfl (l' := (own_loc45 p0 p1 p2 p3 p4 len b167 b4 nn la lb r268)) rfl ?_
      show own_S p e below T268 (mkF m 559 (own_loc45 p0 p1 p2 p3 p4 len b167 b4 nn la lb r268) []) _
      refine XS.iload X268.here hx rfl (hb hby at_559) rfl ?_
      show own_S p e below T268 (mkF m 561 (own_loc45 p0 p1 p2 p3 p4 len b167 b4 nn la lb r268) [(.int (own_c_0 len b4 nn))]) _
      refine XS.ifYes X268.here hx rfl (pc0 := 561) (pc' := 575) rfl (hb hby at_561) rfl ((if0 _ _).trans (feq (show ¬ ((own_c_0 len b4 nn) = (0 : Int32)) from (own_one hk0 hpv268))).2) (by decide) (by decide) ?_
      show own_S p e below T268 (mkF m 575 (own_loc45 p0 p1 p2 p3 p4 len b167 b4 nn la lb r268) []) _
      refine XS.aload X268.here hx rfl (hb hby at_575) rfl rfl ?_
      show own_S p e below T268 (mkF m 577 (own_loc45 p0 p1 p2 p3 p4 len b167 b4 nn la lb r268) [(.ref r268)]) _
      refine XS.ifnullNo X268.here hx rfl (hb hby at_577) rfl ?_
      show own_S p e below T268 (mkF m 580 (own_loc45 p0 p1 p2 p3 p4 len b167 b4 nn la lb r268) []) _
      refine XS.aload X268.here hx rfl (hb hby at_580) rfl rfl ?_
      show own_S p e below T268 (mkF m 582 (own_loc45 p0 p1 p2 p3 p4 len b167 b4 nn la lb r268) [(.ref r268)]) _
      refine st273.trans ?_
      show own_S p e below T273 (mkF m 585 (own_loc45 p0 p1 p2 p3 p4 len b167 b4 nn la lb r268) [(.ref b167)]) _
      refine XS.aload X273.here hx rfl (hb hby at_585) rfl rfl ?_
      show own_S p e below T273 (mkF m 587 (own_loc45 p0 p1 p2 p3 p4 len b167 b4 nn la lb r268) [(.ref b167), (.ref b167)]) _
      refine Jvm.RoadKit.acmp (g := (mkF m 587 (own_loc45 p0 p1 p2 p3 p4 len b167 b4 nn la lb r268) [(.ref b167), (.ref b167)])) X273 hx rfl rfl rfl (pc0 := 587) (pc' := 590) (same := true) rfl (hb hby at_587) rfl (decide_eq_true rfl) (by decide) (by decide) ?_
      show own_S p e below T273 (mkF m 590 (own_loc45 p0 p1 p2 p3 p4 len b167 b4 nn la lb r268) []) _
      refine XS.aload X273.here hx rfl (hb hby at_590) rfl rfl ?_
      show own_S p e below T273 (mkF m 592 (own_loc45 p0 p1 p2 p3 p4 len b167 b4 nn la lb r268) [(.ref r268)]) _
      refine st274.trans ?_
      show own_S p e below T274 (mkF m 595 (own_loc45 p0 p1 p2 p3 p4 len b167 b4 nn la lb r268) [(.int (own_po len vs238))]) _
      refine XS.iload X274.here hx rfl (hb hby at_595) rfl ?_
      show own_S p e below T274 (mkF m 597 (own_loc45 p0 p1 p2 p3 p4 len b167 b4 nn la lb r268) [(.int (own_c_1 len b4 nn)), (.int (own_po len vs238))]) _
      refine XS.icmpNo X274.here hx rfl (hb hby at_597) rfl (teq (show (own_po len vs238) = (own_c_1 len b4 nn) from (hk1 hpv268).1)).2 ?_
      show own_S p e below T274 (mkF m 600 (own_loc45 p0 p1 p2 p3 p4 len b167 b4 nn la lb r268) []) _
      refine XS.aload X274.here hx rfl (hb hby at_600) rfl rfl ?_
      exact kt
    obtain ⟨cq276, kq276, q276a, q276b, q276c⟩ := isOf hZ e274 Ex268
    obtain ⟨_, _, ⟨T276, L276, k276, n276⟩, -, X276, ⟨Lc276, hQ276, l276, y276, z276⟩, st276⟩ := X274.virtualBack hx (y := (⟨"com/example/chipmantle/chipmantle/CommandApdu", "nc", "()I"⟩ : MethodName)) (z := (⟨"com/example/chipmantle/chipmantle/CommandApdu", "nc", "()I"⟩ : MethodName)) hown (mvT hZ (hw _ (List.mem_of_getElem? (i := 32) rfl))) (mvT hZ (hw _ (List.mem_of_getElem? (i := 33) rfl))) (notFace_of_selects (args := #[]) (mvT hZ (hw _ (List.mem_of_getElem? (i := 35) rfl)))) (mvT hZ (hw _ (List.mem_of_getElem? (i := 35) rfl))) (mvT hZ (hw _ (List.mem_of_getElem? (i := 34) rfl))) (by decide) (backOf (W := 0) (rm6 l Z ag hw [] r268 (own_pn len vs238) T268.heap n0 sz272 F3268) hZ (hw _ (List.mem_of_getElem? (i := 36) rfl)) (hw _ (List.mem_of_getElem? (i := 4) rfl)) (by decide) (by decide)) q276a q276c (g := (mkF m 602 (own_loc45 p0 p1 p2 p3 p4 len b167 b4 nn la lb r268) [(.ref r268)])) rfl (by rw [hml]; rfl) (Steps.refl _) (argsL := []) (rest := []) (lenOf pd_0 rfl) rfl (by show 2 * 0 + _ ≤ _; exact Nat.le_of_eq rfl) (hb hby at_602) (fun _ _ => ⟨rfl, e274, (by decide : 2 + 0 ≤ _), (by decide : 65549 + 0 ≤ _)⟩)
    dsimp only [Pt.U, Pt.locs, Pt.cells, Pt.slots] at X276 l276 y276 z276 st276 hQ276
    subst l276 y276 z276
    obtain ⟨rfl, N276q, e276⟩ := hQ276
    have N276 := Fr.app N274 N276q
    obtain ⟨cq277, kq277, q277a, q277b, q277c⟩ := isOf hZ e276 Ex268
    obtain ⟨_, _, ⟨T277, L277, k277, n277⟩, -, X277, ⟨Lc277, hQ277, l277, y277, z277⟩, st277⟩ := X276.virtualBack hx (y := (⟨"com/example/chipmantle/chipmantle/CommandApdu", "ne", "()I"⟩ : MethodName)) (z := (⟨"com/example/chipmantle/chipmantle/CommandApdu", "ne", "()I"⟩ : MethodName)) hown (mvT hZ (hw _ (List.mem_of_getElem? (i := 37) rfl))) (mvT hZ (hw _ (List.mem_of_getElem? (i := 38) rfl))) (notFace_of_selects (args := #[]) (mvT hZ (hw _ (List.mem_of_getElem? (i := 40) rfl)))) (mvT hZ (hw _ (List.mem_of_getElem? (i := 40) rfl))) (mvT hZ (hw _ (List.mem_of_getElem? (i := 39) rfl))) (by decide) (backOf (W := 0) (rm7 l Z ag hw [] r268 (own_pe len vs238) T268.heap n0 sz272 F4268) hZ (hw _ (List.mem_of_getElem? (i := 41) rfl)) (hw _ (List.mem_of_getElem? (i := 4) rfl)) (by decide) (by decide)) q277a q277c (g := (mkF m 612 (own_loc45 p0 p1 p2 p3 p4 len b167 b4 nn la lb r268) [(.ref r268)])) rfl (by rw [hml]; rfl) (Steps.refl _) (argsL := []) (rest := []) (lenOf pd_0 rfl) rfl (by show 2 * 0 + _ ≤ _; exact Nat.le_of_eq rfl) (hb hby at_612) (fun _ _ => ⟨rfl, e276, (by decide : 2 + 0 ≤ _), (by decide : 65549 + 0 ≤ _)⟩)
    dsimp only [Pt.U, Pt.locs, Pt.cells, Pt.slots] at X277 l277 y277 z277 st277 hQ277
    subst l277 y277 z277
    obtain ⟨rfl, N277q, e277⟩ := hQ277
    have N277 := Fr.app N276 N277q
    obtain ⟨cq278, kq278, q278a, q278b, q278c⟩ := isOf hZ e277 Ex268
    obtain ⟨_, _, ⟨T278, L278, k278, n278⟩, -, X278, ⟨Lc278, hQ278, l278, y278, z278⟩, st278⟩ := X277.virtualBack hx (y := (⟨"com/example/chipmantle/chipmantle/CommandApdu", "extended", "()Z"⟩ : MethodName)) (z := (⟨"com/example/chipmantle/chipmantle/CommandApdu", "extended", "()Z"⟩ : MethodName)) hown (mvT hZ (hw _ (List.mem_of_getElem? (i := 42) rfl))) (mvT hZ (hw _ (List.mem_of_getElem? (i := 43) rfl))) (notFace_of_selects (args := #[]) (mvT hZ (hw _ (List.mem_of_getElem? (i := 45) rfl)))) (mvT hZ (hw _ (List.mem_of_getElem? (i := 45) rfl))) (mvT hZ (hw _ (List.mem_of_getElem? (i := 44) rfl))) (by decide) (backOf (W := 0) (rm8 l Z ag hw [] r268 (own_po len vs238) T268.heap n0 sz272 F2268) hZ (hw _ (List.mem_of_getElem? (i := 46) rfl)) (hw _ (List.mem_of_getElem? (i := 4) rfl)) (by decide) (by decide)) q278a q278c (g := (mkF m 622 (own_loc45 p0 p1 p2 p3 p4 len b167 b4 nn la lb r268) [(.ref r268)])) rfl (by rw [hml]; rfl) (Steps.refl _) (argsL := []) (rest := []) (lenOf pd_2 rfl) rfl (by show 2 * 0 + _ ≤ _; exact Nat.le_of_eq rfl) (hb hby at_622) (fun _ _ => ⟨rfl, e277, (by decide : 2 + 0 ≤ _), (by decide : 65549 + 0 ≤ _)⟩)
    dsimp only [Pt.U, Pt.locs, Pt.cells, Pt.slots] at X278 l278 y278 z278 st278 hQ278
    subst l278 y278 z278
    obtain ⟨rfl, N278q, e278⟩ := hQ278
    have N278 := Fr.app N277 N278q
    have sg280 : ∀ target, Steps p.tables e below (T278.setTop (mkF m 637 (own_loc45 p0 p1 p2 p3 p4 len b167 b4 nn la lb r268) [(.int (own_x len b4 nn)), (.int (nar .boolean (own_ext (own_po len vs238))))])) target → Steps p.tables e below (T278.setTop (mkF m 625 (own_loc45 p0 p1 p2 p3 p4 len b167 b4 nn la lb r268) [(.int (nar .boolean (own_ext (own_po len vs238))))])) target := by
      intro target kt
      show own_S p e below T278 (mkF m 625 (own_loc45 p0 p1 p2 p3 p4 len b167 b4 nn la lb r268) [(.int (nar .boolean (own_ext (own_po len vs238))))]) _
      refine XS.iload X278.here hx rfl (hb hby at_625) rfl ?_
      show own_S p e below T278 (mkF m 627 (own_loc45 p0 p1 p2 p3 p4 len b167 b4 nn la lb r268) [(.int (own_c_1 len b4 nn)), (.int (nar .boolean (own_ext (own_po len vs238))))]) _
      refine XS.bipush X278.here hx rfl (hb hby at_627) ?_
      by_cases hc279 : (own_c_1 len b4 nn) = (7 : Int32)
      · show own_S p e below T278 (mkF m 629 (own_loc45 p0 p1 p2 p3 p4 len b167 b4 nn la lb r268) [.int 7, (.int (own_c_1 len b4 nn)), (.int (nar .boolean (own_ext (own_po len vs238))))]) _
        refine XS.icmpNo X278.here hx rfl (hb hby at_629) rfl (teq hc279).2 ?_
        show own_S p e below T278 (mkF m 632 (own_loc45 p0 p1 p2 p3 p4 len b167 b4 nn la lb r268) [(.int (nar .boolean (own_ext (own_po len vs238))))]) _
        refine XS.iconst X278.here hx rfl (hb hby at_632) ?_
        show own_S p e below T278 (mkF m 633 (own_loc45 p0 p1 p2 p3 p4 len b167 b4 nn la lb r268) [.int 1, (.int (nar .boolean (own_ext (own_po len vs238))))]) _
        refine XS.goto X278.here hx rfl (pc0 := 633) (pc' := 637) rfl (hb hby at_633) (by decide) (by decide) ?_
        show own_S p e below T278 (mkF m 637 (own_loc45 p0 p1 p2 p3 p4 len b167 b4 nn la lb r268) [.int 1, (.int (nar .boolean (own_ext (own_po len vs238))))]) _
        have kt := own_cast (P := fun z => Steps p.tables e below (T278.setTop (mkF m 637 (own_loc45 p0 p1 p2 p3 p4 len b167 b4 nn la lb r268) [(.int z), (.int (nar .boolean (own_ext (own_po len vs238))))])) target) (show (own_x len b4 nn) = (1 : Int32) from (by unfold own_x; rw [if_pos hc279])) kt
        exact kt
      · show own_S p e below T278 (mkF m 629 (own_loc45 p0 p1 p2 p3 p4 len b167 b4 nn la lb r268) [.int 7, (.int (own_c_1 len b4 nn)), (.int (nar .boolean (own_ext (own_po len vs238))))]) _
        refine XS.icmpYes X278.here hx rfl (pc0 := 629) (pc' := 636) rfl (hb hby at_629) rfl (feq hc279).2 (by decide) (by decide) ?_
        show own_S p e below T278 (mkF m 636 (own_loc45 p0 p1 p2 p3 p4 len b167 b4 nn la lb r268) [(.int (nar .boolean (own_ext (own_po len vs238))))]) _
        refine XS.iconst X278.here hx rfl (hb hby at_636) ?_
        show own_S p e below T278 (mkF m 637 (own_loc45 p0 p1 p2 p3 p4 len b167 b4 nn la lb r268) [.int 0, (.int (nar .boolean (own_ext (own_po len vs238))))]) _
        have kt := own_cast (P := fun z => Steps p.tables e below (T278.setTop (mkF m 637 (own_loc45 p0 p1 p2 p3 p4 len b167 b4 nn la lb r268) [(.int z), (.int (nar .boolean (own_ext (own_po len vs238))))])) target) (show (own_x len b4 nn) = (0 : Int32) from (by unfold own_x; rw [if_neg hc279])) kt
        exact kt
    obtain ⟨fs, hr, hrun, hended, hW, hsame⟩ := X278.leave (v := some (.int (1 : Int32))) (fun h => by rw [Bd.returns] at h; cases h)
    refine ⟨_, _, pre0 _ ?_, hrun, hended, _, _, rfl, ?_, ⟨_, rfl⟩, hW, hsame.mono (by decide) (by decide)⟩
    · show own_S p e below s₁ (mkF m 0 (own_loc9 p0 p1 p2 p3 p4) []) _
      refine cp275 _ ?_
      show own_S p e below T274 (mkF m 602 (own_loc45 p0 p1 p2 p3 p4 len b167 b4 nn la lb r268) [(.ref r268)]) _
      refine st276.trans ?_
      show own_S p e below T276 (mkF m 605 (own_loc45 p0 p1 p2 p3 p4 len b167 b4 nn la lb r268) [(.int (own_pn len vs238))]) _
      refine XS.iload X276.here hx rfl (hb hby at_605) rfl ?_
      show own_S p e below T276 (mkF m 607 (own_loc45 p0 p1 p2 p3 p4 len b167 b4 nn la lb r268) [(.int (own_c_2 len b4 nn)), (.int (own_pn len vs238))]) _
      refine XS.icmpNo X276.here hx rfl (hb hby at_607) rfl (teq (show (own_pn len vs238) = (own_c_2 len b4 nn) from (hk1 hpv268).2.1)).2 ?_
      show own_S p e below T276 (mkF m 610 (own_loc45 p0 p1 p2 p3 p4 len b167 b4 nn la lb r268) []) _
      refine XS.aload X276.here hx rfl (hb hby at_610) rfl rfl ?_
      show own_S p e below T276 (mkF m 612 (own_loc45 p0 p1 p2 p3 p4 len b167 b4 nn la lb r268) [(.ref r268)]) _
      refine st277.trans ?_
      show own_S p e below T277 (mkF m 615 (own_loc45 p0 p1 p2 p3 p4 len b167 b4 nn la lb r268) [(.int (own_pe len vs238))]) _
      refine XS.iload X277.here hx rfl (hb hby at_615) rfl ?_
      show own_S p e below T277 (mkF m 617 (own_loc45 p0 p1 p2 p3 p4 len b167 b4 nn la lb r268) [(.int (own_c_3 len b4 nn la lb)), (.int (own_pe len vs238))]) _
      refine XS.icmpNo X277.here hx rfl (hb hby at_617) rfl (teq (show (own_pe len vs238) = (own_c_3 len b4 nn la lb) from (hk1 hpv268).2.2)).2 ?_
      show own_S p e below T277 (mkF m 620 (own_loc45 p0 p1 p2 p3 p4 len b167 b4 nn la lb r268) []) _
      refine XS.aload X277.here hx rfl (hb hby at_620) rfl rfl ?_
      show own_S p e below T277 (mkF m 622 (own_loc45 p0 p1 p2 p3 p4 len b167 b4 nn la lb r268) [(.ref r268)]) _
      refine st278.trans ?_
      show own_S p e below T278 (mkF m 625 (own_loc45 p0 p1 p2 p3 p4 len b167 b4 nn la lb r268) [(.int (nar .boolean (own_ext (own_po len vs238))))]) _
      refine sg280 _ ?_
      show own_S p e below T278 (mkF m 637 (own_loc45 p0 p1 p2 p3 p4 len b167 b4 nn la lb r268) [(.int (own_x len b4 nn)), (.int (nar .boolean (own_ext (own_po len vs238))))]) _
      refine XS.icmpNo X278.here hx rfl (hb hby at_637) rfl (teq (show (nar .boolean (own_ext (own_po len vs238))) = (own_x len b4 nn) from (own_xk (hk1 hpv268).1))).2 ?_
      show own_S p e below T278 (mkF m 640 (own_loc45 p0 p1 p2 p3 p4 len b167 b4 nn la lb r268) []) _
      refine XS.iconst X278.here hx rfl (hb hby at_640) ?_
      show own_S p e below T278 (mkF m 641 (own_loc45 p0 p1 p2 p3 p4 len b167 b4 nn la lb r268) [.int 1]) _
      refine XS.goto X278.here hx rfl (pc0 := 641) (pc' := 645) rfl (hb hby at_641) (by decide) (by decide) ?_
      show own_S p e below T278 (mkF m 645 (own_loc45 p0 p1 p2 p3 p4 len b167 b4 nn la lb r268) [.int 1]) _
      exact retN X278 hx (t := .boolean) Bd.returns (by simp) (hb hby at_645) hr
    · exact ⟨rfl, N278⟩
set_option maxRecDepth 65536 in
set_option maxHeartbeats 40000000 in
theorem comes_1 {Post : Tables → Env → Array Value → State → Outcome → State → Prop} (hpost : ∀ tb e args s v u, (limb_1_1.after args s (.returned v) u = true ∧ limb_1_2.after args s (.returned v) u = true ∧ True) → FrameEnd s (.returned v) u (Jvm.fieldLocs frame_1_writes args s ++ Jvm.arrayLocs frame_1_arrays args s ++ Jvm.staticLocs frame_1_statics s) 16 131200 → Post tb e args s (.returned v) u) :
    ArmFor flags0 classFile x code maxLocals ret World_1 tables_1 room_1 Calls_1 rest_1 Pre_1 Post := by
  intro l hfl _ _ p e ha hc hk s m args below hf hA hF happ hP
  obtain ⟨hcalls, hrest, hpre⟩ := hP
  obtain ⟨-, -, -, hnamed, -, -, -, hat⟩ := (Spec.applies_iff hf).mp happ
  obtain ⟨hg, hn⟩ := and_e (Cond.before_iff.mp (show (Jvm.Cond.and given_1 narrow_1).before args s = true from hpre))
  obtain ⟨g281, g282⟩ := and_e hg
  obtain ⟨g283, g284⟩ := and_e g282
  obtain ⟨g285, g286⟩ := and_e g284
  obtain ⟨g287, g288⟩ := and_e g286
  obtain ⟨g289, g290⟩ := and_e g288
  obtain ⟨w0, w1, w2, w3, w4, rfl⟩ : ∃ w0 w1 w2 w3 w4 : Value, args = #[w0, w1, w2, w3, w4] := by
    have hs : args.size = 5 := by simpa [Cond.value, given_1] using g281
    obtain ⟨L⟩ := args
    match L, hs with
    | [w0, w1, w2, w3, w4], _ => exact ⟨w0, w1, w2, w3, w4, rfl⟩
  have hw := fun d (hd : d ∈ tables_1) => atoms_spec (ws := Jvm.Cond.code x code maxLocals ret :: tables_1) hat d (List.mem_cons_of_mem _ hd)
  have hfit : Fit s := fun {y c} hc i hi => by
    obtain ⟨ha, rfl⟩ := Array.getElem?_eq_some_iff.mp hc
    have q := List.all_eq_true.mp ((Array.all_eq_true_iff_forall_mem.mp hF) _ (Array.getElem_mem ha)) i (List.mem_range.mpr hi)
    simpa [Array.getElem?_eq_getElem hi] using q
  obtain ⟨i0, ei0⟩ := is_v g283
  obtain rfl : w0 = (.int i0) := Option.some.inj ei0
  obtain ⟨i1, ei1⟩ := is_v g285
  obtain rfl : w1 = (.int i1) := Option.some.inj ei1
  obtain ⟨i2, ei2⟩ := is_v g287
  obtain rfl : w2 = (.int i2) := Option.some.inj ei2
  obtain ⟨i3, ei3⟩ := is_v g289
  obtain rfl : w3 = (.int i3) := Option.some.inj ei3
  obtain ⟨i4, ei4⟩ := is_v g290
  obtain rfl : w4 = (.int i4) := Option.some.inj ei4
  obtain ⟨n, o, h1, h2, h3, _, L, rfl, ⟨rfl, N⟩, hq⟩ := rm0 l s _ hw tables_1 i0 i1 i2 i3 i4 s.heap s.heap.size (Nat.le_refl _)  p e ha hc hk s m _ below hf ((Spec.applies_iff_loose hf).mp happ).1 ⟨rfl, State.Warmed39.refl s, rfl⟩ trivial
  refine ⟨n, _, h1, h2, h3, hpost _ _ _ _ _ _ ⟨Cond.after_iff.mpr rfl, Cond.after_iff.mpr (eq_i res_at (Term.int_eval (1)) rfl), trivial⟩ ⟨hq.1, hq.2.1, (hq.2.2.sift fun y hy => Or.inr (N y hy)).mono (by decide) (by decide)⟩⟩
theorem main_1_1 : Claimed_1_1 := comes_1 fun _ _ _ _ _ _ h hF => ⟨h.1, hF⟩
theorem main_1_2 : Claimed_1_2 := comes_1 fun _ _ _ _ _ _ h hF => ⟨h.2.1, hF⟩
end Jvm.Pilot.@@N@@
namespace Jvm.Pilot.@@N@@
open Jvm Jvm.ClassFile Sem Op Lib Jvm.Free Jvm.Stand Jvm.Pilot.@@N@@.Jvm.D
/-! MADE BY PROGRAM (witnessworld.py) out of the Statement's table words and the real class files: 9 classes; the members and pool entries that the words name. The judged class is class 1, her method 1. -/
namespace start1
open Jvm.ClassFile
def u (s : String) : CpInfo := .utf8 (stringToUtf16 s)
/-- a pool by its gaps: so many unusable entries, then the entry; so many at the end -/
def gap : Nat → List CpInfo → List CpInfo
  | 0, r => r
  | n + 1, r => .unusable :: gap n r
def poolList (es : List (Nat × CpInfo)) (last : Nat) : List CpInfo := es.foldr (fun e r => gap e.1 (e.2 :: r)) (gap last [])
def pool (es : List (Nat × CpInfo)) (last : Nat) : Array CpInfo := ⟨poolList es last⟩
def fileOf (pool : Array CpInfo) (this : Nat) (attrs : Array Attribute := #[]) (ms : Array MethodInfo := #[]) (fl : Nat := 33) (sup : Nat := 0) (ifs : Array Nat := #[]) (fds : Array FieldInfo := #[]) : ClassFile where
  minorVersion := 0
  majorVersion := 65
  constantPool := pool
  accessFlags := fl
  thisClass := this
  superClass := sup
  interfaces := ifs
  fields := fds
  methods := ms
  attributes := attrs
def plain (name : String) (sup : Option ClassId) : Class where
  name := name
  kind := .ordinary
  loader := none
  accessFlags := 33
  super := sup
  interfaces := #[]
  cf := none
  fields := #[]
  methods := #[]
  instanceTypes := #[]
  staticTypes := #[]
  resolved := #[]
  callSites := []
  init := .initialized
  statics := none
  mirror := none

def pool0 : Array CpInfo := pool [(5, u "<init>"), (0, u "()V"), (1, .class_ 10), (1, u "java/lang/Object")] 113

def k0c0 : Code := { maxStack := 0, maxLocals := 1, code := object_method_1_code, exceptionTable := #[], attributes := #[] }
def k0m0 : Method := { name := "<init>", desc := "()V", sig := { parameters := [], returnType := none }, accessFlags := 1, code := some k0c0 }
/-- java/lang/Object -/
def k0 : Class := { plain "java/lang/Object" none with
  accessFlags := 33
  interfaces := #[]
  cf := some (fileOf pool0 8 #[] #[{ accessFlags := 1, nameIndex := 5, descriptorIndex := 6, attributes := #[] }] 33 0 #[] #[])
  fields := #[]
  methods := #[k0m0]
  instanceTypes := #[]
  staticTypes := #[]
  resolved := Array.replicate 124 none
  statics := none }

def pool1 : Array CpInfo := pool [(2, .class_ 4), (1, u "java/lang/Object"), (0, u "<init>"), (0, u "()V"), (0, .integer 65535), (0, .integer 65536), (0, .methodref 10 11), (0, .class_ 12), (0, .nameAndType 13 14), (0, u "com/example/chipmantle/chipmantle/CommandApdu"), (0, u "parse"), (0, u "([B)Lcom/example/chipmantle/chipmantle/CommandApdu;"), (0, .methodref 10 16), (0, .nameAndType 17 18), (0, u "bytes"), (0, u "()[B"), (0, .methodref 10 20), (0, .nameAndType 21 22), (0, u "offsetCdata"), (0, u "()I"), (0, .methodref 10 24), (0, .nameAndType 25 22), (0, u "nc"), (0, .methodref 10 27), (0, .nameAndType 28 22), (0, u "ne"), (0, .methodref 10 30), (0, .nameAndType 31 32), (0, u "extended"), (0, u "()Z"), (0, .class_ 34), (0, u "com/example/chipmantle/chipmantle/CommandApduParsePinLaw"), (2, u "law"), (0, u "(IIIII)Z")] 5

def k1m0 : Method := { name := "<init>", desc := "()V", sig := { parameters := [], returnType := none }, accessFlags := 2, code := none }
def k1c1 : Code := { maxStack := 4, maxLocals := 21, code := code, exceptionTable := #[], attributes := #[] }
def k1m1 : Method := { name := "law", desc := "(IIIII)Z", sig := { parameters := [.int, .int, .int, .int, .int], returnType := some .boolean }, accessFlags := 9, code := some k1c1 }
/-- com/example/chipmantle/chipmantle/CommandApduParsePinLaw -/
def k1 : Class := { plain "com/example/chipmantle/chipmantle/CommandApduParsePinLaw" (some 0) with
  accessFlags := 49
  interfaces := #[]
  cf := some (fileOf pool1 33 #[] #[{ accessFlags := 2, nameIndex := 5, descriptorIndex := 6, attributes := #[] }, { accessFlags := 9, nameIndex := 37, descriptorIndex := 38, attributes := #[] }] 49 2 #[] #[])
  fields := #[]
  methods := #[k1m0, k1m1]
  instanceTypes := #[]
  staticTypes := #[]
  resolved := Array.replicate 44 none
  statics := none }

def pool2 : Array CpInfo := pool [(1, .methodref 2 3), (0, .class_ 4), (0, .nameAndType 5 6), (0, u "java/lang/Object"), (0, u "<init>"), (0, u "()V"), (0, .fieldref 8 9), (0, .class_ 10), (0, .nameAndType 11 12), (0, u "com/example/chipmantle/chipmantle/CommandApdu"), (0, u "bytes"), (0, u "[B"), (0, .fieldref 8 14), (0, .nameAndType 15 16), (0, u "offsetCdata"), (0, u "I"), (0, .fieldref 8 18), (0, .nameAndType 19 16), (0, u "nc"), (0, .fieldref 8 21), (0, .nameAndType 22 16), (0, u "ne"), (2, .methodref 8 26), (0, .nameAndType 5 27), (0, u "([BIII)V"), (0, .methodref 8 29), (0, .nameAndType 22 30), (0, u "([BII)I"), (0, .methodref 8 32), (0, .nameAndType 33 34), (0, u "withData"), (0, u "([BIII)Lcom/example/chipmantle/chipmantle/CommandApdu;"), (0, .methodref 8 36), (0, .nameAndType 37 30), (0, u "field"), (6, u "HEADER_LENGTH"), (2, u "EXTENDED_FIELD_LENGTH"), (1, u "CHANNELS_4_TO_19"), (1, u "FIRST_FURTHER_CHANNEL"), (2, u "parse"), (0, u "([B)Lcom/example/chipmantle/chipmantle/CommandApdu;"), (1, u "()[B"), (1, u "()I"), (1, u "()Z"), (3, u "extended")] 2

def k2c0 : Code := { maxStack := 2, maxLocals := 5, code := prog_3_method_1_code, exceptionTable := #[], attributes := #[] }
def k2m0 : Method := { name := "<init>", desc := "([BIII)V", sig := { parameters := [(.array .byte), .int, .int, .int], returnType := none }, accessFlags := 2, code := some k2c0 }
def k2c1 : Code := { maxStack := 8, maxLocals := 4, code := prog_3_method_2_code, exceptionTable := #[], attributes := #[] }
def k2m1 : Method := { name := "parse", desc := "([B)Lcom/example/chipmantle/chipmantle/CommandApdu;", sig := { parameters := [(.array .byte)], returnType := some (.object "com/example/chipmantle/chipmantle/CommandApdu") }, accessFlags := 8, code := some k2c1 }
def k2c2 : Code := { maxStack := 8, maxLocals := 5, code := prog_3_method_3_code, exceptionTable := #[], attributes := #[] }
def k2m2 : Method := { name := "withData", desc := "([BIII)Lcom/example/chipmantle/chipmantle/CommandApdu;", sig := { parameters := [(.array .byte), .int, .int, .int], returnType := some (.object "com/example/chipmantle/chipmantle/CommandApdu") }, accessFlags := 10, code := some k2c2 }
def k2c3 : Code := { maxStack := 3, maxLocals := 4, code := prog_3_method_4_code, exceptionTable := #[], attributes := #[] }
def k2m3 : Method := { name := "ne", desc := "([BII)I", sig := { parameters := [(.array .byte), .int, .int], returnType := some .int }, accessFlags := 10, code := some k2c3 }
def k2c4 : Code := { maxStack := 3, maxLocals := 5, code := prog_3_method_5_code, exceptionTable := #[], attributes := #[] }
def k2m4 : Method := { name := "field", desc := "([BII)I", sig := { parameters := [(.array .byte), .int, .int], returnType := some .int }, accessFlags := 10, code := some k2c4 }
def k2c5 : Code := { maxStack := 1, maxLocals := 1, code := prog_3_method_6_code, exceptionTable := #[], attributes := #[] }
def k2m5 : Method := { name := "bytes", desc := "()[B", sig := { parameters := [], returnType := some (.array .byte) }, accessFlags := 1, code := some k2c5 }
def k2c6 : Code := { maxStack := 2, maxLocals := 1, code := prog_3_method_13_code, exceptionTable := #[], attributes := #[] }
def k2m6 : Method := { name := "extended", desc := "()Z", sig := { parameters := [], returnType := some .boolean }, accessFlags := 1, code := some k2c6 }
def k2c7 : Code := { maxStack := 1, maxLocals := 1, code := prog_3_method_14_code, exceptionTable := #[], attributes := #[] }
def k2m7 : Method := { name := "offsetCdata", desc := "()I", sig := { parameters := [], returnType := some .int }, accessFlags := 1, code := some k2c7 }
def k2c8 : Code := { maxStack := 1, maxLocals := 1, code := prog_3_method_15_code, exceptionTable := #[], attributes := #[] }
def k2m8 : Method := { name := "nc", desc := "()I", sig := { parameters := [], returnType := some .int }, accessFlags := 1, code := some k2c8 }
def k2c9 : Code := { maxStack := 1, maxLocals := 1, code := prog_3_method_16_code, exceptionTable := #[], attributes := #[] }
def k2m9 : Method := { name := "ne", desc := "()I", sig := { parameters := [], returnType := some .int }, accessFlags := 1, code := some k2c9 }
/-- com/example/chipmantle/chipmantle/CommandApdu -/
def k2 : Class := { plain "com/example/chipmantle/chipmantle/CommandApdu" (some 0) with
  accessFlags := 49
  interfaces := #[]
  cf := some (fileOf pool2 8 #[] #[{ accessFlags := 2, nameIndex := 5, descriptorIndex := 27, attributes := #[] }, { accessFlags := 8, nameIndex := 54, descriptorIndex := 55, attributes := #[] }, { accessFlags := 10, nameIndex := 33, descriptorIndex := 34, attributes := #[] }, { accessFlags := 10, nameIndex := 22, descriptorIndex := 30, attributes := #[] }, { accessFlags := 10, nameIndex := 37, descriptorIndex := 30, attributes := #[] }, { accessFlags := 1, nameIndex := 11, descriptorIndex := 57, attributes := #[] }, { accessFlags := 1, nameIndex := 65, descriptorIndex := 61, attributes := #[] }, { accessFlags := 1, nameIndex := 15, descriptorIndex := 59, attributes := #[] }, { accessFlags := 1, nameIndex := 19, descriptorIndex := 59, attributes := #[] }, { accessFlags := 1, nameIndex := 22, descriptorIndex := 59, attributes := #[] }] 49 2 #[] #[{ accessFlags := 24, nameIndex := 44, descriptorIndex := 16, attributes := #[] }, { accessFlags := 26, nameIndex := 47, descriptorIndex := 16, attributes := #[] }, { accessFlags := 26, nameIndex := 49, descriptorIndex := 16, attributes := #[] }, { accessFlags := 26, nameIndex := 51, descriptorIndex := 16, attributes := #[] }, { accessFlags := 18, nameIndex := 11, descriptorIndex := 12, attributes := #[] }, { accessFlags := 18, nameIndex := 15, descriptorIndex := 16, attributes := #[] }, { accessFlags := 18, nameIndex := 19, descriptorIndex := 16, attributes := #[] }, { accessFlags := 18, nameIndex := 22, descriptorIndex := 16, attributes := #[] }])
  fields := #[{ name := "HEADER_LENGTH", type := .int, accessFlags := 24, slot := 0, constantValue := 0 }, { name := "EXTENDED_FIELD_LENGTH", type := .int, accessFlags := 26, slot := 1, constantValue := 0 }, { name := "CHANNELS_4_TO_19", type := .int, accessFlags := 26, slot := 2, constantValue := 0 }, { name := "FIRST_FURTHER_CHANNEL", type := .int, accessFlags := 26, slot := 3, constantValue := 0 }, { name := "bytes", type := (.array .byte), accessFlags := 18, slot := 0, constantValue := 0 }, { name := "offsetCdata", type := .int, accessFlags := 18, slot := 1, constantValue := 0 }, { name := "nc", type := .int, accessFlags := 18, slot := 2, constantValue := 0 }, { name := "ne", type := .int, accessFlags := 18, slot := 3, constantValue := 0 }]
  methods := #[k2m0, k2m1, k2m2, k2m3, k2m4, k2m5, k2m6, k2m7, k2m8, k2m9]
  instanceTypes := #[(.array .byte), .int, .int, .int]
  staticTypes := #[.int, .int, .int, .int]
  resolved := Array.replicate 68 none
  statics := none }

def pool3 : Array CpInfo := pool [(1, u "java/lang/Cloneable"), (0, .class_ 1), (0, u "java/lang/Object"), (0, .class_ 3)] 3

/-- java/lang/Cloneable -/
def k3 : Class := { plain "java/lang/Cloneable" (some 0) with
  accessFlags := 1537
  interfaces := #[]
  cf := some (fileOf pool3 2 #[] #[] 1537 4 #[] #[])
  fields := #[]
  methods := #[]
  instanceTypes := #[]
  staticTypes := #[]
  resolved := Array.replicate 8 none
  statics := none }

def pool4 : Array CpInfo := pool [(1, u "java/io/Serializable"), (0, .class_ 1), (0, u "java/lang/Object"), (0, .class_ 3)] 3

/-- java/io/Serializable -/
def k4 : Class := { plain "java/io/Serializable" (some 0) with
  accessFlags := 1537
  interfaces := #[]
  cf := some (fileOf pool4 2 #[] #[] 1537 4 #[] #[])
  fields := #[]
  methods := #[]
  instanceTypes := #[]
  staticTypes := #[]
  resolved := Array.replicate 8 none
  statics := none }

/-- the primitive byte -/
def k5 : Class := { plain "byte" none with kind := .primitive 'B', accessFlags := 0x411 }
/-- [B -/
def k6 : Class := { plain "[B" (some 0) with kind := .array 5 .byte, interfaces := #[3, 4], accessFlags := 1041 }

/-- the primitive int -/
def k7 : Class := { plain "int" none with kind := .primitive 'I', accessFlags := 0x411 }
/-- [I -/
def k8 : Class := { plain "[I" (some 0) with kind := .array 7 .int, interfaces := #[3, 4], accessFlags := 1041 }

def heap : Heap := #[]
def classes : Array Class := #[k0, k1, k2, k3, k4, k5, k6, k7, k8]
def interned : List (Array UInt16 × Addr) := []
def slotsUsed : Nat := 0
def theMethod : MethodId := ⟨1, 1⟩
def args0 : Array Value := #[.int 5, .int 3, .int 1, .int 2, .int 4]
def aboutOver (below : List Frame) : State where
  vm := { classes := classes, interned := interned.toArray }
  heap := heap
  slotsUsed := slotsUsed
  threads := #[{ frames := .invoking theMethod args0 :: below }]
def below0 : List Frame := [.native { method := ⟨0, 0⟩, args := #[] }]
def about1 : State := aboutOver below0
def p0 : Program := .bare "" "" ""
def e0 : Env := launch0.env 0 0 0
theorem w_frames : about1.frames = Frame.invoking theMethod args0 :: below0 := rfl
set_option maxRecDepth 65536 in
theorem w_args : argsFit about1.vm theMethod args0 = true := by decide +kernel
set_option maxRecDepth 65536 in
theorem w_heap : heapFits about1 = true := by decide +kernel
set_option maxRecDepth 65536 in
theorem w_runnable : about1.curStatus? = some .runnable := by decide +kernel
set_option maxRecDepth 65536 in
theorem w_alone : about1.alone = true := by decide +kernel
set_option maxRecDepth 65536 in
theorem w_named : about1.methodNamed? x = some theMethod := by decide +kernel
set_option maxRecDepth 65536 in
theorem w_hears : about1.hears theMethod below0 = true := by decide +kernel
set_option maxRecDepth 65536 in
theorem w_ripe : about1.ripe theMethod args0 below0 = true := by decide +kernel
theorem w_running : about1.status = .running := rfl
set_option maxRecDepth 65536 in
theorem w_room : about1.hasRoom e0.platform room_1 = true :=
  launch0.hasRoom_least _ room_1 (by decide +kernel) (by decide +kernel) (by decide +kernel) (by decide +kernel) (by decide +kernel) (by decide +kernel)
theorem allAtoms_all (ts : List Jvm.Cond) (a : Array Jvm.Value) (st : Jvm.State) : (allAtoms ts).before a st = ts.all (fun c => c.before a st) := by
  induction ts with
  | nil => rfl
  | cons c t ih =>
    show (Jvm.Cond.and c (allAtoms t)).before a st = _
    rw [Jvm.Cond.before_and, ih, List.all_cons]
def words1 : List Jvm.Cond := Jvm.Cond.code x code maxLocals ret :: tables_1
/-- a 'code' word, met by the world's own term for the bytes: nothing is compared byte by byte -/
theorem code_word {y : MethodName} {bytes : ByteArray} {mx : Nat} {rt : Option FieldType} {a : Array Value} {s : State} {m : MethodId} {meth : Method} {c : Code} (h1 : s.methodNamed? y = some m) (h2 : s.vm.method? m = some meth) (h3 : meth.code = some c) (h4 : c.code = bytes)
    (h5 : (c.maxLocals == mx && c.exceptionTable.isEmpty && decide (c.maxStack ≤ mostOperands) && decide (meth.sig.returnType = rt) && !meth.locks && decide (parseMethodDescriptor y.desc = some meth.sig)) = true) : (Jvm.Cond.code y bytes mx rt).before a s = true := by
  simp only [Bool.and_eq_true, beq_iff_eq, Bool.not_eq_true', decide_eq_true_eq] at h5
  obtain ⟨⟨⟨⟨⟨g1, g2⟩, g3⟩, g4⟩, g5⟩, g6⟩ := h5
  simp [Cond.before, Cond.holds, Cond.value, h1, h2, h3, h4, g1, g2, g3, g4, g5, g6]
def isCode : Jvm.Cond → Bool
  | .code _ _ _ _ => true
  | _ => false
theorem all_split {L : List Jvm.Cond} {P : Jvm.Cond → Bool} (h1 : L.all (fun c => isCode c || P c) = true) (h2 : ∀ c ∈ L.filter isCode, P c = true) : L.all P = true := by
  refine List.all_eq_true.mpr fun c hc => ?_
  have h := List.all_eq_true.mp h1 c hc
  rcases Bool.eq_false_or_eq_true (isCode c) with hi | hi
  · exact h2 c (List.mem_filter.mpr ⟨hc, hi⟩)
  · simpa [hi] using h
set_option maxRecDepth 65536 in
theorem w_c0 : (Jvm.Cond.code x code maxLocals ret).before args0 about1 = true := code_word (m := ⟨1, 1⟩) (meth := k1m1) (c := k1c1) (by decide +kernel) rfl rfl rfl (by decide +kernel)
set_option maxRecDepth 65536 in
theorem w_c1 : (Jvm.Cond.code ({ cls := "com/example/chipmantle/chipmantle/CommandApdu", name := "parse", desc := "([B)Lcom/example/chipmantle/chipmantle/CommandApdu;" } : Jvm.MethodName) prog_3_method_2_code (4 : Nat) (Option.some (Jvm.ClassFile.FieldType.object "com/example/chipmantle/chipmantle/CommandApdu"))).before args0 about1 = true := code_word (m := ⟨2, 1⟩) (meth := k2m1) (c := k2c1) (by decide +kernel) rfl rfl rfl (by decide +kernel)
set_option maxRecDepth 65536 in
theorem w_c2 : (Jvm.Cond.code ({ cls := "com/example/chipmantle/chipmantle/CommandApdu", name := "<init>", desc := "([BIII)V" } : Jvm.MethodName) prog_3_method_1_code (5 : Nat) (Option.none : Option Jvm.ClassFile.FieldType)).before args0 about1 = true := code_word (m := ⟨2, 0⟩) (meth := k2m0) (c := k2c0) (by decide +kernel) rfl rfl rfl (by decide +kernel)
set_option maxRecDepth 65536 in
theorem w_c3 : (Jvm.Cond.code ({ cls := "java/lang/Object", name := "<init>", desc := "()V" } : Jvm.MethodName) object_method_1_code (1 : Nat) (Option.none : Option Jvm.ClassFile.FieldType)).before args0 about1 = true := code_word (m := ⟨0, 0⟩) (meth := k0m0) (c := k0c0) (by decide +kernel) rfl rfl rfl (by decide +kernel)
set_option maxRecDepth 65536 in
theorem w_c4 : (Jvm.Cond.code ({ cls := "com/example/chipmantle/chipmantle/CommandApdu", name := "bytes", desc := "()[B" } : Jvm.MethodName) prog_3_method_6_code (1 : Nat) (Option.some (Jvm.ClassFile.FieldType.array Jvm.ClassFile.FieldType.byte))).before args0 about1 = true := code_word (m := ⟨2, 5⟩) (meth := k2m5) (c := k2c5) (by decide +kernel) rfl rfl rfl (by decide +kernel)
set_option maxRecDepth 65536 in
theorem w_c5 : (Jvm.Cond.code ({ cls := "com/example/chipmantle/chipmantle/CommandApdu", name := "offsetCdata", desc := "()I" } : Jvm.MethodName) prog_3_method_14_code (1 : Nat) (Option.some Jvm.ClassFile.FieldType.int)).before args0 about1 = true := code_word (m := ⟨2, 7⟩) (meth := k2m7) (c := k2c7) (by decide +kernel) rfl rfl rfl (by decide +kernel)
set_option maxRecDepth 65536 in
theorem w_c6 : (Jvm.Cond.code ({ cls := "com/example/chipmantle/chipmantle/CommandApdu", name := "nc", desc := "()I" } : Jvm.MethodName) prog_3_method_15_code (1 : Nat) (Option.some Jvm.ClassFile.FieldType.int)).before args0 about1 = true := code_word (m := ⟨2, 8⟩) (meth := k2m8) (c := k2c8) (by decide +kernel) rfl rfl rfl (by decide +kernel)
set_option maxRecDepth 65536 in
theorem w_c7 : (Jvm.Cond.code ({ cls := "com/example/chipmantle/chipmantle/CommandApdu", name := "ne", desc := "()I" } : Jvm.MethodName) prog_3_method_16_code (1 : Nat) (Option.some Jvm.ClassFile.FieldType.int)).before args0 about1 = true := code_word (m := ⟨2, 9⟩) (meth := k2m9) (c := k2c9) (by decide +kernel) rfl rfl rfl (by decide +kernel)
set_option maxRecDepth 65536 in
theorem w_c8 : (Jvm.Cond.code ({ cls := "com/example/chipmantle/chipmantle/CommandApdu", name := "extended", desc := "()Z" } : Jvm.MethodName) prog_3_method_13_code (1 : Nat) (Option.some Jvm.ClassFile.FieldType.boolean)).before args0 about1 = true := code_word (m := ⟨2, 6⟩) (meth := k2m6) (c := k2c6) (by decide +kernel) rfl rfl rfl (by decide +kernel)
set_option maxRecDepth 65536 in
theorem w_c9 : (Jvm.Cond.code ({ cls := "com/example/chipmantle/chipmantle/CommandApdu", name := "field", desc := "([BII)I" } : Jvm.MethodName) prog_3_method_5_code (5 : Nat) (Option.some Jvm.ClassFile.FieldType.int)).before args0 about1 = true := code_word (m := ⟨2, 4⟩) (meth := k2m4) (c := k2c4) (by decide +kernel) rfl rfl rfl (by decide +kernel)
set_option maxRecDepth 65536 in
theorem w_c10 : (Jvm.Cond.code ({ cls := "com/example/chipmantle/chipmantle/CommandApdu", name := "withData", desc := "([BIII)Lcom/example/chipmantle/chipmantle/CommandApdu;" } : Jvm.MethodName) prog_3_method_3_code (5 : Nat) (Option.some (Jvm.ClassFile.FieldType.object "com/example/chipmantle/chipmantle/CommandApdu"))).before args0 about1 = true := code_word (m := ⟨2, 2⟩) (meth := k2m2) (c := k2c2) (by decide +kernel) rfl rfl rfl (by decide +kernel)
set_option maxRecDepth 65536 in
theorem w_c11 : (Jvm.Cond.code ({ cls := "com/example/chipmantle/chipmantle/CommandApdu", name := "ne", desc := "([BII)I" } : Jvm.MethodName) prog_3_method_4_code (4 : Nat) (Option.some Jvm.ClassFile.FieldType.int)).before args0 about1 = true := code_word (m := ⟨2, 3⟩) (meth := k2m3) (c := k2c3) (by decide +kernel) rfl rfl rfl (by decide +kernel)
def codes1 : List Jvm.Cond := [Jvm.Cond.code x code maxLocals ret, Jvm.Cond.code ({ cls := "com/example/chipmantle/chipmantle/CommandApdu", name := "parse", desc := "([B)Lcom/example/chipmantle/chipmantle/CommandApdu;" } : Jvm.MethodName) prog_3_method_2_code (4 : Nat) (Option.some (Jvm.ClassFile.FieldType.object "com/example/chipmantle/chipmantle/CommandApdu")), Jvm.Cond.code ({ cls := "com/example/chipmantle/chipmantle/CommandApdu", name := "<init>", desc := "([BIII)V" } : Jvm.MethodName) prog_3_method_1_code (5 : Nat) (Option.none : Option Jvm.ClassFile.FieldType), Jvm.Cond.code ({ cls := "java/lang/Object", name := "<init>", desc := "()V" } : Jvm.MethodName) object_method_1_code (1 : Nat) (Option.none : Option Jvm.ClassFile.FieldType), Jvm.Cond.code ({ cls := "com/example/chipmantle/chipmantle/CommandApdu", name := "bytes", desc := "()[B" } : Jvm.MethodName) prog_3_method_6_code (1 : Nat) (Option.some (Jvm.ClassFile.FieldType.array Jvm.ClassFile.FieldType.byte)), Jvm.Cond.code ({ cls := "com/example/chipmantle/chipmantle/CommandApdu", name := "offsetCdata", desc := "()I" } : Jvm.MethodName) prog_3_method_14_code (1 : Nat) (Option.some Jvm.ClassFile.FieldType.int), Jvm.Cond.code ({ cls := "com/example/chipmantle/chipmantle/CommandApdu", name := "nc", desc := "()I" } : Jvm.MethodName) prog_3_method_15_code (1 : Nat) (Option.some Jvm.ClassFile.FieldType.int), Jvm.Cond.code ({ cls := "com/example/chipmantle/chipmantle/CommandApdu", name := "ne", desc := "()I" } : Jvm.MethodName) prog_3_method_16_code (1 : Nat) (Option.some Jvm.ClassFile.FieldType.int), Jvm.Cond.code ({ cls := "com/example/chipmantle/chipmantle/CommandApdu", name := "extended", desc := "()Z" } : Jvm.MethodName) prog_3_method_13_code (1 : Nat) (Option.some Jvm.ClassFile.FieldType.boolean), Jvm.Cond.code ({ cls := "com/example/chipmantle/chipmantle/CommandApdu", name := "field", desc := "([BII)I" } : Jvm.MethodName) prog_3_method_5_code (5 : Nat) (Option.some Jvm.ClassFile.FieldType.int), Jvm.Cond.code ({ cls := "com/example/chipmantle/chipmantle/CommandApdu", name := "withData", desc := "([BIII)Lcom/example/chipmantle/chipmantle/CommandApdu;" } : Jvm.MethodName) prog_3_method_3_code (5 : Nat) (Option.some (Jvm.ClassFile.FieldType.object "com/example/chipmantle/chipmantle/CommandApdu")), Jvm.Cond.code ({ cls := "com/example/chipmantle/chipmantle/CommandApdu", name := "ne", desc := "([BII)I" } : Jvm.MethodName) prog_3_method_4_code (4 : Nat) (Option.some Jvm.ClassFile.FieldType.int)]
set_option maxRecDepth 65536 in
theorem codes_eq : words1.filter isCode = codes1 := rfl
theorem w_codes : ∀ c ∈ words1.filter isCode, c.before args0 about1 = true := by
  rw [codes_eq]
  intro c hc
  simp only [codes1, List.mem_cons, List.not_mem_nil, or_false] at hc
  rcases hc with rfl | rfl | rfl | rfl | rfl | rfl | rfl | rfl | rfl | rfl | rfl | rfl
  · exact w_c0
  · exact w_c1
  · exact w_c2
  · exact w_c3
  · exact w_c4
  · exact w_c5
  · exact w_c6
  · exact w_c7
  · exact w_c8
  · exact w_c9
  · exact w_c10
  · exact w_c11
set_option maxRecDepth 65536 in
theorem w_t1 : (words1.take 24).all (fun c => isCode c || c.before args0 about1) = true := by decide +kernel
set_option maxRecDepth 65536 in
theorem w_t2 : ((words1.drop 24).take 24).all (fun c => isCode c || c.before args0 about1) = true := by decide +kernel
set_option maxRecDepth 65536 in
theorem w_t3 : ((words1.drop 24).drop 24).all (fun c => isCode c || c.before args0 about1) = true := by decide +kernel
theorem w_tables : (allAtoms (Jvm.Cond.code x code maxLocals ret :: tables_1)).before args0 about1 = true := by
  rw [allAtoms_all]
  show words1.all (fun c => c.before args0 about1) = true
  refine all_split ?_ w_codes
  rw [← List.take_append_drop 24 words1, List.all_append, w_t1, ← List.take_append_drop 24 (words1.drop 24), List.all_append, w_t2, w_t3]
  rfl
set_option maxRecDepth 65536 in
theorem w_case : (Jvm.Cond.and given_1 narrow_1).before args0 about1 = true := by decide +kernel
theorem w_applies : (headSpec (Jvm.Cond.code x code maxLocals ret :: tables_1) room_1).applies x e0.platform about1 = true :=
  (Spec.applies_iff w_frames).mpr ⟨w_running, w_runnable, w_alone, w_named, w_hears, w_ripe, w_room, w_tables⟩
theorem atStart : AtStart classFile x code maxLocals ret World_1 tables_1 room_1 Calls_1 rest_1 Pre_1 launch0 p0 e0 about1 theMethod args0 below0 :=
  ⟨lists_1, trivial, launch0.admits_env _ _ _, launch0.least_env, fairChoices_fair.cas, fairChoices_fair.clock, w_frames, w_args, w_heap, w_applies, trivial, trivial, w_case⟩
end start1
theorem witness_1 : WitnessClaimed_1 := ⟨start1.p0, start1.e0, start1.about1, start1.theMethod, start1.args0, start1.below0, start1.atStart⟩
end Jvm.Pilot.@@N@@
