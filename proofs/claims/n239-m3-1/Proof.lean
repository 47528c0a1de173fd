import JvmDerived
import JvmDerived.Pilot.@@N@@Statement
import JvmDerived.Pilot.@@N@@Code
set_option linter.unusedVariables false
set_option linter.unusedSimpArgs false
namespace Jvm.RoadKit
open Sem ClassFile Op Lib Jvm.Stand Jvm.Free Jvm.LawKit
section New
variable {p : Program} {l : Launch} {e : Env} {R : Room} {s : State} {m : MethodId} {args : Array Value} {below : List Frame} {meth : Method} {c : Code} {T : State} {locs : List Loc} {cells slots : Nat}
theorem retI (X : Stand p l e R s m args below meth c T locs cells slots) (hx : p.tables.exec = Jvm.exec) {pc : Nat} {Ls : Array Slot} {z : Int32} {rest : List Value} (hret : meth.sig.returnType = some .int) (hd : decode c.code pc = .ok (.ireturn, 1)) {fs : List Frame}
    (hl : ∀ (f : JFrame) (acts : List Action), f.method = m → f.locked = none → f.entered = [] → (doReturn e (T.setTop f) acts (some (.int z))).1 = T.setFrames fs) : Steps p.tables e below (T.setTop (mkF m pc Ls (.int z :: rest))) (T.setFrames fs) := by
  have hm' : T.vm.method? m = some meth := X.method'
  have hn : narrow .int (.int z) = .int z := rfl
  show Steps p.tables e below (T.setTop { method := m, pc := pc, locals := Ls, stack := _ :: rest, locked := none }) _
  jvm_step X.here [X.here.top, hx, hd, hm', hret, hn]
  first | (intro acts; rw [hl _ acts rfl rfl rfl]) | rw [hl _ _ rfl rfl rfl]
  exact Steps.refl _
end New
end Jvm.RoadKit
namespace Jvm.Pilot.@@N@@
open Jvm Jvm.ClassFile Sem Op Lib Jvm.Free Jvm.Stand Jvm.LawKit Jvm.RoadKit Bundle Jvm.Pilot.@@N@@.Jvm.D
abbrev own_S (p : Program) (e : Env) (below : List Frame) (T : State) (f : JFrame) (t : State) : Prop := Steps p.tables e below (T.setTop f) t
abbrev own_ushr (x y : Int32) : Int32 := (x.toUInt32 >>> (y &&& 31).toUInt32).toInt32
abbrev own_ushrL (x : Int64) (y : Int32) : Int64 := (x.toUInt64 >>> (y &&& 63).toInt64.toUInt64).toInt64
def own_Qi (z : Int32) (h0 : Heap) (n0 : Nat) (v : Option Value) (h : Heap) (L : List Loc) : Prop := v = some (.int z) ∧ Fr n0 L ∧ h = h0
theorem own_wk {Z : State} {ag : Array Value} {d : Jvm.Cond} (hw : ∀ d ∈ tables_1, d.before ag Z = true) (i : Nat) (h : tables_1[i]? = some d) : d.before ag Z = true := hw d (List.mem_of_getElem? h)
theorem own_cast {α : Sort _} {P : α → Prop} {a b : α} (h : a = b) (k : P a) : P b := h ▸ k
theorem pn_0 : plainName "com/example/waveloom/waveloom/network/Links" = true := by first | (simp [plainName, overriddenIn]; done) | decide +kernel
theorem ef_1 (m : MethodId) (a0 : Addr) (p1 : Int32) : entryFrame m #[(.ref a0), (.int p1)] 2 = mkF m 0 #[.val (.ref a0), .val (.int p1)] [] := by first | (simp [entryFrame, mkF, argsToLocals, Value.category]; done) | rfl
theorem d1_0 : decode prog_30_method_1_code 0 = .ok (.aload_n 0, 1) := by decide +kernel
theorem d1_1 : decode prog_30_method_1_code 1 = .ok (.invokespecial 1, 3) := by decide +kernel
theorem d1_4 : decode prog_30_method_1_code 4 = .ok (.aload_n 0, 1) := by decide +kernel
theorem d1_5 : decode prog_30_method_1_code 5 = .ok (.iload_n 1, 1) := by decide +kernel
theorem d1_6 : decode prog_30_method_1_code 6 = .ok (.newarray .int, 2) := by decide +kernel
theorem d1_8 : decode prog_30_method_1_code 8 = .ok (.putfield 7, 3) := by decide +kernel
theorem d1_11 : decode prog_30_method_1_code 11 = .ok (.aload_n 0, 1) := by decide +kernel
theorem d1_12 : decode prog_30_method_1_code 12 = .ok (.iload_n 1, 1) := by decide +kernel
theorem d1_13 : decode prog_30_method_1_code 13 = .ok (.newarray .int, 2) := by decide +kernel
theorem d1_15 : decode prog_30_method_1_code 15 = .ok (.putfield 13, 3) := by decide +kernel
theorem d1_18 : decode prog_30_method_1_code 18 = .ok (.return_, 1) := by decide +kernel
def Q1 (Z : State) (a0 : Addr) (p1 : Int32) (h0 : Heap) (n0 : Nat) (v : Option Value) (h : Heap) (L : List Loc) : Prop := v = none ∧ Fr n0 L ∧ Keep h0 h [a0] ∧ ∃ (f g : Addr) (kf kg : ClassId), n0 ≤ f ∧ n0 ≤ g ∧ h0.size ≤ f ∧ h0.size ≤ g ∧ a0 ≠ f ∧ a0 ≠ g ∧ f ≠ g ∧ Exa Z h a0 "com/example/waveloom/waveloom/network/Links" ∧ Fld Z h a0 "com/example/waveloom/waveloom/network/Links" "firsts" "[I" (.ref f) ∧ Fld Z h a0 "com/example/waveloom/waveloom/network/Links" "seconds" "[I" (.ref g) ∧ Fld Z h a0 "com/example/waveloom/waveloom/network/Links" "count" "I" (.int (0 : Int32)) ∧ Arv Z h f kf .int p1 [(.int (0 : Int32)), (.int (0 : Int32))] (.int (0 : Int32)) ∧ Arv Z h g kg .int p1 [(.int (0 : Int32)), (.int (0 : Int32))] (.int (0 : Int32))
set_option maxRecDepth 65536 in
set_option maxHeartbeats 40000000 in
theorem rm1 (l : Launch) (Z : State) (ag : Array Value) (hw : ∀ d ∈ tables_1, d.before ag Z = true) (ws : List Jvm.Cond) (a0 : Addr) (p1 : Int32) (h0 : Heap) (n0 : Nat) (Z0 : n0 ≤ h0.size) (E_a0 : Exa Z h0 a0 "com/example/waveloom/waveloom/network/Links") (F_firsts_a0 : Fld Z h0 a0 "com/example/waveloom/waveloom/network/Links" "firsts" "[I" .null) (F_seconds_a0 : Fld Z h0 a0 "com/example/waveloom/waveloom/network/Links" "seconds" "[I" .null) (F_count_a0 : Fld Z h0 a0 "com/example/waveloom/waveloom/network/Links" "count" "I" (.int (0 : Int32))) (ge_a0 : n0 ≤ a0) (hn : ¬ p1 < 0) (hcap : p1.toNatClampNeg ≤ 9) :
    MetFree l (⟨"com/example/waveloom/waveloom/network/Links", "<init>", "(I)V"⟩ : MethodName) (head1 (Jvm.Cond.code (⟨"com/example/waveloom/waveloom/network/Links", "<init>", "(I)V"⟩ : MethodName) prog_30_method_1_code 2 none :: ws) ({ frames := 1, cells := 2, slots := 18, locals := 12 } : Room)) (fun a U => a = #[(.ref a0), (.int p1)] ∧ Z.Warmed39 U.vm ∧ U.heap = h0) (fun _ _ _ _ _ => True) (fun _ U o U' => ∃ v L, o = .returned v ∧ Q1 Z a0 p1 h0 n0 v U'.heap L ∧ FrameEnd U o U' L ({ frames := 1, cells := 2, slots := 18, locals := 12 } : Room).cells ({ frames := 1, cells := 2, slots := 18, locals := 12 } : Room).slots) := by
  refine MetFree.of_bodySF (plainFor_of_name pn_0) hisR ?_
  intro p e s m args below meth c s₁ Bd hml0 hP hK
  obtain ⟨rfl, hZ, hh⟩ := hP
  have hx := Bd.exec
  have hby := Bd.bytes
  have hml : c.maxLocals = 2 := hml0
  have hown : s.vm.findClass "com/example/waveloom/waveloom/network/Links" = some m.cls := findClass_of_methodNamed Bd.named
  have hnm := (name_of_methodNamed Bd.named Bd.method).1
  have X0 : Stand p l e ({ frames := 1, cells := 2, slots := 18, locals := 12 } : Room) s m #[(.ref a0), (.int p1)] below meth c s₁ [] 0 0 := Stand.of_body Bd
  have e0 : s₁.heap = h0 := by rw [← hh, Bd.state]; rfl
  have N0 := Fr.nil n0
  have pre0 : ∀ t, Steps p.tables e below (s₁.setTop (mkF m 0 #[.val (.ref a0), .val (.int p1)] [])) t → Steps p.tables e below (s₁.setTop (entryFrame m #[(.ref a0), (.int p1)] 2)) t := fun t k => castTop (ef_1 m a0 p1) k
  obtain ⟨T1, X1, e1, st1⟩ := initO X0 hx hZ hown (hw _ (List.mem_of_getElem? (i := 6) rfl)) (hw _ (List.mem_of_getElem? (i := 7) rfl)) (hw _ (List.mem_of_getElem? (i := 8) rfl)) e0 (g := (mkF m 1 #[.val (.ref a0), .val (.int p1)] [(.ref a0)])) rfl (by rw [hml]; rfl) rfl (hb hby d1_1) (by decide) (W := 0) (by show 2 * 0 + _ ≤ _; exact Nat.le_of_eq rfl) (by decide)
  obtain ⟨T2, h2, k2, X2, e2, E2, A2, st2⟩ := newP X1 hx hZ (hw _ (List.mem_of_getElem? (i := 9) rfl)) e1 (g := (mkF m 6 #[.val (.ref a0), .val (.int p1)] [(.int p1), (.ref a0)])) rfl (hb hby d1_6) rfl hn (cap := 9) hcap (by decide) (by decide) (by decide)
  obtain ⟨b2, g2⟩ : ∃ z, z = h0.size := ⟨_, rfl⟩
  have ne3 : a0 ≠ b2 := Nat.ne_of_lt (Nat.lt_of_lt_of_le E_a0.lt (Nat.le_of_eq g2.symm))
  have ge_b2 : n0 ≤ b2 := Nat.le_trans Z0 (Nat.le_of_eq g2.symm)
  have gs_b2 : h0.size ≤ b2 := Nat.le_trans (Keep.refl h0 [a0]).1 (Nat.le_of_eq g2.symm)
  rw [← g2] at A2 st2
  have x4 := E_a0.ext E2
  have x5 := F_firsts_a0.ext E2
  have x6 := F_seconds_a0.ext E2
  have x7 := F_count_a0.ext E2
  have sz8 : n0 ≤ h2.size := Nat.le_trans Z0 E2.1
  have kp9 : Keep h0 h2 [a0] := (Keep.refl h0 [a0]).ext E2
  have V2 : Arv Z h2 b2 k2 .int p1 [] (.int (0 : Int32)) := Arv.new A2 hn
  obtain ⟨T10, h10, X10, e10, W10, st10⟩ := putF X2 hx hZ hown (host := "") (Or.inl (hw _ (List.mem_of_getElem? (i := 10) rfl))) Via.refl e2 x5 x4 (Or.inr ⟨(hw _ (List.mem_of_getElem? (i := 11) rfl)), rfl, hnm⟩) (hw _ (List.mem_of_getElem? (i := 1) rfl)) (ty := (.array .int)) (by decide) rfl rfl (g := (mkF m 8 #[.val (.ref a0), .val (.int p1)] [(.ref b2), (.ref a0)])) rfl rfl (hb hby d1_8)
  have Fw10 := x5.same W10
  have x11 := x4.wr W10
  have x12 := x6.other W10 (Or.inr (slot_ne (Or.inr (hw _ (List.mem_of_getElem? (i := 13) rfl))) (Or.inr (hw _ (List.mem_of_getElem? (i := 11) rfl))) (by decide) (t := (.array .int)) (t' := (.array .int)) (by decide) (by decide)))
  have x13 := x7.other W10 (Or.inr (slot_ne (Or.inl (hw _ (List.mem_of_getElem? (i := 20) rfl))) (Or.inr (hw _ (List.mem_of_getElem? (i := 11) rfl))) (by decide) (t := .int) (t' := (.array .int)) (by decide) (by decide)))
  have x14 := V2.other W10 (Ne.symm ne3)
  have sz15 : n0 ≤ h10.size := Nat.le_trans sz8 (Keep.of_wr W10).1
  have kp16 : Keep h0 h10 [a0] := kp9.wr W10 (Or.inl (List.mem_of_getElem? (i := 0) rfl))
  have N10 := Fr.snoc X10 N0 ge_a0
  obtain ⟨T17, h17, k17, X17, e17, E17, A17, st17⟩ := newP X10 hx hZ (hw _ (List.mem_of_getElem? (i := 9) rfl)) e10 (g := (mkF m 13 #[.val (.ref a0), .val (.int p1)] [(.int p1), (.ref a0)])) rfl (hb hby d1_13) rfl hn (cap := 9) hcap (by decide) (by decide) (by decide)
  obtain ⟨b17, g17⟩ : ∃ z, z = h10.size := ⟨_, rfl⟩
  have ne18 : a0 ≠ b17 := Nat.ne_of_lt (Nat.lt_of_lt_of_le x11.lt (Nat.le_of_eq g17.symm))
  have ne19 : b2 ≠ b17 := Nat.ne_of_lt (Nat.lt_of_lt_of_le x14.lt (Nat.le_of_eq g17.symm))
  have ge_b17 : n0 ≤ b17 := Nat.le_trans sz15 (Nat.le_of_eq g17.symm)
  have gs_b17 : h0.size ≤ b17 := Nat.le_trans kp16.1 (Nat.le_of_eq g17.symm)
  rw [← g17] at A17 st17
  have x20 := x11.ext E17
  have x21 := x12.ext E17
  have x22 := x13.ext E17
  have x23 := x14.ext E17
  have x24 := Fw10.ext E17
  have sz25 : n0 ≤ h17.size := Nat.le_trans sz15 E17.1
  have kp26 : Keep h0 h17 [a0] := kp16.ext E17
  have V17 : Arv Z h17 b17 k17 .int p1 [] (.int (0 : Int32)) := Arv.new A17 hn
  obtain ⟨T27, h27, X27, e27, W27, st27⟩ := putF X17 hx hZ hown (host := "") (Or.inl (hw _ (List.mem_of_getElem? (i := 12) rfl))) Via.refl e17 x21 x20 (Or.inr ⟨(hw _ (List.mem_of_getElem? (i := 13) rfl)), rfl, hnm⟩) (hw _ (List.mem_of_getElem? (i := 1) rfl)) (ty := (.array .int)) (by decide) rfl rfl (g := (mkF m 15 #[.val (.ref a0), .val (.int p1)] [(.ref b17), (.ref a0)])) rfl rfl (hb hby d1_15)
  have Fw27 := x21.same W27
  have x28 := x20.wr W27
  have x29 := x22.other W27 (Or.inr (slot_ne (Or.inl (hw _ (List.mem_of_getElem? (i := 20) rfl))) (Or.inr (hw _ (List.mem_of_getElem? (i := 13) rfl))) (by decide) (t := .int) (t' := (.array .int)) (by decide) (by decide)))
  have x30 := x23.other W27 (Ne.symm ne3)
  have x31 := x24.other W27 (Or.inr (slot_ne (Or.inr (hw _ (List.mem_of_getElem? (i := 11) rfl))) (Or.inr (hw _ (List.mem_of_getElem? (i := 13) rfl))) (by decide) (t := (.array .int)) (t' := (.array .int)) (by decide) (by decide)))
  have x32 := V17.other W27 (Ne.symm ne18)
  have sz33 : n0 ≤ h27.size := Nat.le_trans sz25 (Keep.of_wr W27).1
  have kp34 : Keep h0 h27 [a0] := kp26.wr W27 (Or.inl (List.mem_of_getElem? (i := 0) rfl))
  have N27 := Fr.snoc X27 N10 ge_a0
  obtain ⟨fs, hr, hrun, hended, hW, hsame⟩ := X27.leave (v := none) (fun _ => rfl)
  refine ⟨_, _, pre0 _ ?_, hrun, hended, _, _, rfl, ?_, ⟨_, rfl⟩, hW, hsame.mono (by decide) (by decide)⟩
  · show own_S p e below s₁ (mkF m 0 #[.val (.ref a0), .val (.int p1)] []) _
    refine XS.aloadN X0.here hx rfl (hb hby d1_0) rfl rfl ?_
    show own_S p e below s₁ (mkF m 1 #[.val (.ref a0), .val (.int p1)] [(.ref a0)]) _
    refine st1 _ ?_
    show own_S p e below T1 (mkF m 4 #[.val (.ref a0), .val (.int p1)] []) _
    refine XS.aloadN X1.here hx rfl (hb hby d1_4) rfl rfl ?_
    show own_S p e below T1 (mkF m 5 #[.val (.ref a0), .val (.int p1)] [(.ref a0)]) _
    refine XS.iloadN X1.here hx rfl (hb hby d1_5) rfl ?_
    show own_S p e below T1 (mkF m 6 #[.val (.ref a0), .val (.int p1)] [(.int p1), (.ref a0)]) _
    refine st2 _ ?_
    show own_S p e below T2 (mkF m 8 #[.val (.ref a0), .val (.int p1)] [(.ref b2), (.ref a0)]) _
    refine st10 _ ?_
    show own_S p e below T10 (mkF m 11 #[.val (.ref a0), .val (.int p1)] []) _
    refine XS.aloadN X10.here hx rfl (hb hby d1_11) rfl rfl ?_
    show own_S p e below T10 (mkF m 12 #[.val (.ref a0), .val (.int p1)] [(.ref a0)]) _
    refine XS.iloadN X10.here hx rfl (hb hby d1_12) rfl ?_
    show own_S p e below T10 (mkF m 13 #[.val (.ref a0), .val (.int p1)] [(.int p1), (.ref a0)]) _
    refine st17 _ ?_
    show own_S p e below T17 (mkF m 15 #[.val (.ref a0), .val (.int p1)] [(.ref b17), (.ref a0)]) _
    refine st27 _ ?_
    show own_S p e below T27 (mkF m 18 #[.val (.ref a0), .val (.int p1)] []) _
    exact X27.returnOut hx Bd.returns (hb hby d1_18) hr
  · show Q1 Z a0 p1 h0 n0 _ T27.heap _
    rw [e27]
    exact ⟨rfl, N27, kp34, b2, b17, k2, k17, ge_b2, ge_b17, gs_b2, gs_b17, ne3, ne18, ne19, x28, x31, Fw27, x29, x30.pad (pad_rep [] (.int (0 : Int32)) 2), x32.pad (pad_rep [] (.int (0 : Int32)) 2)⟩
theorem ef_3 (m : MethodId) (a0 : Addr) (p1 : Int32) (p2 : Int32) : entryFrame m #[(.ref a0), (.int p1), (.int p2)] 3 = mkF m 0 #[.val (.ref a0), .val (.int p1), .val (.int p2)] [] := by first | (simp [entryFrame, mkF, argsToLocals, Value.category]; done) | rfl
theorem d3_0 : decode prog_30_method_2_code 0 = .ok (.aload_n 0, 1) := by decide +kernel
theorem d3_1 : decode prog_30_method_2_code 1 = .ok (.getfield 7, 3) := by decide +kernel
theorem d3_4 : decode prog_30_method_2_code 4 = .ok (.aload_n 0, 1) := by decide +kernel
theorem d3_5 : decode prog_30_method_2_code 5 = .ok (.getfield 16, 3) := by decide +kernel
theorem d3_8 : decode prog_30_method_2_code 8 = .ok (.iload_n 1, 1) := by decide +kernel
theorem d3_9 : decode prog_30_method_2_code 9 = .ok (.iastore, 1) := by decide +kernel
theorem d3_10 : decode prog_30_method_2_code 10 = .ok (.aload_n 0, 1) := by decide +kernel
theorem d3_11 : decode prog_30_method_2_code 11 = .ok (.getfield 13, 3) := by decide +kernel
theorem d3_14 : decode prog_30_method_2_code 14 = .ok (.aload_n 0, 1) := by decide +kernel
theorem d3_15 : decode prog_30_method_2_code 15 = .ok (.getfield 16, 3) := by decide +kernel
theorem d3_18 : decode prog_30_method_2_code 18 = .ok (.iload_n 2, 1) := by decide +kernel
theorem d3_19 : decode prog_30_method_2_code 19 = .ok (.iastore, 1) := by decide +kernel
theorem d3_20 : decode prog_30_method_2_code 20 = .ok (.aload_n 0, 1) := by decide +kernel
theorem d3_21 : decode prog_30_method_2_code 21 = .ok (.dup, 1) := by decide +kernel
theorem d3_22 : decode prog_30_method_2_code 22 = .ok (.getfield 16, 3) := by decide +kernel
theorem d3_25 : decode prog_30_method_2_code 25 = .ok (.iconst 1, 1) := by decide +kernel
theorem d3_26 : decode prog_30_method_2_code 26 = .ok (.iadd, 1) := by decide +kernel
theorem d3_27 : decode prog_30_method_2_code 27 = .ok (.putfield 16, 3) := by decide +kernel
theorem d3_30 : decode prog_30_method_2_code 30 = .ok (.return_, 1) := by decide +kernel
def Q3 (Z : State) (a0 : Addr) (p1 : Int32) (p2 : Int32) (f : Addr) (g : Addr) (kf : ClassId) (kg : ClassId) (cn : Int32) (nn : Int32) (us : List Value) (vs : List Value) (h0 : Heap) (n0 : Nat) (v : Option Value) (h : Heap) (L : List Loc) : Prop := v = none ∧ Fr n0 L ∧ Keep h0 h [f, g, a0] ∧ Fld Z h a0 "com/example/waveloom/waveloom/network/Links" "firsts" "[I" (.ref f) ∧ Fld Z h a0 "com/example/waveloom/waveloom/network/Links" "seconds" "[I" (.ref g) ∧ Fld Z h a0 "com/example/waveloom/waveloom/network/Links" "count" "I" (.int (cn + 1)) ∧ Arv Z h f kf .int nn (us.set (cn).toNatClampNeg (.int p1)) (.int (0 : Int32)) ∧ Arv Z h g kg .int nn (vs.set (cn).toNatClampNeg (.int p2)) (.int (0 : Int32))
set_option maxRecDepth 65536 in
set_option maxHeartbeats 40000000 in
theorem rm3 (l : Launch) (Z : State) (ag : Array Value) (hw : ∀ d ∈ tables_1, d.before ag Z = true) (ws : List Jvm.Cond) (a0 : Addr) (p1 : Int32) (p2 : Int32) (f : Addr) (g : Addr) (kf : ClassId) (kg : ClassId) (cn : Int32) (nn : Int32) (us : List Value) (vs : List Value) (h0 : Heap) (n0 : Nat) (Z0 : n0 ≤ h0.size) (E_a0 : Exa Z h0 a0 "com/example/waveloom/waveloom/network/Links") (F_firsts_a0 : Fld Z h0 a0 "com/example/waveloom/waveloom/network/Links" "firsts" "[I" (.ref f)) (F_seconds_a0 : Fld Z h0 a0 "com/example/waveloom/waveloom/network/Links" "seconds" "[I" (.ref g)) (F_count_a0 : Fld Z h0 a0 "com/example/waveloom/waveloom/network/Links" "count" "I" (.int cn)) (V_f : Arv Z h0 f kf .int nn us (.int (0 : Int32))) (V_g : Arv Z h0 g kg .int nn vs (.int (0 : Int32))) (ge_a0 : n0 ≤ a0) (ge_f : n0 ≤ f) (ge_g : n0 ≤ g) (ne_a0_f : a0 ≠ f) (ne_a0_g : a0 ≠ g) (ne_f_g : f ≠ g) (hi : ¬ cn < 0 ∧ cn < nn) (hlu : cn.toNatClampNeg < us.length) (hlv : cn.toNatClampNeg < vs.length) :
    MetFree l (⟨"com/example/waveloom/waveloom/network/Links", "add", "(II)V"⟩ : MethodName) (head1 (Jvm.Cond.code (⟨"com/example/waveloom/waveloom/network/Links", "add", "(II)V"⟩ : MethodName) prog_30_method_2_code 3 none :: ws) ({ frames := 0, cells := 0, slots := 0, locals := 0 } : Room)) (fun a U => a = #[(.ref a0), (.int p1), (.int p2)] ∧ Z.Warmed39 U.vm ∧ U.heap = h0) (fun _ _ _ _ _ => True) (fun _ U o U' => ∃ v L, o = .returned v ∧ Q3 Z a0 p1 p2 f g kf kg cn nn us vs h0 n0 v U'.heap L ∧ FrameEnd U o U' L ({ frames := 0, cells := 0, slots := 0, locals := 0 } : Room).cells ({ frames := 0, cells := 0, slots := 0, locals := 0 } : Room).slots) := by
  refine MetFree.of_bodySF (plainFor_of_name pn_0) hisR ?_
  intro p e s m args below meth c s₁ Bd hml0 hP hK
  obtain ⟨rfl, hZ, hh⟩ := hP
  have hx := Bd.exec
  have hby := Bd.bytes
  have hml : c.maxLocals = 3 := hml0
  have hown : s.vm.findClass "com/example/waveloom/waveloom/network/Links" = some m.cls := findClass_of_methodNamed Bd.named
  have hnm := (name_of_methodNamed Bd.named Bd.method).1
  have X0 : Stand p l e ({ frames := 0, cells := 0, slots := 0, locals := 0 } : Room) s m #[(.ref a0), (.int p1), (.int p2)] below meth c s₁ [] 0 0 := Stand.of_body Bd
  have e0 : s₁.heap = h0 := by rw [← hh, Bd.state]; rfl
  have N0 := Fr.nil n0
  have pre0 : ∀ t, Steps p.tables e below (s₁.setTop (mkF m 0 #[.val (.ref a0), .val (.int p1), .val (.int p2)] [])) t → Steps p.tables e below (s₁.setTop (entryFrame m #[(.ref a0), (.int p1), (.int p2)] 3)) t := fun t k => castTop (ef_3 m a0 p1 p2) k
  obtain ⟨T35, X35, e35, st35⟩ := getF X0 hx hZ hown (host := "") (Or.inl (hw _ (List.mem_of_getElem? (i := 10) rfl))) Via.refl e0 F_firsts_a0 (g := (mkF m 1 #[.val (.ref a0), .val (.int p1), .val (.int p2)] [(.ref a0)])) rfl rfl (hb hby d3_1)
  obtain ⟨T36, X36, e36, st36⟩ := getF X35 hx hZ hown (host := "") (Or.inl (hw _ (List.mem_of_getElem? (i := 19) rfl))) Via.refl e35 F_count_a0 (g := (mkF m 5 #[.val (.ref a0), .val (.int p1), .val (.int p2)] [(.ref a0), (.ref f)])) rfl rfl (hb hby d3_5)
  obtain ⟨cl37, Ar37, q37, S37, M37, H37, G37⟩ := id V_f
  have hin37 : ¬ (cn < 0 ∨ cl37.slots.size ≤ (cn).toNatClampNeg) := inb_of S37 hi
  obtain ⟨T37, h37, X37, e37, W37, st37⟩ := stI X36 hx hZ e36 Ar37 (j := cn) hin37 (g := (mkF m 9 #[.val (.ref a0), .val (.int p1), .val (.int p2)] [(.int p1), (.int cn), (.ref f)])) rfl rfl (hb hby d3_9)
  have V37 : Arv Z h37 f kf .int nn (us.set (cn).toNatClampNeg (.int p1)) (.int (0 : Int32)) := Arv.set Ar37 q37 S37 M37 H37 G37 rfl W37 (cn).toNatClampNeg rfl hlu
  have x38 := E_a0.wr W37
  have x39 := F_firsts_a0.other W37 (Or.inl ne_a0_f)
  have x40 := F_seconds_a0.other W37 (Or.inl ne_a0_f)
  have x41 := F_count_a0.other W37 (Or.inl ne_a0_f)
  have x42 := V_g.other W37 (Ne.symm ne_f_g)
  have sz43 : n0 ≤ h37.size := Nat.le_trans Z0 (Keep.of_wr W37).1
  have kp44 : Keep h0 h37 [f, g, a0] := (Keep.refl h0 [f, g, a0]).wr W37 (Or.inl (List.mem_of_getElem? (i := 0) rfl))
  have N37 := Fr.snoc X37 N0 ge_f
  obtain ⟨T45, X45, e45, st45⟩ := getF X37 hx hZ hown (host := "") (Or.inl (hw _ (List.mem_of_getElem? (i := 12) rfl))) Via.refl e37 x40 (g := (mkF m 11 #[.val (.ref a0), .val (.int p1), .val (.int p2)] [(.ref a0)])) rfl rfl (hb hby d3_11)
  obtain ⟨T46, X46, e46, st46⟩ := getF X45 hx hZ hown (host := "") (Or.inl (hw _ (List.mem_of_getElem? (i := 19) rfl))) Via.refl e45 x41 (g := (mkF m 15 #[.val (.ref a0), .val (.int p1), .val (.int p2)] [(.ref a0), (.ref g)])) rfl rfl (hb hby d3_15)
  obtain ⟨cl47, Ar47, q47, S47, M47, H47, G47⟩ := id x42
  have hin47 : ¬ (cn < 0 ∨ cl47.slots.size ≤ (cn).toNatClampNeg) := inb_of S47 hi
  obtain ⟨T47, h47, X47, e47, W47, st47⟩ := stI X46 hx hZ e46 Ar47 (j := cn) hin47 (g := (mkF m 19 #[.val (.ref a0), .val (.int p1), .val (.int p2)] [(.int p2), (.int cn), (.ref g)])) rfl rfl (hb hby d3_19)
  have V47 : Arv Z h47 g kg .int nn (vs.set (cn).toNatClampNeg (.int p2)) (.int (0 : Int32)) := Arv.set Ar47 q47 S47 M47 H47 G47 rfl W47 (cn).toNatClampNeg rfl hlv
  have x48 := x38.wr W47
  have x49 := x39.other W47 (Or.inl ne_a0_g)
  have x50 := x40.other W47 (Or.inl ne_a0_g)
  have x51 := x41.other W47 (Or.inl ne_a0_g)
  have x52 := V37.other W47 ne_f_g
  have sz53 : n0 ≤ h47.size := Nat.le_trans sz43 (Keep.of_wr W47).1
  have kp54 : Keep h0 h47 [f, g, a0] := kp44.wr W47 (Or.inl (List.mem_of_getElem? (i := 1) rfl))
  have N47 := Fr.snoc X47 N37 ge_g
  obtain ⟨T55, X55, e55, st55⟩ := getF X47 hx hZ hown (host := "") (Or.inl (hw _ (List.mem_of_getElem? (i := 19) rfl))) Via.refl e47 x51 (g := (mkF m 22 #[.val (.ref a0), .val (.int p1), .val (.int p2)] [(.ref a0), (.ref a0)])) rfl rfl (hb hby d3_22)
  obtain ⟨T56, h56, X56, e56, W56, st56⟩ := putF X55 hx hZ hown (host := "") (Or.inl (hw _ (List.mem_of_getElem? (i := 19) rfl))) Via.refl e55 x51 x48 (Or.inl (hw _ (List.mem_of_getElem? (i := 20) rfl))) (hw _ (List.mem_of_getElem? (i := 1) rfl)) (ty := .int) (by decide) rfl rfl (g := (mkF m 27 #[.val (.ref a0), .val (.int p1), .val (.int p2)] [(.int (cn + (1 : Int32))), (.ref a0)])) rfl rfl (hb hby d3_27)
  have Fw56 := x51.same W56
  have x57 := x48.wr W56
  have x58 := x49.other W56 (Or.inr (slot_ne (Or.inr (hw _ (List.mem_of_getElem? (i := 11) rfl))) (Or.inl (hw _ (List.mem_of_getElem? (i := 20) rfl))) (by decide) (t := (.array .int)) (t' := .int) (by decide) (by decide)))
  have x59 := x50.other W56 (Or.inr (slot_ne (Or.inr (hw _ (List.mem_of_getElem? (i := 13) rfl))) (Or.inl (hw _ (List.mem_of_getElem? (i := 20) rfl))) (by decide) (t := (.array .int)) (t' := .int) (by decide) (by decide)))
  have x60 := x52.other W56 (Ne.symm ne_a0_f)
  have x61 := V47.other W56 (Ne.symm ne_a0_g)
  have sz62 : n0 ≤ h56.size := Nat.le_trans sz53 (Keep.of_wr W56).1
  have kp63 : Keep h0 h56 [f, g, a0] := kp54.wr W56 (Or.inl (List.mem_of_getElem? (i := 2) rfl))
  have N56 := Fr.snoc X56 N47 ge_a0
  obtain ⟨fs, hr, hrun, hended, hW, hsame⟩ := X56.leave (v := none) (fun _ => rfl)
  refine ⟨_, _, pre0 _ ?_, hrun, hended, _, _, rfl, ?_, ⟨_, rfl⟩, hW, hsame.mono (by decide) (by decide)⟩
  · show own_S p e below s₁ (mkF m 0 #[.val (.ref a0), .val (.int p1), .val (.int p2)] []) _
    refine XS.aloadN X0.here hx rfl (hb hby d3_0) rfl rfl ?_
    show own_S p e below s₁ (mkF m 1 #[.val (.ref a0), .val (.int p1), .val (.int p2)] [(.ref a0)]) _
    refine st35 _ ?_
    show own_S p e below T35 (mkF m 4 #[.val (.ref a0), .val (.int p1), .val (.int p2)] [(.ref f)]) _
    refine XS.aloadN X35.here hx rfl (hb hby d3_4) rfl rfl ?_
    show own_S p e below T35 (mkF m 5 #[.val (.ref a0), .val (.int p1), .val (.int p2)] [(.ref a0), (.ref f)]) _
    refine st36 _ ?_
    show own_S p e below T36 (mkF m 8 #[.val (.ref a0), .val (.int p1), .val (.int p2)] [(.int cn), (.ref f)]) _
    refine XS.iloadN X36.here hx rfl (hb hby d3_8) rfl ?_
    show own_S p e below T36 (mkF m 9 #[.val (.ref a0), .val (.int p1), .val (.int p2)] [(.int p1), (.int cn), (.ref f)]) _
    refine st37 _ ?_
    show own_S p e below T37 (mkF m 10 #[.val (.ref a0), .val (.int p1), .val (.int p2)] []) _
    refine XS.aloadN X37.here hx rfl (hb hby d3_10) rfl rfl ?_
    show own_S p e below T37 (mkF m 11 #[.val (.ref a0), .val (.int p1), .val (.int p2)] [(.ref a0)]) _
    refine st45 _ ?_
    show own_S p e below T45 (mkF m 14 #[.val (.ref a0), .val (.int p1), .val (.int p2)] [(.ref g)]) _
    refine XS.aloadN X45.here hx rfl (hb hby d3_14) rfl rfl ?_
    show own_S p e below T45 (mkF m 15 #[.val (.ref a0), .val (.int p1), .val (.int p2)] [(.ref a0), (.ref g)]) _
    refine st46 _ ?_
    show own_S p e below T46 (mkF m 18 #[.val (.ref a0), .val (.int p1), .val (.int p2)] [(.int cn), (.ref g)]) _
    refine XS.iloadN X46.here hx rfl (hb hby d3_18) rfl ?_
    show own_S p e below T46 (mkF m 19 #[.val (.ref a0), .val (.int p1), .val (.int p2)] [(.int p2), (.int cn), (.ref g)]) _
    refine st47 _ ?_
    show own_S p e below T47 (mkF m 20 #[.val (.ref a0), .val (.int p1), .val (.int p2)] []) _
    refine XS.aloadN X47.here hx rfl (hb hby d3_20) rfl rfl ?_
    show own_S p e below T47 (mkF m 21 #[.val (.ref a0), .val (.int p1), .val (.int p2)] [(.ref a0)]) _
    refine XS.dup X47.here hx rfl (hb hby d3_21) rfl rfl ?_
    show own_S p e below T47 (mkF m 22 #[.val (.ref a0), .val (.int p1), .val (.int p2)] [(.ref a0), (.ref a0)]) _
    refine st55 _ ?_
    show own_S p e below T55 (mkF m 25 #[.val (.ref a0), .val (.int p1), .val (.int p2)] [(.int cn), (.ref a0)]) _
    refine XS.iconst X55.here hx rfl (hb hby d3_25) ?_
    show own_S p e below T55 (mkF m 26 #[.val (.ref a0), .val (.int p1), .val (.int p2)] [.int 1, (.int cn), (.ref a0)]) _
    refine XS.iadd X55.here hx rfl (hb hby d3_26) rfl ?_
    show own_S p e below T55 (mkF m 27 #[.val (.ref a0), .val (.int p1), .val (.int p2)] [(.int (cn + (1 : Int32))), (.ref a0)]) _
    refine st56 _ ?_
    show own_S p e below T56 (mkF m 30 #[.val (.ref a0), .val (.int p1), .val (.int p2)] []) _
    exact X56.returnOut hx Bd.returns (hb hby d3_30) hr
  · show Q3 Z a0 p1 p2 f g kf kg cn nn us vs h0 n0 _ T56.heap _
    rw [e56]
    exact ⟨rfl, N56, kp63, x58, x59, Fw56, x60, x61⟩
theorem ef_4 (m : MethodId) (a0 : Addr) : entryFrame m #[(.ref a0)] 1 = mkF m 0 #[.val (.ref a0)] [] := by first | (simp [entryFrame, mkF, argsToLocals, Value.category]; done) | rfl
theorem d4_0 : decode prog_30_method_3_code 0 = .ok (.aload_n 0, 1) := by decide +kernel
theorem d4_1 : decode prog_30_method_3_code 1 = .ok (.getfield 16, 3) := by decide +kernel
theorem d4_4 : decode prog_30_method_3_code 4 = .ok (.ireturn, 1) := by decide +kernel
def Q4 (Z : State) (a0 : Addr) (cn : Int32) (h0 : Heap) (n0 : Nat) (v : Option Value) (h : Heap) (L : List Loc) : Prop := v = some (.int cn) ∧ Fr n0 L ∧ h = h0
set_option maxRecDepth 65536 in
set_option maxHeartbeats 40000000 in
theorem rm4 (l : Launch) (Z : State) (ag : Array Value) (hw : ∀ d ∈ tables_1, d.before ag Z = true) (ws : List Jvm.Cond) (a0 : Addr) (cn : Int32) (h0 : Heap) (n0 : Nat) (Z0 : n0 ≤ h0.size) (F_count_a0 : Fld Z h0 a0 "com/example/waveloom/waveloom/network/Links" "count" "I" (.int cn)) :
    MetFree l (⟨"com/example/waveloom/waveloom/network/Links", "count", "()I"⟩ : MethodName) (head1 (Jvm.Cond.code (⟨"com/example/waveloom/waveloom/network/Links", "count", "()I"⟩ : MethodName) prog_30_method_3_code 1 (some .int) :: ws) ({ frames := 0, cells := 0, slots := 0, locals := 0 } : Room)) (fun a U => a = #[(.ref a0)] ∧ Z.Warmed39 U.vm ∧ U.heap = h0) (fun _ _ _ _ _ => True) (fun _ U o U' => ∃ v L, o = .returned v ∧ Q4 Z a0 cn h0 n0 v U'.heap L ∧ FrameEnd U o U' L ({ frames := 0, cells := 0, slots := 0, locals := 0 } : Room).cells ({ frames := 0, cells := 0, slots := 0, locals := 0 } : Room).slots) := by
  refine MetFree.of_bodySF (plainFor_of_name pn_0) hisR ?_
  intro p e s m args below meth c s₁ Bd hml0 hP hK
  obtain ⟨rfl, hZ, hh⟩ := hP
  have hx := Bd.exec
  have hby := Bd.bytes
  have hml : c.maxLocals = 1 := hml0
  have hown : s.vm.findClass "com/example/waveloom/waveloom/network/Links" = some m.cls := findClass_of_methodNamed Bd.named
  have hnm := (name_of_methodNamed Bd.named Bd.method).1
  have X0 : Stand p l e ({ frames := 0, cells := 0, slots := 0, locals := 0 } : Room) s m #[(.ref a0)] below meth c s₁ [] 0 0 := Stand.of_body Bd
  have e0 : s₁.heap = h0 := by rw [← hh, Bd.state]; rfl
  have N0 := Fr.nil n0
  have pre0 : ∀ t, Steps p.tables e below (s₁.setTop (mkF m 0 #[.val (.ref a0)] [])) t → Steps p.tables e below (s₁.setTop (entryFrame m #[(.ref a0)] 1)) t := fun t k => castTop (ef_4 m a0) k
  obtain ⟨T64, X64, e64, st64⟩ := getF X0 hx hZ hown (host := "") (Or.inl (hw _ (List.mem_of_getElem? (i := 19) rfl))) Via.refl e0 F_count_a0 (g := (mkF m 1 #[.val (.ref a0)] [(.ref a0)])) rfl rfl (hb hby d4_1)
  obtain ⟨fs, hr, hrun, hended, hW, hsame⟩ := X64.leave (v := some (.int cn)) (fun h => by rw [Bd.returns] at h; cases h)
  refine ⟨_, _, pre0 _ ?_, hrun, hended, _, _, rfl, ?_, ⟨_, rfl⟩, hW, hsame.mono (by decide) (by decide)⟩
  · show own_S p e below s₁ (mkF m 0 #[.val (.ref a0)] []) _
    refine XS.aloadN X0.here hx rfl (hb hby d4_0) rfl rfl ?_
    show own_S p e below s₁ (mkF m 1 #[.val (.ref a0)] [(.ref a0)]) _
    refine st64 _ ?_
    show own_S p e below T64 (mkF m 4 #[.val (.ref a0)] [(.int cn)]) _
    exact retI X64 hx Bd.returns (hb hby d4_4) hr
  · show Q4 Z a0 cn h0 n0 _ T64.heap _
    rw [e64]
    exact ⟨rfl, N0, rfl⟩
theorem ef_5 (m : MethodId) (a0 : Addr) (p1 : Int32) : entryFrame m #[(.ref a0), (.int p1)] 2 = mkF m 0 #[.val (.ref a0), .val (.int p1)] [] := by first | (simp [entryFrame, mkF, argsToLocals, Value.category]; done) | rfl
theorem d5_0 : decode prog_30_method_4_code 0 = .ok (.aload_n 0, 1) := by decide +kernel
theorem d5_1 : decode prog_30_method_4_code 1 = .ok (.getfield 7, 3) := by decide +kernel
theorem d5_4 : decode prog_30_method_4_code 4 = .ok (.iload_n 1, 1) := by decide +kernel
theorem d5_5 : decode prog_30_method_4_code 5 = .ok (.iaload, 1) := by decide +kernel
theorem d5_6 : decode prog_30_method_4_code 6 = .ok (.ireturn, 1) := by decide +kernel
def Q5 (Z : State) (a0 : Addr) (p1 : Int32) (f : Addr) (kf : ClassId) (nn : Int32) (us : List Value) (u : Int32) (h0 : Heap) (n0 : Nat) (v : Option Value) (h : Heap) (L : List Loc) : Prop := v = some (.int u) ∧ Fr n0 L ∧ h = h0
set_option maxRecDepth 65536 in
set_option maxHeartbeats 40000000 in
theorem rm5 (l : Launch) (Z : State) (ag : Array Value) (hw : ∀ d ∈ tables_1, d.before ag Z = true) (ws : List Jvm.Cond) (a0 : Addr) (p1 : Int32) (f : Addr) (kf : ClassId) (nn : Int32) (us : List Value) (u : Int32) (h0 : Heap) (n0 : Nat) (Z0 : n0 ≤ h0.size) (F_firsts_a0 : Fld Z h0 a0 "com/example/waveloom/waveloom/network/Links" "firsts" "[I" (.ref f)) (V_f : Arv Z h0 f kf .int nn us (.int (0 : Int32))) (hi : ¬ p1 < 0 ∧ p1 < nn) (hv : us.getD (p1).toNatClampNeg (.int (0 : Int32)) = .int u) :
    MetFree l (⟨"com/example/waveloom/waveloom/network/Links", "first", "(I)I"⟩ : MethodName) (head1 (Jvm.Cond.code (⟨"com/example/waveloom/waveloom/network/Links", "first", "(I)I"⟩ : MethodName) prog_30_method_4_code 2 (some .int) :: ws) ({ frames := 0, cells := 0, slots := 0, locals := 0 } : Room)) (fun a U => a = #[(.ref a0), (.int p1)] ∧ Z.Warmed39 U.vm ∧ U.heap = h0) (fun _ _ _ _ _ => True) (fun _ U o U' => ∃ v L, o = .returned v ∧ Q5 Z a0 p1 f kf nn us u h0 n0 v U'.heap L ∧ FrameEnd U o U' L ({ frames := 0, cells := 0, slots := 0, locals := 0 } : Room).cells ({ frames := 0, cells := 0, slots := 0, locals := 0 } : Room).slots) := by
  refine MetFree.of_bodySF (plainFor_of_name pn_0) hisR ?_
  intro p e s m args below meth c s₁ Bd hml0 hP hK
  obtain ⟨rfl, hZ, hh⟩ := hP
  have hx := Bd.exec
  have hby := Bd.bytes
  have hml : c.maxLocals = 2 := hml0
  have hown : s.vm.findClass "com/example/waveloom/waveloom/network/Links" = some m.cls := findClass_of_methodNamed Bd.named
  have hnm := (name_of_methodNamed Bd.named Bd.method).1
  have X0 : Stand p l e ({ frames := 0, cells := 0, slots := 0, locals := 0 } : Room) s m #[(.ref a0), (.int p1)] below meth c s₁ [] 0 0 := Stand.of_body Bd
  have e0 : s₁.heap = h0 := by rw [← hh, Bd.state]; rfl
  have N0 := Fr.nil n0
  have pre0 : ∀ t, Steps p.tables e below (s₁.setTop (mkF m 0 #[.val (.ref a0), .val (.int p1)] [])) t → Steps p.tables e below (s₁.setTop (entryFrame m #[(.ref a0), (.int p1)] 2)) t := fun t k => castTop (ef_5 m a0 p1) k
  obtain ⟨T65, X65, e65, st65⟩ := getF X0 hx hZ hown (host := "") (Or.inl (hw _ (List.mem_of_getElem? (i := 10) rfl))) Via.refl e0 F_firsts_a0 (g := (mkF m 1 #[.val (.ref a0), .val (.int p1)] [(.ref a0)])) rfl rfl (hb hby d5_1)
  obtain ⟨cl66, Ar66, q66, S66, M66, H66, G66⟩ := id V_f
  have hin66 : ¬ (p1 < 0 ∨ cl66.slots.size ≤ (p1).toNatClampNeg) := inb_of S66 hi
  have hat66 : cl66.slots[(p1).toNatClampNeg]? = some (.int u) := Has.at H66 hin66 hv
  have ld66 := X65.iaload hx (j := p1) (v := (.int u)) (by rw [e65]; exact Ar66.1) (State.isArrayOf_alike hZ.alike Ar66.2.1) Ar66.2.2 hin66 hat66 (g := (mkF m 5 #[.val (.ref a0), .val (.int p1)] [(.int p1), (.ref f)])) rfl rfl (hb hby d5_5)
  obtain ⟨fs, hr, hrun, hended, hW, hsame⟩ := X65.leave (v := some (.int u)) (fun h => by rw [Bd.returns] at h; cases h)
  refine ⟨_, _, pre0 _ ?_, hrun, hended, _, _, rfl, ?_, ⟨_, rfl⟩, hW, hsame.mono (by decide) (by decide)⟩
  · show own_S p e below s₁ (mkF m 0 #[.val (.ref a0), .val (.int p1)] []) _
    refine XS.aloadN X0.here hx rfl (hb hby d5_0) rfl rfl ?_
    show own_S p e below s₁ (mkF m 1 #[.val (.ref a0), .val (.int p1)] [(.ref a0)]) _
    refine st65 _ ?_
    show own_S p e below T65 (mkF m 4 #[.val (.ref a0), .val (.int p1)] [(.ref f)]) _
    refine XS.iloadN X65.here hx rfl (hb hby d5_4) rfl ?_
    show own_S p e below T65 (mkF m 5 #[.val (.ref a0), .val (.int p1)] [(.int p1), (.ref f)]) _
    refine ld66 _ ?_
    show own_S p e below T65 (mkF m 6 #[.val (.ref a0), .val (.int p1)] [(.int u)]) _
    exact retI X65 hx Bd.returns (hb hby d5_6) hr
  · show Q5 Z a0 p1 f kf nn us u h0 n0 _ T65.heap _
    rw [e65]
    exact ⟨rfl, N0, rfl⟩
theorem ef_6 (m : MethodId) (a0 : Addr) (p1 : Int32) : entryFrame m #[(.ref a0), (.int p1)] 2 = mkF m 0 #[.val (.ref a0), .val (.int p1)] [] := by first | (simp [entryFrame, mkF, argsToLocals, Value.category]; done) | rfl
theorem d6_0 : decode prog_30_method_5_code 0 = .ok (.aload_n 0, 1) := by decide +kernel
theorem d6_1 : decode prog_30_method_5_code 1 = .ok (.getfield 13, 3) := by decide +kernel
theorem d6_4 : decode prog_30_method_5_code 4 = .ok (.iload_n 1, 1) := by decide +kernel
theorem d6_5 : decode prog_30_method_5_code 5 = .ok (.iaload, 1) := by decide +kernel
theorem d6_6 : decode prog_30_method_5_code 6 = .ok (.ireturn, 1) := by decide +kernel
def Q6 (Z : State) (a0 : Addr) (p1 : Int32) (f : Addr) (kf : ClassId) (nn : Int32) (us : List Value) (u : Int32) (h0 : Heap) (n0 : Nat) (v : Option Value) (h : Heap) (L : List Loc) : Prop := v = some (.int u) ∧ Fr n0 L ∧ h = h0
set_option maxRecDepth 65536 in
set_option maxHeartbeats 40000000 in
theorem rm6 (l : Launch) (Z : State) (ag : Array Value) (hw : ∀ d ∈ tables_1, d.before ag Z = true) (ws : List Jvm.Cond) (a0 : Addr) (p1 : Int32) (f : Addr) (kf : ClassId) (nn : Int32) (us : List Value) (u : Int32) (h0 : Heap) (n0 : Nat) (Z0 : n0 ≤ h0.size) (F_seconds_a0 : Fld Z h0 a0 "com/example/waveloom/waveloom/network/Links" "seconds" "[I" (.ref f)) (V_f : Arv Z h0 f kf .int nn us (.int (0 : Int32))) (hi : ¬ p1 < 0 ∧ p1 < nn) (hv : us.getD (p1).toNatClampNeg (.int (0 : Int32)) = .int u) :
    MetFree l (⟨"com/example/waveloom/waveloom/network/Links", "second", "(I)I"⟩ : MethodName) (head1 (Jvm.Cond.code (⟨"com/example/waveloom/waveloom/network/Links", "second", "(I)I"⟩ : MethodName) prog_30_method_5_code 2 (some .int) :: ws) ({ frames := 0, cells := 0, slots := 0, locals := 0 } : Room)) (fun a U => a = #[(.ref a0), (.int p1)] ∧ Z.Warmed39 U.vm ∧ U.heap = h0) (fun _ _ _ _ _ => True) (fun _ U o U' => ∃ v L, o = .returned v ∧ Q6 Z a0 p1 f kf nn us u h0 n0 v U'.heap L ∧ FrameEnd U o U' L ({ frames := 0, cells := 0, slots := 0, locals := 0 } : Room).cells ({ frames := 0, cells := 0, slots := 0, locals := 0 } : Room).slots) := by
  refine MetFree.of_bodySF (plainFor_of_name pn_0) hisR ?_
  intro p e s m args below meth c s₁ Bd hml0 hP hK
  obtain ⟨rfl, hZ, hh⟩ := hP
  have hx := Bd.exec
  have hby := Bd.bytes
  have hml : c.maxLocals = 2 := hml0
  have hown : s.vm.findClass "com/example/waveloom/waveloom/network/Links" = some m.cls := findClass_of_methodNamed Bd.named
  have hnm := (name_of_methodNamed Bd.named Bd.method).1
  have X0 : Stand p l e ({ frames := 0, cells := 0, slots := 0, locals := 0 } : Room) s m #[(.ref a0), (.int p1)] below meth c s₁ [] 0 0 := Stand.of_body Bd
  have e0 : s₁.heap = h0 := by rw [← hh, Bd.state]; rfl
  have N0 := Fr.nil n0
  have pre0 : ∀ t, Steps p.tables e below (s₁.setTop (mkF m 0 #[.val (.ref a0), .val (.int p1)] [])) t → Steps p.tables e below (s₁.setTop (entryFrame m #[(.ref a0), (.int p1)] 2)) t := fun t k => castTop (ef_6 m a0 p1) k
  obtain ⟨T67, X67, e67, st67⟩ := getF X0 hx hZ hown (host := "") (Or.inl (hw _ (List.mem_of_getElem? (i := 12) rfl))) Via.refl e0 F_seconds_a0 (g := (mkF m 1 #[.val (.ref a0), .val (.int p1)] [(.ref a0)])) rfl rfl (hb hby d6_1)
  obtain ⟨cl68, Ar68, q68, S68, M68, H68, G68⟩ := id V_f
  have hin68 : ¬ (p1 < 0 ∨ cl68.slots.size ≤ (p1).toNatClampNeg) := inb_of S68 hi
  have hat68 : cl68.slots[(p1).toNatClampNeg]? = some (.int u) := Has.at H68 hin68 hv
  have ld68 := X67.iaload hx (j := p1) (v := (.int u)) (by rw [e67]; exact Ar68.1) (State.isArrayOf_alike hZ.alike Ar68.2.1) Ar68.2.2 hin68 hat68 (g := (mkF m 5 #[.val (.ref a0), .val (.int p1)] [(.int p1), (.ref f)])) rfl rfl (hb hby d6_5)
  obtain ⟨fs, hr, hrun, hended, hW, hsame⟩ := X67.leave (v := some (.int u)) (fun h => by rw [Bd.returns] at h; cases h)
  refine ⟨_, _, pre0 _ ?_, hrun, hended, _, _, rfl, ?_, ⟨_, rfl⟩, hW, hsame.mono (by decide) (by decide)⟩
  · show own_S p e below s₁ (mkF m 0 #[.val (.ref a0), .val (.int p1)] []) _
    refine XS.aloadN X0.here hx rfl (hb hby d6_0) rfl rfl ?_
    show own_S p e below s₁ (mkF m 1 #[.val (.ref a0), .val (.int p1)] [(.ref a0)]) _
    refine st67 _ ?_
    show own_S p e below T67 (mkF m 4 #[.val (.ref a0), .val (.int p1)] [(.ref f)]) _
    refine XS.iloadN X67.here hx rfl (hb hby d6_4) rfl ?_
    show own_S p e below T67 (mkF m 5 #[.val (.ref a0), .val (.int p1)] [(.int p1), (.ref f)]) _
    refine ld68 _ ?_
    show own_S p e below T67 (mkF m 6 #[.val (.ref a0), .val (.int p1)] [(.int u)]) _
    exact retI X67 hx Bd.returns (hb hby d6_6) hr
  · show Q6 Z a0 p1 f kf nn us u h0 n0 _ T67.heap _
    rw [e67]
    exact ⟨rfl, N0, rfl⟩
theorem pn_1 : plainName "com/example/waveloom/waveloom/network/LinksAddPinLaw" = true := by first | (simp [plainName, overriddenIn]; done) | decide +kernel
theorem ef_0 (m : MethodId) (p0 : Int32) (p1 : Int32) (p2 : Int32) (p3 : Int32) (p4 : Int32) : entryFrame m #[(.int p0), (.int p1), (.int p2), (.int p3), (.int p4)] maxLocals = mkF m 0 #[.val (.int p0), .val (.int p1), .val (.int p2), .val (.int p3), .val (.int p4), .unset, .unset, .unset] [] := by first | (simp [entryFrame, mkF, argsToLocals, Value.category, maxLocals]; done) | rfl
abbrev own_loc1 (p0 : Int32) (p1 : Int32) (p2 : Int32) (p3 : Int32) (p4 : Int32) : Array Slot := #[.val (.int p0), .val (.int p1), .val (.int p2), .val (.int p3), .val (.int p4), .unset, .unset, .unset]
abbrev own_loc2 (p0 : Int32) (p1 : Int32) (p2 : Int32) (p3 : Int32) (p4 : Int32) : Array Slot := #[.val (.int p0), .val (.int p1), .val (.int p2), .val (.int p3), .val (.int p4), .val (.int ((2 : Int32) + (p4 &&& (7 : Int32)))), .unset, .unset]
theorem pd_3 : parseMethodDescriptor "(I)V" = some ⟨[.int], none⟩ := by decide +kernel
abbrev own_loc3 (p0 : Int32) (p1 : Int32) (p2 : Int32) (p3 : Int32) (p4 : Int32) (b69 : Addr) : Array Slot := #[.val (.int p0), .val (.int p1), .val (.int p2), .val (.int p3), .val (.int p4), .val (.int ((2 : Int32) + (p4 &&& (7 : Int32)))), .val (.ref b69), .unset]
theorem pd_4 : parseMethodDescriptor "(II)V" = some ⟨[.int, .int], none⟩ := by decide +kernel
theorem pd_0 : parseMethodDescriptor "()I" = some ⟨[], some .int⟩ := by decide +kernel
abbrev own_loc4 (p0 : Int32) (p1 : Int32) (p2 : Int32) (p3 : Int32) (p4 : Int32) (b69 : Addr) : Array Slot := #[.val (.int p0), .val (.int p1), .val (.int p2), .val (.int p3), .val (.int p4), .val (.int ((2 : Int32) + (p4 &&& (7 : Int32)))), .val (.ref b69), .val (.int 1)]
theorem pd_2 : parseMethodDescriptor "(I)I" = some ⟨[.int], some .int⟩ := by decide +kernel
def Q0 (n0 : Nat) (v : Option Value) (h : Heap) (L : List Loc) : Prop := v = some (.int 1) ∧ Fr n0 L
set_option maxRecDepth 65536 in
set_option maxHeartbeats 40000000 in
theorem rm0 (l : Launch) (Z : State) (ag : Array Value) (hw : ∀ d ∈ tables_1, d.before ag Z = true) (ws : List Jvm.Cond) (p0 : Int32) (p1 : Int32) (p2 : Int32) (p3 : Int32) (p4 : Int32) (h0 : Heap) (n0 : Nat) (Z0 : n0 ≤ h0.size) :
    MetFree l x (head1 (Jvm.Cond.code x code maxLocals ret :: ws) room_1) (fun a U => a = #[(.int p0), (.int p1), (.int p2), (.int p3), (.int p4)] ∧ Z.Warmed39 U.vm ∧ U.heap = h0) (fun _ _ _ _ _ => True) (fun _ U o U' => ∃ v L, o = .returned v ∧ Q0 n0 v U'.heap L ∧ FrameEnd U o U' L 3 21) := by
  refine MetFree.of_bodySF (plainFor_of_name pn_1) hisR ?_
  intro p e s m args below meth c s₁ Bd hml0 hP hK
  obtain ⟨rfl, hZ, hh⟩ := hP
  have hx := Bd.exec
  have hby := Bd.bytes
  have hml : c.maxLocals = 8 := hml0
  have hown : s.vm.findClass "com/example/waveloom/waveloom/network/LinksAddPinLaw" = some m.cls := findClass_of_methodNamed Bd.named
  have hnm := (name_of_methodNamed Bd.named Bd.method).1
  have X0 : Stand p l e room_1 s m #[(.int p0), (.int p1), (.int p2), (.int p3), (.int p4)] below meth c s₁ [] 0 0 := Stand.of_body Bd
  have e0 : s₁.heap = h0 := by rw [← hh, Bd.state]; rfl
  have N0 := Fr.nil n0
  have pre0 : ∀ t, Steps p.tables e below (s₁.setTop (mkF m 0 #[.val (.int p0), .val (.int p1), .val (.int p2), .val (.int p3), .val (.int p4), .unset, .unset, .unset] [])) t → Steps p.tables e below (s₁.setTop (entryFrame m #[(.int p0), (.int p1), (.int p2), (.int p3), (.int p4)] maxLocals)) t := fun t k => castTop (ef_0 m p0 p1 p2 p3 p4) k
  have hm := c_mask p4 (7 : Int32) 3 (by decide) (by decide)
  have ha := c_iadd (2 : Int32) (p4 &&& (7 : Int32))
  have hr2 := rng32 ((2 : Int32) + (p4 &&& (7 : Int32)))
  have e2 : (2 : Int32).toInt = 2 := rfl
  have hN0 : 2 ≤ ((2 : Int32) + (p4 &&& (7 : Int32))).toInt ∧ ((2 : Int32) + (p4 &&& (7 : Int32))).toInt ≤ 9 := by omega
  have hcn : ¬ ((2 : Int32) + (p4 &&& (7 : Int32))) < 0 := by rw [Int32.lt_iff_toInt_lt]; have : (0 : Int32).toInt = 0 := rfl; omega
  have hcc : ((2 : Int32) + (p4 &&& (7 : Int32))).toNatClampNeg ≤ 9 := by have := nat_of hcn; omega
  have hcl0 : (0 : Int32) < ((2 : Int32) + (p4 &&& (7 : Int32))) := by rw [Int32.lt_iff_toInt_lt]; have : (0 : Int32).toInt = 0 := rfl; omega
  have hcl1 : (1 : Int32) < ((2 : Int32) + (p4 &&& (7 : Int32))) := by rw [Int32.lt_iff_toInt_lt]; have : (1 : Int32).toInt = 1 := rfl; omega
  obtain ⟨T69, h69, X69, e69, E69, A69, D69, -, st69⟩ := newO X0 hx hZ hown (hw _ (List.mem_of_getElem? (i := 0) rfl)) (hw _ (List.mem_of_getElem? (i := 1) rfl)) (hw _ (List.mem_of_getElem? (i := 2) rfl)) e0 (g := (mkF m 9 (own_loc2 p0 p1 p2 p3 p4) [])) rfl (hb hby at_9) (by decide) (by decide)
  obtain ⟨b69, g69⟩ : ∃ z, z = h0.size := ⟨_, rfl⟩
  have ge_b69 : n0 ≤ b69 := Nat.le_trans Z0 (Nat.le_of_eq g69.symm)
  rw [← g69] at A69 D69 st69
  have sz70 : n0 ≤ h69.size := Nat.le_trans Z0 E69.1
  have F69_firsts : Fld Z h69 b69 "com/example/waveloom/waveloom/network/Links" "firsts" "[I" .null := D69 (Or.inr (hw _ (List.mem_of_getElem? (i := 11) rfl))) (ty := (.array .int)) (by decide)
  have F69_seconds : Fld Z h69 b69 "com/example/waveloom/waveloom/network/Links" "seconds" "[I" .null := D69 (Or.inr (hw _ (List.mem_of_getElem? (i := 13) rfl))) (ty := (.array .int)) (by decide)
  have F69_count : Fld Z h69 b69 "com/example/waveloom/waveloom/network/Links" "count" "I" (.int (0 : Int32)) := D69 (Or.inl (hw _ (List.mem_of_getElem? (i := 20) rfl))) (ty := .int) (by decide)
  obtain ⟨_, _, ⟨T71, L71, k71, n71⟩, -, X71, ⟨Lc71, hQ71, l71, y71, z71⟩, st71⟩ := X69.specialBack hx (y := (⟨"com/example/waveloom/waveloom/network/Links", "<init>", "(I)V"⟩ : MethodName)) rfl hown (mvT hZ (hw _ (List.mem_of_getElem? (i := 3) rfl))) (mvT hZ (hw _ (List.mem_of_getElem? (i := 4) rfl))) (mvT hZ (hw _ (List.mem_of_getElem? (i := 5) rfl))) (by decide) (backOf (W := 1) (rm1 l Z ag hw [] b69 ((2 : Int32) + (p4 &&& (7 : Int32)))  h69 n0 sz70 A69 F69_firsts F69_seconds F69_count ge_b69 hcn hcc) hZ (hw _ (List.mem_of_getElem? (i := 5) rfl)) (hw _ (List.mem_of_getElem? (i := 2) rfl)) (by decide) (by decide)) (g := (mkF m 15 (own_loc2 p0 p1 p2 p3 p4) [(.int ((2 : Int32) + (p4 &&& (7 : Int32)))), (.ref b69), (.ref b69)])) rfl (by rw [hml]; rfl) (Steps.refl _) (a := b69) (argsL := [(.int ((2 : Int32) + (p4 &&& (7 : Int32))))]) (rest := [(.ref b69)]) (lenOf pd_3 rfl) rfl (by show 2 * 0 + _ ≤ _; exact Nat.le_of_eq rfl) (hb hby at_15) (fun _ _ => ⟨rfl, e69, (by decide : 1 + 2 ≤ _), (by decide : 3 + 18 ≤ _)⟩)
  dsimp only [Pt.U, Pt.locs, Pt.cells, Pt.slots] at X71 l71 y71 z71 st71 hQ71
  subst l71 y71 z71
  obtain ⟨rfl, N71q, K71, f71, g_71, kf71, kg71, ge_f71, ge_g_71, gs_f71, gs_g_71, ne71a, ne71b, ne71c, Ee71, F171, F271, F371, V171, V271⟩ := hQ71
  have N71 := Fr.app N0 N71q
  have x72 := A69.keep K71
  have sz73 : n0 ≤ T71.heap.size := Nat.le_trans sz70 K71.1
  have cp74 : ∀ target, own_S p e below T71 (mkF m 24 (own_loc3 p0 p1 p2 p3 p4 b69) [(.int p1), (.int p0), (.ref b69)]) target → own_S p e below s₁ (mkF m 0 (own_loc1 p0 p1 p2 p3 p4) []) target := by
    intro target kt
    show own_S p e below s₁ (mkF m 0 (own_loc1 p0 p1 p2 p3 p4) []) _
    refine XS.iconst X0.here hx rfl (hb hby at_0) ?_
    show own_S p e below s₁ (mkF m 1 (own_loc1 p0 p1 p2 p3 p4) [.int 2]) _
    refine XS.iload X0.here hx rfl (hb hby at_1) rfl ?_
    show own_S p e below s₁ (mkF m 3 (own_loc1 p0 p1 p2 p3 p4) [(.int p4), .int 2]) _
    refine XS.bipush X0.here hx rfl (hb hby at_3) ?_
    show own_S p e below s₁ (mkF m 5 (own_loc1 p0 p1 p2 p3 p4) [.int 7, (.int p4), .int 2]) _
    refine XS.iand X0.here hx rfl (hb hby at_5) rfl ?_
    show own_S p e below s₁ (mkF m 6 (own_loc1 p0 p1 p2 p3 p4) [(.int (p4 &&& (7 : Int32))), .int 2]) _
    refine XS.iadd X0.here hx rfl (hb hby at_6) rfl ?_
    show own_S p e below s₁ (mkF m 7 (own_loc1 p0 p1 p2 p3 p4) [(.int ((2 : Int32) + (p4 &&& (7 : Int32))))]) _
    refine XS.istore X0.here hx rfl (hb hby at_7) rfl (l' := (own_loc2 p0 p1 p2 p3 p4)) rfl ?_
    show own_S p e below s₁ (mkF m 9 (own_loc2 p0 p1 p2 p3 p4) []) _
    refine st69 _ ?_
    show own_S p e below T69 (mkF m 12 (own_loc2 p0 p1 p2 p3 p4) [(.ref b69)]) _
    refine XS.dup X69.here hx rfl (hb hby at_12) rfl rfl ?_
    show own_S p e below T69 (mkF m 13 (own_loc2 p0 p1 p2 p3 p4) [(.ref b69), (.ref b69)]) _
    refine XS.iload X69.here hx rfl (hb hby at_13) rfl ?_
    show own_S p e below T69 (mkF m 15 (own_loc2 p0 p1 p2 p3 p4) [(.int ((2 : Int32) + (p4 &&& (7 : Int32)))), (.ref b69), (.ref b69)]) _
    refine st71.trans ?_
    show own_S p e below T71 (mkF m 18 (own_loc2 p0 p1 p2 p3 p4) [(.ref b69)]) _
    refine XS.astore X71.here hx rfl (hb hby at_18) rfl rfl (l' := (own_loc3 p0 p1 p2 p3 p4 b69)) rfl ?_
    show own_S p e below T71 (mkF m 20 (own_loc3 p0 p1 p2 p3 p4 b69) []) _
    refine XS.aload X71.here hx rfl (hb hby at_20) rfl rfl ?_
    show own_S p e below T71 (mkF m 22 (own_loc3 p0 p1 p2 p3 p4 b69) [(.ref b69)]) _
    refine XS.iloadN X71.here hx rfl (hb hby at_22) rfl ?_
    show own_S p e below T71 (mkF m 23 (own_loc3 p0 p1 p2 p3 p4 b69) [(.int p0), (.ref b69)]) _
    refine XS.iloadN X71.here hx rfl (hb hby at_23) rfl ?_
    exact kt
  have hi_0 : ¬ (0 : Int32) < 0 ∧ (0 : Int32) < ((2 : Int32) + (p4 &&& (7 : Int32))) := ⟨by decide, hcl0⟩
  obtain ⟨cq75, kq75, q75a, q75b, q75c⟩ := isOf hZ rfl x72
  obtain ⟨_, _, ⟨T75, L75, k75, n75⟩, -, X75, ⟨Lc75, hQ75, l75, y75, z75⟩, st75⟩ := X71.virtualBack hx (y := (⟨"com/example/waveloom/waveloom/network/Links", "add", "(II)V"⟩ : MethodName)) (z := (⟨"com/example/waveloom/waveloom/network/Links", "add", "(II)V"⟩ : MethodName)) hown (mvT hZ (hw _ (List.mem_of_getElem? (i := 14) rfl))) (mvT hZ (hw _ (List.mem_of_getElem? (i := 15) rfl))) (notFace_of_selects (args := #[]) (mvT hZ (hw _ (List.mem_of_getElem? (i := 17) rfl)))) (mvT hZ (hw _ (List.mem_of_getElem? (i := 17) rfl))) (mvT hZ (hw _ (List.mem_of_getElem? (i := 16) rfl))) (by decide) (backOf (W := 0) (rm3 l Z ag hw [] b69 p0 p1 f71 g_71 kf71 kg71 (0 : Int32) ((2 : Int32) + (p4 &&& (7 : Int32))) [(.int (0 : Int32)), (.int (0 : Int32))] [(.int (0 : Int32)), (.int (0 : Int32))] T71.heap n0 sz73 x72 F171 F271 F371 V171 V271 ge_b69 ge_f71 ge_g_71 ne71a ne71b ne71c hi_0 (Nat.le_of_ble_eq_true rfl) (Nat.le_of_ble_eq_true rfl)) hZ (hw _ (List.mem_of_getElem? (i := 18) rfl)) (hw _ (List.mem_of_getElem? (i := 2) rfl)) (by decide) (by decide)) q75a q75c (g := (mkF m 24 (own_loc3 p0 p1 p2 p3 p4 b69) [(.int p1), (.int p0), (.ref b69)])) rfl (by rw [hml]; rfl) (Steps.refl _) (argsL := [(.int p0), (.int p1)]) (rest := []) (lenOf pd_4 rfl) rfl (by show 2 * 0 + _ ≤ _; exact Nat.le_of_eq rfl) (hb hby at_24) (fun _ _ => ⟨rfl, rfl, (by decide : 3 + 0 ≤ _), (by decide : 21 + 0 ≤ _)⟩)
  dsimp only [Pt.U, Pt.locs, Pt.cells, Pt.slots] at X75 l75 y75 z75 st75 hQ75
  subst l75 y75 z75
  obtain ⟨rfl, N75q, K75, F175, F275, F375, V175, V275⟩ := hQ75
  have N75 := Fr.app N71 N75q
  have F375 : Fld Z T75.heap b69 "com/example/waveloom/waveloom/network/Links" "count" "I" (.int (1 : Int32)) := F375
  have V175 : Arv Z T75.heap f71 kf71 .int ((2 : Int32) + (p4 &&& (7 : Int32))) [(.int p0), (.int (0 : Int32))] (.int (0 : Int32)) := V175
  have V275 : Arv Z T75.heap g_71 kg71 .int ((2 : Int32) + (p4 &&& (7 : Int32))) [(.int p1), (.int (0 : Int32))] (.int (0 : Int32)) := V275
  have x76 := x72.keep K75
  have sz77 : n0 ≤ T75.heap.size := Nat.le_trans sz73 K75.1
  obtain ⟨cq78, kq78, q78a, q78b, q78c⟩ := isOf hZ rfl x76
  obtain ⟨_, _, ⟨T78, L78, k78, n78⟩, -, X78, ⟨Lc78, hQ78, l78, y78, z78⟩, st78⟩ := X75.virtualBack hx (y := (⟨"com/example/waveloom/waveloom/network/Links", "count", "()I"⟩ : MethodName)) (z := (⟨"com/example/waveloom/waveloom/network/Links", "count", "()I"⟩ : MethodName)) hown (mvT hZ (hw _ (List.mem_of_getElem? (i := 21) rfl))) (mvT hZ (hw _ (List.mem_of_getElem? (i := 22) rfl))) (notFace_of_selects (args := #[]) (mvT hZ (hw _ (List.mem_of_getElem? (i := 24) rfl)))) (mvT hZ (hw _ (List.mem_of_getElem? (i := 24) rfl))) (mvT hZ (hw _ (List.mem_of_getElem? (i := 23) rfl))) (by decide) (backOf (W := 0) (rm4 l Z ag hw [] b69 (1 : Int32) T75.heap n0 sz77 F375) hZ (hw _ (List.mem_of_getElem? (i := 25) rfl)) (hw _ (List.mem_of_getElem? (i := 2) rfl)) (by decide) (by decide)) q78a q78c (g := (mkF m 29 (own_loc3 p0 p1 p2 p3 p4 b69) [(.ref b69)])) rfl (by rw [hml]; rfl) (Steps.refl _) (argsL := []) (rest := []) (lenOf pd_0 rfl) rfl (by show 2 * 0 + _ ≤ _; exact Nat.le_of_eq rfl) (hb hby at_29) (fun _ _ => ⟨rfl, rfl, (by decide : 3 + 0 ≤ _), (by decide : 21 + 0 ≤ _)⟩)
  dsimp only [Pt.U, Pt.locs, Pt.cells, Pt.slots] at X78 l78 y78 z78 st78 hQ78
  subst l78 y78 z78
  obtain ⟨rfl, N78q, e78⟩ := hQ78
  have N78 := Fr.app N75 N78q
  have hi_1 : ¬ (1 : Int32) < 0 ∧ (1 : Int32) < ((2 : Int32) + (p4 &&& (7 : Int32))) := ⟨by decide, hcl1⟩
  obtain ⟨cq79, kq79, q79a, q79b, q79c⟩ := isOf hZ e78 x76
  obtain ⟨_, _, ⟨T79, L79, k79, n79⟩, -, X79, ⟨Lc79, hQ79, l79, y79, z79⟩, st79⟩ := X78.virtualBack hx (y := (⟨"com/example/waveloom/waveloom/network/Links", "add", "(II)V"⟩ : MethodName)) (z := (⟨"com/example/waveloom/waveloom/network/Links", "add", "(II)V"⟩ : MethodName)) hown (mvT hZ (hw _ (List.mem_of_getElem? (i := 14) rfl))) (mvT hZ (hw _ (List.mem_of_getElem? (i := 15) rfl))) (notFace_of_selects (args := #[]) (mvT hZ (hw _ (List.mem_of_getElem? (i := 17) rfl)))) (mvT hZ (hw _ (List.mem_of_getElem? (i := 17) rfl))) (mvT hZ (hw _ (List.mem_of_getElem? (i := 16) rfl))) (by decide) (backOf (W := 0) (rm3 l Z ag hw [] b69 p2 p3 f71 g_71 kf71 kg71 (1 : Int32) ((2 : Int32) + (p4 &&& (7 : Int32))) [(.int p0), (.int (0 : Int32))] [(.int p1), (.int (0 : Int32))] T75.heap n0 sz77 x76 F175 F275 F375 V175 V275 ge_b69 ge_f71 ge_g_71 ne71a ne71b ne71c hi_1 (Nat.le_of_ble_eq_true rfl) (Nat.le_of_ble_eq_true rfl)) hZ (hw _ (List.mem_of_getElem? (i := 18) rfl)) (hw _ (List.mem_of_getElem? (i := 2) rfl)) (by decide) (by decide)) q79a q79c (g := (mkF m 47 (own_loc4 p0 p1 p2 p3 p4 b69) [(.int p3), (.int p2), (.ref b69)])) rfl (by rw [hml]; rfl) (Steps.refl _) (argsL := [(.int p2), (.int p3)]) (rest := []) (lenOf pd_4 rfl) rfl (by show 2 * 0 + _ ≤ _; exact Nat.le_of_eq rfl) (hb hby at_47) (fun _ _ => ⟨rfl, e78, (by decide : 3 + 0 ≤ _), (by decide : 21 + 0 ≤ _)⟩)
  dsimp only [Pt.U, Pt.locs, Pt.cells, Pt.slots] at X79 l79 y79 z79 st79 hQ79
  subst l79 y79 z79
  obtain ⟨rfl, N79q, K79, F179, F279, F379, V179, V279⟩ := hQ79
  have N79 := Fr.app N78 N79q
  have F379 : Fld Z T79.heap b69 "com/example/waveloom/waveloom/network/Links" "count" "I" (.int (2 : Int32)) := F379
  have V179 : Arv Z T79.heap f71 kf71 .int ((2 : Int32) + (p4 &&& (7 : Int32))) [(.int p0), (.int p2)] (.int (0 : Int32)) := V179
  have V279 : Arv Z T79.heap g_71 kg71 .int ((2 : Int32) + (p4 &&& (7 : Int32))) [(.int p1), (.int p3)] (.int (0 : Int32)) := V279
  have x80 := x76.keep K79
  have sz81 : n0 ≤ T79.heap.size := Nat.le_trans sz77 K79.1
  have cp82 : ∀ target, own_S p e below T79 (mkF m 57 (own_loc4 p0 p1 p2 p3 p4 b69) [(.ref b69)]) target → own_S p e below s₁ (mkF m 0 (own_loc1 p0 p1 p2 p3 p4) []) target := by
    intro target kt
    show own_S p e below s₁ (mkF m 0 (own_loc1 p0 p1 p2 p3 p4) []) _
    refine cp74 _ ?_
    show own_S p e below T71 (mkF m 24 (own_loc3 p0 p1 p2 p3 p4 b69) [(.int p1), (.int p0), (.ref b69)]) _
    refine st75.trans ?_
    show own_S p e below T75 (mkF m 27 (own_loc3 p0 p1 p2 p3 p4 b69) []) _
    refine XS.aload X75.here hx rfl (hb hby at_27) rfl rfl ?_
    show own_S p e below T75 (mkF m 29 (own_loc3 p0 p1 p2 p3 p4 b69) [(.ref b69)]) _
    refine st78.trans ?_
    show own_S p e below T78 (mkF m 32 (own_loc3 p0 p1 p2 p3 p4 b69) [.int 1]) _
    refine XS.iconst X78.here hx rfl (hb hby at_32) ?_
    show own_S p e below T78 (mkF m 33 (own_loc3 p0 p1 p2 p3 p4 b69) [.int 1, .int 1]) _
    refine XS.icmpNo X78.here hx rfl (hb hby at_33) rfl (teq (by decide : (1 : Int32) = (1 : Int32))).2 ?_
    show own_S p e below T78 (mkF m 36 (own_loc3 p0 p1 p2 p3 p4 b69) []) _
    refine XS.iconst X78.here hx rfl (hb hby at_36) ?_
    show own_S p e below T78 (mkF m 37 (own_loc3 p0 p1 p2 p3 p4 b69) [.int 1]) _
    refine XS.goto X78.here hx rfl (pc0 := 37) (pc' := 41) rfl (hb hby at_37) (by decide) (by decide) ?_
    show own_S p e below T78 (mkF m 41 (own_loc3 p0 p1 p2 p3 p4 b69) [.int 1]) _
    refine XS.istore X78.here hx rfl (hb hby at_41) rfl (l' := (own_loc4 p0 p1 p2 p3 p4 b69)) rfl ?_
    show own_S p e below T78 (mkF m 43 (own_loc4 p0 p1 p2 p3 p4 b69) []) _
    refine XS.aload X78.here hx rfl (hb hby at_43) rfl rfl ?_
    show own_S p e below T78 (mkF m 45 (own_loc4 p0 p1 p2 p3 p4 b69) [(.ref b69)]) _
    refine XS.iloadN X78.here hx rfl (hb hby at_45) rfl ?_
    show own_S p e below T78 (mkF m 46 (own_loc4 p0 p1 p2 p3 p4 b69) [(.int p2), (.ref b69)]) _
    refine XS.iloadN X78.here hx rfl (hb hby at_46) rfl ?_
    show own_S p e below T78 (mkF m 47 (own_loc4 p0 p1 p2 p3 p4 b69) [(.int p3), (.int p2), (.ref b69)]) _
    refine st79.trans ?_
    show own_S p e below T79 (mkF m 50 (own_loc4 p0 p1 p2 p3 p4 b69) []) _
    refine XS.iload X79.here hx rfl (hb hby at_50) rfl ?_
    show own_S p e below T79 (mkF m 52 (own_loc4 p0 p1 p2 p3 p4 b69) [.int 1]) _
    refine XS.ifNo X79.here hx rfl (hb hby at_52) rfl ((if0 _ _).trans (feq (by decide : ¬ ((1 : Int32) = (0 : Int32)))).1) ?_
    show own_S p e below T79 (mkF m 55 (own_loc4 p0 p1 p2 p3 p4 b69) []) _
    refine XS.aload X79.here hx rfl (hb hby at_55) rfl rfl ?_
    exact kt
  obtain ⟨cq83, kq83, q83a, q83b, q83c⟩ := isOf hZ rfl x80
  obtain ⟨_, _, ⟨T83, L83, k83, n83⟩, -, X83, ⟨Lc83, hQ83, l83, y83, z83⟩, st83⟩ := X79.virtualBack hx (y := (⟨"com/example/waveloom/waveloom/network/Links", "count", "()I"⟩ : MethodName)) (z := (⟨"com/example/waveloom/waveloom/network/Links", "count", "()I"⟩ : MethodName)) hown (mvT hZ (hw _ (List.mem_of_getElem? (i := 21) rfl))) (mvT hZ (hw _ (List.mem_of_getElem? (i := 22) rfl))) (notFace_of_selects (args := #[]) (mvT hZ (hw _ (List.mem_of_getElem? (i := 24) rfl)))) (mvT hZ (hw _ (List.mem_of_getElem? (i := 24) rfl))) (mvT hZ (hw _ (List.mem_of_getElem? (i := 23) rfl))) (by decide) (backOf (W := 0) (rm4 l Z ag hw [] b69 (2 : Int32) T79.heap n0 sz81 F379) hZ (hw _ (List.mem_of_getElem? (i := 25) rfl)) (hw _ (List.mem_of_getElem? (i := 2) rfl)) (by decide) (by decide)) q83a q83c (g := (mkF m 57 (own_loc4 p0 p1 p2 p3 p4 b69) [(.ref b69)])) rfl (by rw [hml]; rfl) (Steps.refl _) (argsL := []) (rest := []) (lenOf pd_0 rfl) rfl (by show 2 * 0 + _ ≤ _; exact Nat.le_of_eq rfl) (hb hby at_57) (fun _ _ => ⟨rfl, rfl, (by decide : 3 + 0 ≤ _), (by decide : 21 + 0 ≤ _)⟩)
  dsimp only [Pt.U, Pt.locs, Pt.cells, Pt.slots] at X83 l83 y83 z83 st83 hQ83
  subst l83 y83 z83
  obtain ⟨rfl, N83q, e83⟩ := hQ83
  have N83 := Fr.app N79 N83q
  obtain ⟨cq84, kq84, q84a, q84b, q84c⟩ := isOf hZ e83 x80
  obtain ⟨_, _, ⟨T84, L84, k84, n84⟩, -, X84, ⟨Lc84, hQ84, l84, y84, z84⟩, st84⟩ := X83.virtualBack hx (y := (⟨"com/example/waveloom/waveloom/network/Links", "first", "(I)I"⟩ : MethodName)) (z := (⟨"com/example/waveloom/waveloom/network/Links", "first", "(I)I"⟩ : MethodName)) hown (mvT hZ (hw _ (List.mem_of_getElem? (i := 26) rfl))) (mvT hZ (hw _ (List.mem_of_getElem? (i := 27) rfl))) (notFace_of_selects (args := #[]) (mvT hZ (hw _ (List.mem_of_getElem? (i := 29) rfl)))) (mvT hZ (hw _ (List.mem_of_getElem? (i := 29) rfl))) (mvT hZ (hw _ (List.mem_of_getElem? (i := 28) rfl))) (by decide) (backOf (W := 0) (rm5 l Z ag hw [] b69 (0 : Int32) f71 kf71 ((2 : Int32) + (p4 &&& (7 : Int32))) [(.int p0), (.int p2)] p0 T79.heap n0 sz81 F179 V179 ⟨by decide, hcl0⟩ rfl) hZ (hw _ (List.mem_of_getElem? (i := 30) rfl)) (hw _ (List.mem_of_getElem? (i := 2) rfl)) (by decide) (by decide)) q84a q84c (g := (mkF m 79 (own_loc4 p0 p1 p2 p3 p4 b69) [.int 0, (.ref b69)])) rfl (by rw [hml]; rfl) (Steps.refl _) (argsL := [(.int (0 : Int32))]) (rest := []) (lenOf pd_2 rfl) rfl (by show 2 * 0 + _ ≤ _; exact Nat.le_of_eq rfl) (hb hby at_79) (fun _ _ => ⟨rfl, e83, (by decide : 3 + 0 ≤ _), (by decide : 21 + 0 ≤ _)⟩)
  dsimp only [Pt.U, Pt.locs, Pt.cells, Pt.slots] at X84 l84 y84 z84 st84 hQ84
  subst l84 y84 z84
  obtain ⟨rfl, N84q, e84⟩ := hQ84
  have N84 := Fr.app N83 N84q
  have cp85 : ∀ target, own_S p e below T84 (mkF m 101 (own_loc4 p0 p1 p2 p3 p4 b69) [.int 0, (.ref b69)]) target → own_S p e below s₁ (mkF m 0 (own_loc1 p0 p1 p2 p3 p4) []) target := by
    intro target kt
    show own_S p e below s₁ (mkF m 0 (own_loc1 p0 p1 p2 p3 p4) []) _
    refine cp82 _ ?_
    show own_S p e below T79 (mkF m 57 (own_loc4 p0 p1 p2 p3 p4 b69) [(.ref b69)]) _
    refine st83.trans ?_
    show own_S p e below T83 (mkF m 60 (own_loc4 p0 p1 p2 p3 p4 b69) [.int 2]) _
    refine XS.iconst X83.here hx rfl (hb hby at_60) ?_
    show own_S p e below T83 (mkF m 61 (own_loc4 p0 p1 p2 p3 p4 b69) [.int 2, .int 2]) _
    refine XS.icmpNo X83.here hx rfl (hb hby at_61) rfl (teq (by decide : (2 : Int32) = (2 : Int32))).2 ?_
    show own_S p e below T83 (mkF m 64 (own_loc4 p0 p1 p2 p3 p4 b69) []) _
    refine XS.iconst X83.here hx rfl (hb hby at_64) ?_
    show own_S p e below T83 (mkF m 65 (own_loc4 p0 p1 p2 p3 p4 b69) [.int 1]) _
    refine XS.goto X83.here hx rfl (pc0 := 65) (pc' := 69) rfl (hb hby at_65) (by decide) (by decide) ?_
    show own_S p e below T83 (mkF m 69 (own_loc4 p0 p1 p2 p3 p4 b69) [.int 1]) _
    refine XS.istore X83.here hx rfl (hb hby at_69) rfl (l' := (own_loc4 p0 p1 p2 p3 p4 b69)) rfl ?_
    show own_S p e below T83 (mkF m 71 (own_loc4 p0 p1 p2 p3 p4 b69) []) _
    refine XS.iload X83.here hx rfl (hb hby at_71) rfl ?_
    show own_S p e below T83 (mkF m 73 (own_loc4 p0 p1 p2 p3 p4 b69) [.int 1]) _
    refine XS.ifNo X83.here hx rfl (hb hby at_73) rfl ((if0 _ _).trans (feq (by decide : ¬ ((1 : Int32) = (0 : Int32)))).1) ?_
    show own_S p e below T83 (mkF m 76 (own_loc4 p0 p1 p2 p3 p4 b69) []) _
    refine XS.aload X83.here hx rfl (hb hby at_76) rfl rfl ?_
    show own_S p e below T83 (mkF m 78 (own_loc4 p0 p1 p2 p3 p4 b69) [(.ref b69)]) _
    refine XS.iconst X83.here hx rfl (hb hby at_78) ?_
    show own_S p e below T83 (mkF m 79 (own_loc4 p0 p1 p2 p3 p4 b69) [.int 0, (.ref b69)]) _
    refine st84.trans ?_
    show own_S p e below T84 (mkF m 82 (own_loc4 p0 p1 p2 p3 p4 b69) [(.int p0)]) _
    refine XS.iloadN X84.here hx rfl (hb hby at_82) rfl ?_
    show own_S p e below T84 (mkF m 83 (own_loc4 p0 p1 p2 p3 p4 b69) [(.int p0), (.int p0)]) _
    refine XS.icmpNo X84.here hx rfl (hb hby at_83) rfl (teq (rfl : p0 = p0)).2 ?_
    show own_S p e below T84 (mkF m 86 (own_loc4 p0 p1 p2 p3 p4 b69) []) _
    refine XS.iconst X84.here hx rfl (hb hby at_86) ?_
    show own_S p e below T84 (mkF m 87 (own_loc4 p0 p1 p2 p3 p4 b69) [.int 1]) _
    refine XS.goto X84.here hx rfl (pc0 := 87) (pc' := 91) rfl (hb hby at_87) (by decide) (by decide) ?_
    show own_S p e below T84 (mkF m 91 (own_loc4 p0 p1 p2 p3 p4 b69) [.int 1]) _
    refine XS.istore X84.here hx rfl (hb hby at_91) rfl (l' := (own_loc4 p0 p1 p2 p3 p4 b69)) rfl ?_
    show own_S p e below T84 (mkF m 93 (own_loc4 p0 p1 p2 p3 p4 b69) []) _
    refine XS.iload X84.here hx rfl (hb hby at_93) rfl ?_
    show own_S p e below T84 (mkF m 95 (own_loc4 p0 p1 p2 p3 p4 b69) [.int 1]) _
    refine XS.ifNo X84.here hx rfl (hb hby at_95) rfl ((if0 _ _).trans (feq (by decide : ¬ ((1 : Int32) = (0 : Int32)))).1) ?_
    show own_S p e below T84 (mkF m 98 (own_loc4 p0 p1 p2 p3 p4 b69) []) _
    refine XS.aload X84.here hx rfl (hb hby at_98) rfl rfl ?_
    show own_S p e below T84 (mkF m 100 (own_loc4 p0 p1 p2 p3 p4 b69) [(.ref b69)]) _
    refine XS.iconst X84.here hx rfl (hb hby at_100) ?_
    exact kt
  obtain ⟨cq86, kq86, q86a, q86b, q86c⟩ := isOf hZ e84 x80
  obtain ⟨_, _, ⟨T86, L86, k86, n86⟩, -, X86, ⟨Lc86, hQ86, l86, y86, z86⟩, st86⟩ := X84.virtualBack hx (y := (⟨"com/example/waveloom/waveloom/network/Links", "second", "(I)I"⟩ : MethodName)) (z := (⟨"com/example/waveloom/waveloom/network/Links", "second", "(I)I"⟩ : MethodName)) hown (mvT hZ (hw _ (List.mem_of_getElem? (i := 31) rfl))) (mvT hZ (hw _ (List.mem_of_getElem? (i := 32) rfl))) (notFace_of_selects (args := #[]) (mvT hZ (hw _ (List.mem_of_getElem? (i := 34) rfl)))) (mvT hZ (hw _ (List.mem_of_getElem? (i := 34) rfl))) (mvT hZ (hw _ (List.mem_of_getElem? (i := 33) rfl))) (by decide) (backOf (W := 0) (rm6 l Z ag hw [] b69 (0 : Int32) g_71 kg71 ((2 : Int32) + (p4 &&& (7 : Int32))) [(.int p1), (.int p3)] p1 T79.heap n0 sz81 F279 V279 ⟨by decide, hcl0⟩ rfl) hZ (hw _ (List.mem_of_getElem? (i := 35) rfl)) (hw _ (List.mem_of_getElem? (i := 2) rfl)) (by decide) (by decide)) q86a q86c (g := (mkF m 101 (own_loc4 p0 p1 p2 p3 p4 b69) [.int 0, (.ref b69)])) rfl (by rw [hml]; rfl) (Steps.refl _) (argsL := [(.int (0 : Int32))]) (rest := []) (lenOf pd_2 rfl) rfl (by show 2 * 0 + _ ≤ _; exact Nat.le_of_eq rfl) (hb hby at_101) (fun _ _ => ⟨rfl, e84, (by decide : 3 + 0 ≤ _), (by decide : 21 + 0 ≤ _)⟩)
  dsimp only [Pt.U, Pt.locs, Pt.cells, Pt.slots] at X86 l86 y86 z86 st86 hQ86
  subst l86 y86 z86
  obtain ⟨rfl, N86q, e86⟩ := hQ86
  have N86 := Fr.app N84 N86q
  obtain ⟨cq87, kq87, q87a, q87b, q87c⟩ := isOf hZ e86 x80
  obtain ⟨_, _, ⟨T87, L87, k87, n87⟩, -, X87, ⟨Lc87, hQ87, l87, y87, z87⟩, st87⟩ := X86.virtualBack hx (y := (⟨"com/example/waveloom/waveloom/network/Links", "first", "(I)I"⟩ : MethodName)) (z := (⟨"com/example/waveloom/waveloom/network/Links", "first", "(I)I"⟩ : MethodName)) hown (mvT hZ (hw _ (List.mem_of_getElem? (i := 26) rfl))) (mvT hZ (hw _ (List.mem_of_getElem? (i := 27) rfl))) (notFace_of_selects (args := #[]) (mvT hZ (hw _ (List.mem_of_getElem? (i := 29) rfl)))) (mvT hZ (hw _ (List.mem_of_getElem? (i := 29) rfl))) (mvT hZ (hw _ (List.mem_of_getElem? (i := 28) rfl))) (by decide) (backOf (W := 0) (rm5 l Z ag hw [] b69 (1 : Int32) f71 kf71 ((2 : Int32) + (p4 &&& (7 : Int32))) [(.int p0), (.int p2)] p2 T79.heap n0 sz81 F179 V179 ⟨by decide, hcl1⟩ rfl) hZ (hw _ (List.mem_of_getElem? (i := 30) rfl)) (hw _ (List.mem_of_getElem? (i := 2) rfl)) (by decide) (by decide)) q87a q87c (g := (mkF m 123 (own_loc4 p0 p1 p2 p3 p4 b69) [.int 1, (.ref b69)])) rfl (by rw [hml]; rfl) (Steps.refl _) (argsL := [(.int (1 : Int32))]) (rest := []) (lenOf pd_2 rfl) rfl (by show 2 * 0 + _ ≤ _; exact Nat.le_of_eq rfl) (hb hby at_123) (fun _ _ => ⟨rfl, e86, (by decide : 3 + 0 ≤ _), (by decide : 21 + 0 ≤ _)⟩)
  dsimp only [Pt.U, Pt.locs, Pt.cells, Pt.slots] at X87 l87 y87 z87 st87 hQ87
  subst l87 y87 z87
  obtain ⟨rfl, N87q, e87⟩ := hQ87
  have N87 := Fr.app N86 N87q
  have cp88 : ∀ target, own_S p e below T87 (mkF m 145 (own_loc4 p0 p1 p2 p3 p4 b69) [.int 1, (.ref b69)]) target → own_S p e below s₁ (mkF m 0 (own_loc1 p0 p1 p2 p3 p4) []) target := by
    intro target kt
    show own_S p e below s₁ (mkF m 0 (own_loc1 p0 p1 p2 p3 p4) []) _
    refine cp85 _ ?_
    show own_S p e below T84 (mkF m 101 (own_loc4 p0 p1 p2 p3 p4 b69) [.int 0, (.ref b69)]) _
    refine st86.trans ?_
    show own_S p e below T86 (mkF m 104 (own_loc4 p0 p1 p2 p3 p4 b69) [(.int p1)]) _
    refine XS.iloadN X86.here hx rfl (hb hby at_104) rfl ?_
    show own_S p e below T86 (mkF m 105 (own_loc4 p0 p1 p2 p3 p4 b69) [(.int p1), (.int p1)]) _
    refine XS.icmpNo X86.here hx rfl (hb hby at_105) rfl (teq (rfl : p1 = p1)).2 ?_
    show own_S p e below T86 (mkF m 108 (own_loc4 p0 p1 p2 p3 p4 b69) []) _
    refine XS.iconst X86.here hx rfl (hb hby at_108) ?_
    show own_S p e below T86 (mkF m 109 (own_loc4 p0 p1 p2 p3 p4 b69) [.int 1]) _
    refine XS.goto X86.here hx rfl (pc0 := 109) (pc' := 113) rfl (hb hby at_109) (by decide) (by decide) ?_
    show own_S p e below T86 (mkF m 113 (own_loc4 p0 p1 p2 p3 p4 b69) [.int 1]) _
    refine XS.istore X86.here hx rfl (hb hby at_113) rfl (l' := (own_loc4 p0 p1 p2 p3 p4 b69)) rfl ?_
    show own_S p e below T86 (mkF m 115 (own_loc4 p0 p1 p2 p3 p4 b69) []) _
    refine XS.iload X86.here hx rfl (hb hby at_115) rfl ?_
    show own_S p e below T86 (mkF m 117 (own_loc4 p0 p1 p2 p3 p4 b69) [.int 1]) _
    refine XS.ifNo X86.here hx rfl (hb hby at_117) rfl ((if0 _ _).trans (feq (by decide : ¬ ((1 : Int32) = (0 : Int32)))).1) ?_
    show own_S p e below T86 (mkF m 120 (own_loc4 p0 p1 p2 p3 p4 b69) []) _
    refine XS.aload X86.here hx rfl (hb hby at_120) rfl rfl ?_
    show own_S p e below T86 (mkF m 122 (own_loc4 p0 p1 p2 p3 p4 b69) [(.ref b69)]) _
    refine XS.iconst X86.here hx rfl (hb hby at_122) ?_
    show own_S p e below T86 (mkF m 123 (own_loc4 p0 p1 p2 p3 p4 b69) [.int 1, (.ref b69)]) _
    refine st87.trans ?_
    show own_S p e below T87 (mkF m 126 (own_loc4 p0 p1 p2 p3 p4 b69) [(.int p2)]) _
    refine XS.iloadN X87.here hx rfl (hb hby at_126) rfl ?_
    show own_S p e below T87 (mkF m 127 (own_loc4 p0 p1 p2 p3 p4 b69) [(.int p2), (.int p2)]) _
    refine XS.icmpNo X87.here hx rfl (hb hby at_127) rfl (teq (rfl : p2 = p2)).2 ?_
    show own_S p e below T87 (mkF m 130 (own_loc4 p0 p1 p2 p3 p4 b69) []) _
    refine XS.iconst X87.here hx rfl (hb hby at_130) ?_
    show own_S p e below T87 (mkF m 131 (own_loc4 p0 p1 p2 p3 p4 b69) [.int 1]) _
    refine XS.goto X87.here hx rfl (pc0 := 131) (pc' := 135) rfl (hb hby at_131) (by decide) (by decide) ?_
    show own_S p e below T87 (mkF m 135 (own_loc4 p0 p1 p2 p3 p4 b69) [.int 1]) _
    refine XS.istore X87.here hx rfl (hb hby at_135) rfl (l' := (own_loc4 p0 p1 p2 p3 p4 b69)) rfl ?_
    show own_S p e below T87 (mkF m 137 (own_loc4 p0 p1 p2 p3 p4 b69) []) _
    refine XS.iload X87.here hx rfl (hb hby at_137) rfl ?_
    show own_S p e below T87 (mkF m 139 (own_loc4 p0 p1 p2 p3 p4 b69) [.int 1]) _
    refine XS.ifNo X87.here hx rfl (hb hby at_139) rfl ((if0 _ _).trans (feq (by decide : ¬ ((1 : Int32) = (0 : Int32)))).1) ?_
    show own_S p e below T87 (mkF m 142 (own_loc4 p0 p1 p2 p3 p4 b69) []) _
    refine XS.aload X87.here hx rfl (hb hby at_142) rfl rfl ?_
    show own_S p e below T87 (mkF m 144 (own_loc4 p0 p1 p2 p3 p4 b69) [(.ref b69)]) _
    refine XS.iconst X87.here hx rfl (hb hby at_144) ?_
    exact kt
  obtain ⟨cq89, kq89, q89a, q89b, q89c⟩ := isOf hZ e87 x80
  obtain ⟨_, _, ⟨T89, L89, k89, n89⟩, -, X89, ⟨Lc89, hQ89, l89, y89, z89⟩, st89⟩ := X87.virtualBack hx (y := (⟨"com/example/waveloom/waveloom/network/Links", "second", "(I)I"⟩ : MethodName)) (z := (⟨"com/example/waveloom/waveloom/network/Links", "second", "(I)I"⟩ : MethodName)) hown (mvT hZ (hw _ (List.mem_of_getElem? (i := 31) rfl))) (mvT hZ (hw _ (List.mem_of_getElem? (i := 32) rfl))) (notFace_of_selects (args := #[]) (mvT hZ (hw _ (List.mem_of_getElem? (i := 34) rfl)))) (mvT hZ (hw _ (List.mem_of_getElem? (i := 34) rfl))) (mvT hZ (hw _ (List.mem_of_getElem? (i := 33) rfl))) (by decide) (backOf (W := 0) (rm6 l Z ag hw [] b69 (1 : Int32) g_71 kg71 ((2 : Int32) + (p4 &&& (7 : Int32))) [(.int p1), (.int p3)] p3 T79.heap n0 sz81 F279 V279 ⟨by decide, hcl1⟩ rfl) hZ (hw _ (List.mem_of_getElem? (i := 35) rfl)) (hw _ (List.mem_of_getElem? (i := 2) rfl)) (by decide) (by decide)) q89a q89c (g := (mkF m 145 (own_loc4 p0 p1 p2 p3 p4 b69) [.int 1, (.ref b69)])) rfl (by rw [hml]; rfl) (Steps.refl _) (argsL := [(.int (1 : Int32))]) (rest := []) (lenOf pd_2 rfl) rfl (by show 2 * 0 + _ ≤ _; exact Nat.le_of_eq rfl) (hb hby at_145) (fun _ _ => ⟨rfl, e87, (by decide : 3 + 0 ≤ _), (by decide : 21 + 0 ≤ _)⟩)
  dsimp only [Pt.U, Pt.locs, Pt.cells, Pt.slots] at X89 l89 y89 z89 st89 hQ89
  subst l89 y89 z89
  obtain ⟨rfl, N89q, e89⟩ := hQ89
  have N89 := Fr.app N87 N89q
  obtain ⟨fs, hr, hrun, hended, hW, hsame⟩ := X89.leave (v := some (.int (1 : Int32))) (fun h => by rw [Bd.returns] at h; cases h)
  refine ⟨_, _, pre0 _ ?_, hrun, hended, _, _, rfl, ?_, ⟨_, rfl⟩, hW, hsame.mono (by decide) (by decide)⟩
  · show own_S p e below s₁ (mkF m 0 (own_loc1 p0 p1 p2 p3 p4) []) _
    refine cp88 _ ?_
    show own_S p e below T87 (mkF m 145 (own_loc4 p0 p1 p2 p3 p4 b69) [.int 1, (.ref b69)]) _
    refine st89.trans ?_
    show own_S p e below T89 (mkF m 148 (own_loc4 p0 p1 p2 p3 p4 b69) [(.int p3)]) _
    refine XS.iloadN X89.here hx rfl (hb hby at_148) rfl ?_
    show own_S p e below T89 (mkF m 149 (own_loc4 p0 p1 p2 p3 p4 b69) [(.int p3), (.int p3)]) _
    refine XS.icmpNo X89.here hx rfl (hb hby at_149) rfl (teq (rfl : p3 = p3)).2 ?_
    show own_S p e below T89 (mkF m 152 (own_loc4 p0 p1 p2 p3 p4 b69) []) _
    refine XS.iconst X89.here hx rfl (hb hby at_152) ?_
    show own_S p e below T89 (mkF m 153 (own_loc4 p0 p1 p2 p3 p4 b69) [.int 1]) _
    refine XS.goto X89.here hx rfl (pc0 := 153) (pc' := 157) rfl (hb hby at_153) (by decide) (by decide) ?_
    show own_S p e below T89 (mkF m 157 (own_loc4 p0 p1 p2 p3 p4 b69) [.int 1]) _
    refine XS.istore X89.here hx rfl (hb hby at_157) rfl (l' := (own_loc4 p0 p1 p2 p3 p4 b69)) rfl ?_
    show own_S p e below T89 (mkF m 159 (own_loc4 p0 p1 p2 p3 p4 b69) []) _
    refine XS.iload X89.here hx rfl (hb hby at_159) rfl ?_
    show own_S p e below T89 (mkF m 161 (own_loc4 p0 p1 p2 p3 p4 b69) [.int 1]) _
    exact retN X89 hx (t := .boolean) Bd.returns (by simp) (hb hby at_161) hr
  · exact ⟨rfl, N89⟩
set_option maxRecDepth 65536 in
set_option maxHeartbeats 40000000 in
theorem comes_1 {Post : Tables → Env → Array Value → State → Outcome → State → Prop} (hpost : ∀ tb e args s v u, (limb_1_1.after args s (.returned v) u = true ∧ limb_1_2.after args s (.returned v) u = true ∧ True) → FrameEnd s (.returned v) u (Jvm.fieldLocs frame_1_writes args s ++ Jvm.arrayLocs frame_1_arrays args s ++ Jvm.staticLocs frame_1_statics s) 16 128 → Post tb e args s (.returned v) u) :
    ArmFor flags0 classFile x code maxLocals ret World_1 tables_1 room_1 Calls_1 rest_1 Pre_1 Post := by
  intro l hfl _ _ p e ha hc hk s m args below hf hA hF happ hP
  obtain ⟨hcalls, hrest, hpre⟩ := hP
  obtain ⟨-, -, -, hnamed, -, -, -, hat⟩ := (Spec.applies_iff hf).mp happ
  obtain ⟨hg, hn⟩ := and_e (Cond.before_iff.mp (show (Jvm.Cond.and given_1 narrow_1).before args s = true from hpre))
  obtain ⟨g90, g91⟩ := and_e hg
  obtain ⟨g92, g93⟩ := and_e g91
  obtain ⟨g94, g95⟩ := and_e g93
  obtain ⟨g96, g97⟩ := and_e g95
  obtain ⟨g98, g99⟩ := and_e g97
  obtain ⟨w0, w1, w2, w3, w4, rfl⟩ : ∃ w0 w1 w2 w3 w4 : Value, args = #[w0, w1, w2, w3, w4] := by
    have hs : args.size = 5 := by simpa [Cond.value, given_1] using g90
    obtain ⟨L⟩ := args
    match L, hs with
    | [w0, w1, w2, w3, w4], _ => exact ⟨w0, w1, w2, w3, w4, rfl⟩
  have hw := fun d (hd : d ∈ tables_1) => atoms_spec (ws := Jvm.Cond.code x code maxLocals ret :: tables_1) hat d (List.mem_cons_of_mem _ hd)
  have hfit : Fit s := fun {y c} hc i hi => by
    obtain ⟨ha, rfl⟩ := Array.getElem?_eq_some_iff.mp hc
    have q := List.all_eq_true.mp ((Array.all_eq_true_iff_forall_mem.mp hF) _ (Array.getElem_mem ha)) i (List.mem_range.mpr hi)
    simpa [Array.getElem?_eq_getElem hi] using q
  obtain ⟨i0, ei0⟩ := is_v g92
  obtain rfl : w0 = (.int i0) := Option.some.inj ei0
  obtain ⟨i1, ei1⟩ := is_v g94
  obtain rfl : w1 = (.int i1) := Option.some.inj ei1
  obtain ⟨i2, ei2⟩ := is_v g96
  obtain rfl : w2 = (.int i2) := Option.some.inj ei2
  obtain ⟨i3, ei3⟩ := is_v g98
  obtain rfl : w3 = (.int i3) := Option.some.inj ei3
  obtain ⟨i4, ei4⟩ := is_v g99
  obtain rfl : w4 = (.int i4) := Option.some.inj ei4
  obtain ⟨n, o, h1, h2, h3, _, L, rfl, ⟨rfl, N⟩, hq⟩ := rm0 l s _ hw tables_1 i0 i1 i2 i3 i4 s.heap s.heap.size (Nat.le_refl _)  p e ha hc hk s m _ below hf ((Spec.applies_iff_loose hf).mp happ).1 ⟨rfl, State.Warmed39.refl s, rfl⟩ trivial
  refine ⟨n, _, h1, h2, h3, hpost _ _ _ _ _ _ ⟨Cond.after_iff.mpr rfl, Cond.after_iff.mpr (eq_i res_at (Term.int_eval (1)) rfl), trivial⟩ ⟨hq.1, hq.2.1, (hq.2.2.sift fun y hy => Or.inr (N y hy)).mono (by decide) (by decide)⟩⟩
theorem main_1_1 : Claimed_1_1 := comes_1 fun _ _ _ _ _ _ h hF => ⟨h.1, hF⟩
theorem main_1_2 : Claimed_1_2 := comes_1 fun _ _ _ _ _ _ h hF => ⟨h.2.1, hF⟩
end Jvm.Pilot.@@N@@
namespace Jvm.Pilot.@@N@@
open Jvm Jvm.ClassFile Sem Op Lib Jvm.Free Jvm.Stand Jvm.Pilot.@@N@@.Jvm.D
/-! MADE BY PROGRAM (witnessworld.py) out of the Statement's table words and the real class files: 9 classes; the members and pool entries that the words name. The judged class is class 1, her method 1. -/
namespace start1
open Jvm.ClassFile
def u (s : String) : CpInfo := .utf8 (stringToUtf16 s)
/-- a pool by its gaps: so many unusable entries, then the entry; so many at the end -/
def gap : Nat → List CpInfo → List CpInfo
  | 0, r => r
  | n + 1, r => .unusable :: gap n r
def poolList (es : List (Nat × CpInfo)) (last : Nat) : List CpInfo := es.foldr (fun e r => gap e.1 (e.2 :: r)) (gap last [])
def pool (es : List (Nat × CpInfo)) (last : Nat) : Array CpInfo := ⟨poolList es last⟩
def fileOf (pool : Array CpInfo) (this : Nat) (attrs : Array Attribute := #[]) (ms : Array MethodInfo := #[]) (fl : Nat := 33) (sup : Nat := 0) (ifs : Array Nat := #[]) (fds : Array FieldInfo := #[]) : ClassFile where
  minorVersion := 0
  majorVersion := 65
  constantPool := pool
  accessFlags := fl
  thisClass := this
  superClass := sup
  interfaces := ifs
  fields := fds
  methods := ms
  attributes := attrs
def plain (name : String) (sup : Option ClassId) : Class where
  name := name
  kind := .ordinary
  loader := none
  accessFlags := 33
  super := sup
  interfaces := #[]
  cf := none
  fields := #[]
  methods := #[]
  instanceTypes := #[]
  staticTypes := #[]
  resolved := #[]
  callSites := []
  init := .initialized
  statics := none
  mirror := none

def pool0 : Array CpInfo := pool [(5, u "<init>"), (0, u "()V"), (1, .class_ 10), (1, u "java/lang/Object")] 113

def k0c0 : Code := { maxStack := 0, maxLocals := 1, code := object_method_1_code, exceptionTable := #[], attributes := #[] }
def k0m0 : Method := { name := "<init>", desc := "()V", sig := { parameters := [], returnType := none }, accessFlags := 1, code := some k0c0 }
/-- java/lang/Object -/
def k0 : Class := { plain "java/lang/Object" none with
  accessFlags := 33
  interfaces := #[]
  cf := some (fileOf pool0 8 #[] #[{ accessFlags := 1, nameIndex := 5, descriptorIndex := 6, attributes := #[] }] 33 0 #[] #[])
  fields := #[]
  methods := #[k0m0]
  instanceTypes := #[]
  staticTypes := #[]
  resolved := Array.replicate 124 none
  statics := none }

def pool1 : Array CpInfo := pool [(2, .class_ 4), (1, u "java/lang/Object"), (0, u "<init>"), (0, u "()V"), (0, .class_ 8), (0, u "com/example/waveloom/waveloom/network/Links"), (0, .methodref 7 10), (0, .nameAndType 5 11), (0, u "(I)V"), (0, .methodref 7 13), (0, .nameAndType 14 15), (0, u "add"), (0, u "(II)V"), (0, .methodref 7 17), (0, .nameAndType 18 19), (0, u "count"), (0, u "()I"), (0, .methodref 7 21), (0, .nameAndType 22 23), (0, u "first"), (0, u "(I)I"), (0, .methodref 7 25), (0, .nameAndType 26 23), (0, u "second"), (0, .class_ 28), (0, u "com/example/waveloom/waveloom/network/LinksAddPinLaw"), (2, u "law"), (0, u "(IIIII)Z")] 3

def k1m0 : Method := { name := "<init>", desc := "()V", sig := { parameters := [], returnType := none }, accessFlags := 2, code := none }
def k1c1 : Code := { maxStack := 3, maxLocals := 8, code := code, exceptionTable := #[], attributes := #[] }
def k1m1 : Method := { name := "law", desc := "(IIIII)Z", sig := { parameters := [.int, .int, .int, .int, .int], returnType := some .boolean }, accessFlags := 9, code := some k1c1 }
/-- com/example/waveloom/waveloom/network/LinksAddPinLaw -/
def k1 : Class := { plain "com/example/waveloom/waveloom/network/LinksAddPinLaw" (some 0) with
  accessFlags := 49
  interfaces := #[]
  cf := some (fileOf pool1 27 #[] #[{ accessFlags := 2, nameIndex := 5, descriptorIndex := 6, attributes := #[] }, { accessFlags := 9, nameIndex := 31, descriptorIndex := 32, attributes := #[] }] 49 2 #[] #[])
  fields := #[]
  methods := #[k1m0, k1m1]
  instanceTypes := #[]
  staticTypes := #[]
  resolved := Array.replicate 36 none
  statics := none }

def pool2 : Array CpInfo := pool [(1, .methodref 2 3), (0, .class_ 4), (0, .nameAndType 5 6), (0, u "java/lang/Object"), (0, u "<init>"), (0, u "()V"), (0, .fieldref 8 9), (0, .class_ 10), (0, .nameAndType 11 12), (0, u "com/example/waveloom/waveloom/network/Links"), (0, u "firsts"), (0, u "[I"), (0, .fieldref 8 14), (0, .nameAndType 15 12), (0, u "seconds"), (0, .fieldref 8 17), (0, .nameAndType 18 19), (0, u "count"), (0, u "I"), (0, u "(I)V"), (2, u "add"), (0, u "(II)V"), (0, u "()I"), (0, u "first"), (0, u "(I)I"), (0, u "second")] 2

def k2c0 : Code := { maxStack := 2, maxLocals := 2, code := prog_30_method_1_code, exceptionTable := #[], attributes := #[] }
def k2m0 : Method := { name := "<init>", desc := "(I)V", sig := { parameters := [.int], returnType := none }, accessFlags := 0, code := some k2c0 }
def k2c1 : Code := { maxStack := 3, maxLocals := 3, code := prog_30_method_2_code, exceptionTable := #[], attributes := #[] }
def k2m1 : Method := { name := "add", desc := "(II)V", sig := { parameters := [.int, .int], returnType := none }, accessFlags := 0, code := some k2c1 }
def k2c2 : Code := { maxStack := 1, maxLocals := 1, code := prog_30_method_3_code, exceptionTable := #[], attributes := #[] }
def k2m2 : Method := { name := "count", desc := "()I", sig := { parameters := [], returnType := some .int }, accessFlags := 0, code := some k2c2 }
def k2c3 : Code := { maxStack := 2, maxLocals := 2, code := prog_30_method_4_code, exceptionTable := #[], attributes := #[] }
def k2m3 : Method := { name := "first", desc := "(I)I", sig := { parameters := [.int], returnType := some .int }, accessFlags := 0, code := some k2c3 }
def k2c4 : Code := { maxStack := 2, maxLocals := 2, code := prog_30_method_5_code, exceptionTable := #[], attributes := #[] }
def k2m4 : Method := { name := "second", desc := "(I)I", sig := { parameters := [.int], returnType := some .int }, accessFlags := 0, code := some k2c4 }
/-- com/example/waveloom/waveloom/network/Links -/
def k2 : Class := { plain "com/example/waveloom/waveloom/network/Links" (some 0) with
  accessFlags := 48
  interfaces := #[]
  cf := some (fileOf pool2 8 #[] #[{ accessFlags := 0, nameIndex := 5, descriptorIndex := 20, attributes := #[] }, { accessFlags := 0, nameIndex := 23, descriptorIndex := 24, attributes := #[] }, { accessFlags := 0, nameIndex := 18, descriptorIndex := 25, attributes := #[] }, { accessFlags := 0, nameIndex := 26, descriptorIndex := 27, attributes := #[] }, { accessFlags := 0, nameIndex := 28, descriptorIndex := 27, attributes := #[] }] 48 2 #[] #[{ accessFlags := 18, nameIndex := 11, descriptorIndex := 12, attributes := #[] }, { accessFlags := 18, nameIndex := 15, descriptorIndex := 12, attributes := #[] }, { accessFlags := 2, nameIndex := 18, descriptorIndex := 19, attributes := #[] }])
  fields := #[{ name := "firsts", type := (.array .int), accessFlags := 18, slot := 0, constantValue := 0 }, { name := "seconds", type := (.array .int), accessFlags := 18, slot := 1, constantValue := 0 }, { name := "count", type := .int, accessFlags := 2, slot := 2, constantValue := 0 }]
  methods := #[k2m0, k2m1, k2m2, k2m3, k2m4]
  instanceTypes := #[(.array .int), (.array .int), .int]
  staticTypes := #[]
  resolved := Array.replicate 31 none
  statics := none }

def pool3 : Array CpInfo := pool [(1, u "java/lang/Cloneable"), (0, .class_ 1), (0, u "java/lang/Object"), (0, .class_ 3)] 3

/-- java/lang/Cloneable -/
def k3 : Class := { plain "java/lang/Cloneable" (some 0) with
  accessFlags := 1537
  interfaces := #[]
  cf := some (fileOf pool3 2 #[] #[] 1537 4 #[] #[])
  fields := #[]
  methods := #[]
  instanceTypes := #[]
  staticTypes := #[]
  resolved := Array.replicate 8 none
  statics := none }

def pool4 : Array CpInfo := pool [(1, u "java/io/Serializable"), (0, .class_ 1), (0, u "java/lang/Object"), (0, .class_ 3)] 3

/-- java/io/Serializable -/
def k4 : Class := { plain "java/io/Serializable" (some 0) with
  accessFlags := 1537
  interfaces := #[]
  cf := some (fileOf pool4 2 #[] #[] 1537 4 #[] #[])
  fields := #[]
  methods := #[]
  instanceTypes := #[]
  staticTypes := #[]
  resolved := Array.replicate 8 none
  statics := none }

/-- the primitive byte -/
def k5 : Class := { plain "byte" none with kind := .primitive 'B', accessFlags := 0x411 }
/-- [B -/
def k6 : Class := { plain "[B" (some 0) with kind := .array 5 .byte, interfaces := #[3, 4], accessFlags := 1041 }

/-- the primitive int -/
def k7 : Class := { plain "int" none with kind := .primitive 'I', accessFlags := 0x411 }
/-- [I -/
def k8 : Class := { plain "[I" (some 0) with kind := .array 7 .int, interfaces := #[3, 4], accessFlags := 1041 }

def heap : Heap := #[]
def classes : Array Class := #[k0, k1, k2, k3, k4, k5, k6, k7, k8]
def interned : List (Array UInt16 × Addr) := []
def slotsUsed : Nat := 0
def theMethod : MethodId := ⟨1, 1⟩
def args0 : Array Value := #[.int 5, .int 3, .int 1, .int 2, .int 4]
def aboutOver (below : List Frame) : State where
  vm := { classes := classes, interned := interned.toArray }
  heap := heap
  slotsUsed := slotsUsed
  threads := #[{ frames := .invoking theMethod args0 :: below }]
def below0 : List Frame := [.native { method := ⟨0, 0⟩, args := #[] }]
def about1 : State := aboutOver below0
def p0 : Program := .bare "" "" ""
def e0 : Env := launch0.env 0 0 0
theorem w_frames : about1.frames = Frame.invoking theMethod args0 :: below0 := rfl
set_option maxRecDepth 65536 in
theorem w_args : argsFit about1.vm theMethod args0 = true := by decide +kernel
set_option maxRecDepth 65536 in
theorem w_heap : heapFits about1 = true := by decide +kernel
set_option maxRecDepth 65536 in
theorem w_runnable : about1.curStatus? = some .runnable := by decide +kernel
set_option maxRecDepth 65536 in
theorem w_alone : about1.alone = true := by decide +kernel
set_option maxRecDepth 65536 in
theorem w_named : about1.methodNamed? x = some theMethod := by decide +kernel
set_option maxRecDepth 65536 in
theorem w_hears : about1.hears theMethod below0 = true := by decide +kernel
set_option maxRecDepth 65536 in
theorem w_ripe : about1.ripe theMethod args0 below0 = true := by decide +kernel
theorem w_running : about1.status = .running := rfl
set_option maxRecDepth 65536 in
theorem w_room : about1.hasRoom e0.platform room_1 = true :=
  launch0.hasRoom_least _ room_1 (by decide +kernel) (by decide +kernel) (by decide +kernel) (by decide +kernel) (by decide +kernel) (by decide +kernel)
theorem allAtoms_all (ts : List Jvm.Cond) (a : Array Jvm.Value) (st : Jvm.State) : (allAtoms ts).before a st = ts.all (fun c => c.before a st) := by
  induction ts with
  | nil => rfl
  | cons c t ih =>
    show (Jvm.Cond.and c (allAtoms t)).before a st = _
    rw [Jvm.Cond.before_and, ih, List.all_cons]
def words1 : List Jvm.Cond := Jvm.Cond.code x code maxLocals ret :: tables_1
/-- a 'code' word, met by the world's own term for the bytes: nothing is compared byte by byte -/
theorem code_word {y : MethodName} {bytes : ByteArray} {mx : Nat} {rt : Option FieldType} {a : Array Value} {s : State} {m : MethodId} {meth : Method} {c : Code} (h1 : s.methodNamed? y = some m) (h2 : s.vm.method? m = some meth) (h3 : meth.code = some c) (h4 : c.code = bytes)
    (h5 : (c.maxLocals == mx && c.exceptionTable.isEmpty && decide (c.maxStack ≤ mostOperands) && decide (meth.sig.returnType = rt) && !meth.locks && decide (parseMethodDescriptor y.desc = some meth.sig)) = true) : (Jvm.Cond.code y bytes mx rt).before a s = true := by
  simp only [Bool.and_eq_true, beq_iff_eq, Bool.not_eq_true', decide_eq_true_eq] at h5
  obtain ⟨⟨⟨⟨⟨g1, g2⟩, g3⟩, g4⟩, g5⟩, g6⟩ := h5
  simp [Cond.before, Cond.holds, Cond.value, h1, h2, h3, h4, g1, g2, g3, g4, g5, g6]
def isCode : Jvm.Cond → Bool
  | .code _ _ _ _ => true
  | _ => false
theorem all_split {L : List Jvm.Cond} {P : Jvm.Cond → Bool} (h1 : L.all (fun c => isCode c || P c) = true) (h2 : ∀ c ∈ L.filter isCode, P c = true) : L.all P = true := by
  refine List.all_eq_true.mpr fun c hc => ?_
  have h := List.all_eq_true.mp h1 c hc
  rcases Bool.eq_false_or_eq_true (isCode c) with hi | hi
  · exact h2 c (List.mem_filter.mpr ⟨hc, hi⟩)
  · simpa [hi] using h
set_option maxRecDepth 65536 in
theorem w_c0 : (Jvm.Cond.code x code maxLocals ret).before args0 about1 = true := code_word (m := ⟨1, 1⟩) (meth := k1m1) (c := k1c1) (by decide +kernel) rfl rfl rfl (by decide +kernel)
set_option maxRecDepth 65536 in
theorem w_c1 : (Jvm.Cond.code ({ cls := "com/example/waveloom/waveloom/network/Links", name := "<init>", desc := "(I)V" } : Jvm.MethodName) prog_30_method_1_code (2 : Nat) (Option.none : Option Jvm.ClassFile.FieldType)).before args0 about1 = true := code_word (m := ⟨2, 0⟩) (meth := k2m0) (c := k2c0) (by decide +kernel) rfl rfl rfl (by decide +kernel)
set_option maxRecDepth 65536 in
theorem w_c2 : (Jvm.Cond.code ({ cls := "java/lang/Object", name := "<init>", desc := "()V" } : Jvm.MethodName) object_method_1_code (1 : Nat) (Option.none : Option Jvm.ClassFile.FieldType)).before args0 about1 = true := code_word (m := ⟨0, 0⟩) (meth := k0m0) (c := k0c0) (by decide +kernel) rfl rfl rfl (by decide +kernel)
set_option maxRecDepth 65536 in
theorem w_c3 : (Jvm.Cond.code ({ cls := "com/example/waveloom/waveloom/network/Links", name := "add", desc := "(II)V" } : Jvm.MethodName) prog_30_method_2_code (3 : Nat) (Option.none : Option Jvm.ClassFile.FieldType)).before args0 about1 = true := code_word (m := ⟨2, 1⟩) (meth := k2m1) (c := k2c1) (by decide +kernel) rfl rfl rfl (by decide +kernel)
set_option maxRecDepth 65536 in
theorem w_c4 : (Jvm.Cond.code ({ cls := "com/example/waveloom/waveloom/network/Links", name := "count", desc := "()I" } : Jvm.MethodName) prog_30_method_3_code (1 : Nat) (Option.some Jvm.ClassFile.FieldType.int)).before args0 about1 = true := code_word (m := ⟨2, 2⟩) (meth := k2m2) (c := k2c2) (by decide +kernel) rfl rfl rfl (by decide +kernel)
set_option maxRecDepth 65536 in
theorem w_c5 : (Jvm.Cond.code ({ cls := "com/example/waveloom/waveloom/network/Links", name := "first", desc := "(I)I" } : Jvm.MethodName) prog_30_method_4_code (2 : Nat) (Option.some Jvm.ClassFile.FieldType.int)).before args0 about1 = true := code_word (m := ⟨2, 3⟩) (meth := k2m3) (c := k2c3) (by decide +kernel) rfl rfl rfl (by decide +kernel)
set_option maxRecDepth 65536 in
theorem w_c6 : (Jvm.Cond.code ({ cls := "com/example/waveloom/waveloom/network/Links", name := "second", desc := "(I)I" } : Jvm.MethodName) prog_30_method_5_code (2 : Nat) (Option.some Jvm.ClassFile.FieldType.int)).before args0 about1 = true := code_word (m := ⟨2, 4⟩) (meth := k2m4) (c := k2c4) (by decide +kernel) rfl rfl rfl (by decide +kernel)
def codes1 : List Jvm.Cond := [Jvm.Cond.code x code maxLocals ret, Jvm.Cond.code ({ cls := "com/example/waveloom/waveloom/network/Links", name := "<init>", desc := "(I)V" } : Jvm.MethodName) prog_30_method_1_code (2 : Nat) (Option.none : Option Jvm.ClassFile.FieldType), Jvm.Cond.code ({ cls := "java/lang/Object", name := "<init>", desc := "()V" } : Jvm.MethodName) object_method_1_code (1 : Nat) (Option.none : Option Jvm.ClassFile.FieldType), Jvm.Cond.code ({ cls := "com/example/waveloom/waveloom/network/Links", name := "add", desc := "(II)V" } : Jvm.MethodName) prog_30_method_2_code (3 : Nat) (Option.none : Option Jvm.ClassFile.FieldType), Jvm.Cond.code ({ cls := "com/example/waveloom/waveloom/network/Links", name := "count", desc := "()I" } : Jvm.MethodName) prog_30_method_3_code (1 : Nat) (Option.some Jvm.ClassFile.FieldType.int), Jvm.Cond.code ({ cls := "com/example/waveloom/waveloom/network/Links", name := "first", desc := "(I)I" } : Jvm.MethodName) prog_30_method_4_code (2 : Nat) (Option.some Jvm.ClassFile.FieldType.int), Jvm.Cond.code ({ cls := "com/example/waveloom/waveloom/network/Links", name := "second", desc := "(I)I" } : Jvm.MethodName) prog_30_method_5_code (2 : Nat) (Option.some Jvm.ClassFile.FieldType.int)]
set_option maxRecDepth 65536 in
theorem codes_eq : words1.filter isCode = codes1 := rfl
theorem w_codes : ∀ c ∈ words1.filter isCode, c.before args0 about1 = true := by
  rw [codes_eq]
  intro c hc
  simp only [codes1, List.mem_cons, List.not_mem_nil, or_false] at hc
  rcases hc with rfl | rfl | rfl | rfl | rfl | rfl | rfl
  · exact w_c0
  · exact w_c1
  · exact w_c2
  · exact w_c3
  · exact w_c4
  · exact w_c5
  · exact w_c6
set_option maxRecDepth 65536 in
theorem w_t1 : (words1.take 24).all (fun c => isCode c || c.before args0 about1) = true := by decide +kernel
set_option maxRecDepth 65536 in
theorem w_t2 : (words1.drop 24).all (fun c => isCode c || c.before args0 about1) = true := by decide +kernel
theorem w_tables : (allAtoms (Jvm.Cond.code x code maxLocals ret :: tables_1)).before args0 about1 = true := by
  rw [allAtoms_all]
  show words1.all (fun c => c.before args0 about1) = true
  refine all_split ?_ w_codes
  rw [← List.take_append_drop 24 words1, List.all_append, w_t1, w_t2]
  rfl
set_option maxRecDepth 65536 in
theorem w_case : (Jvm.Cond.and given_1 narrow_1).before args0 about1 = true := by decide +kernel
theorem w_applies : (headSpec (Jvm.Cond.code x code maxLocals ret :: tables_1) room_1).applies x e0.platform about1 = true :=
  (Spec.applies_iff w_frames).mpr ⟨w_running, w_runnable, w_alone, w_named, w_hears, w_ripe, w_room, w_tables⟩
theorem atStart : AtStart classFile x code maxLocals ret World_1 tables_1 room_1 Calls_1 rest_1 Pre_1 launch0 p0 e0 about1 theMethod args0 below0 :=
  ⟨lists_1, trivial, launch0.admits_env _ _ _, launch0.least_env, fairChoices_fair.cas, fairChoices_fair.clock, w_frames, w_args, w_heap, w_applies, trivial, trivial, w_case⟩
end start1
theorem witness_1 : WitnessClaimed_1 := ⟨start1.p0, start1.e0, start1.about1, start1.theMethod, start1.args0, start1.below0, start1.atStart⟩
end Jvm.Pilot.@@N@@
