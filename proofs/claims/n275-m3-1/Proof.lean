import JvmDerived
import JvmDerived.Pilot.@@N@@Statement
import JvmDerived.Pilot.@@N@@Code
set_option linter.unusedVariables false
set_option linter.unusedSimpArgs false
namespace Jvm.RoadKit
open Sem ClassFile Op Lib Jvm.Stand Jvm.Free Jvm.LawKit
section New
variable {p : Program} {l : Launch} {e : Env} {R : Room} {s : State} {m : MethodId} {args : Array Value} {below : List Frame} {meth : Method} {c : Code} {T : State} {locs : List Loc} {cells slots : Nat}
theorem retI (X : Stand p l e R s m args below meth c T locs cells slots) (hx : p.tables.exec = Jvm.exec) {pc : Nat} {Ls : Array Slot} {z : Int32} {rest : List Value} (hret : meth.sig.returnType = some .int) (hd : decode c.code pc = .ok (.ireturn, 1)) {fs : List Frame}
    (hl : ∀ (f : JFrame) (acts : List Action), f.method = m → f.locked = none → f.entered = [] → (doReturn e (T.setTop f) acts (some (.int z))).1 = T.setFrames fs) : Steps p.tables e below (T.setTop (mkF m pc Ls (.int z :: rest))) (T.setFrames fs) := by
  have hm' : T.vm.method? m = some meth := X.method'
  have hn : narrow .int (.int z) = .int z := rfl
  show Steps p.tables e below (T.setTop { method := m, pc := pc, locals := Ls, stack := _ :: rest, locked := none }) _
  jvm_step X.here [X.here.top, hx, hd, hm', hret, hn]
  first | (intro acts; rw [hl _ acts rfl rfl rfl]) | rw [hl _ _ rfl rfl rfl]
  exact Steps.refl _
end New
end Jvm.RoadKit
namespace Jvm.Pilot.@@N@@
open Jvm Jvm.ClassFile Sem Op Lib Jvm.Free Jvm.Stand Jvm.LawKit Jvm.RoadKit Bundle Jvm.Pilot.@@N@@.Jvm.D
abbrev own_S (p : Program) (e : Env) (below : List Frame) (T : State) (f : JFrame) (t : State) : Prop := Steps p.tables e below (T.setTop f) t
abbrev own_ushr (x y : Int32) : Int32 := (x.toUInt32 >>> (y &&& 31).toUInt32).toInt32
abbrev own_ushrL (x : Int64) (y : Int32) : Int64 := (x.toUInt64 >>> (y &&& 63).toInt64.toUInt64).toInt64
def own_Qi (z : Int32) (h0 : Heap) (n0 : Nat) (v : Option Value) (h : Heap) (L : List Loc) : Prop := v = some (.int z) ∧ Fr n0 L ∧ h = h0
theorem own_wk {Z : State} {ag : Array Value} {d : Jvm.Cond} (hw : ∀ d ∈ tables_1, d.before ag Z = true) (i : Nat) (h : tables_1[i]? = some d) : d.before ag Z = true := hw d (List.mem_of_getElem? h)
theorem own_cast {α : Sort _} {P : α → Prop} {a b : α} (h : a = b) (k : P a) : P b := h ▸ k
theorem pn_1 : plainName "com/example/needle_in_json/needleinjson/query/Selector" = true := by first | (simp [plainName, overriddenIn]; done) | decide +kernel
theorem ef_6 (m : MethodId) (q0 : Int64) (q1 : Int64) : entryFrame m #[(.long q0), (.long q1)] 4 = mkF m 0 #[.val (.long q0), .second, .val (.long q1), .second] [] := by first | (simp [entryFrame, mkF, argsToLocals, Value.category]; done) | rfl
theorem d6_0 : decode prog_108_method_2_code 0 = .ok (.lload_n 0, 1) := by decide +kernel
theorem d6_1 : decode prog_108_method_2_code 1 = .ok (.lconst 0, 1) := by decide +kernel
theorem d6_2 : decode prog_108_method_2_code 2 = .ok (.lcmp, 1) := by decide +kernel
theorem d6_3 : decode prog_108_method_2_code 3 = .ok (.ifCond .ge 9, 3) := by decide +kernel
theorem d6_6 : decode prog_108_method_2_code 6 = .ok (.lload_n 2, 1) := by decide +kernel
theorem d6_7 : decode prog_108_method_2_code 7 = .ok (.lload_n 0, 1) := by decide +kernel
theorem d6_8 : decode prog_108_method_2_code 8 = .ok (.ladd, 1) := by decide +kernel
theorem d6_9 : decode prog_108_method_2_code 9 = .ok (.goto 4, 3) := by decide +kernel
theorem d6_12 : decode prog_108_method_2_code 12 = .ok (.lload_n 0, 1) := by decide +kernel
def own_from (q0 : Int64) (q1 : Int64) : Int64 := (if q0 < (0 : Int64) then (q1 + q0) else q0)
def Q6 (Z : State) (q0 : Int64) (q1 : Int64) (h0 : Heap) (n0 : Nat) (v : Option Value) (h : Heap) (L : List Loc) : Prop := v = some (.long (own_from q0 q1)) ∧ Fr n0 L ∧ h = h0
theorem d6_13 : decode prog_108_method_2_code 13 = .ok (.lreturn, 1) := by decide +kernel
set_option maxRecDepth 65536 in
set_option maxHeartbeats 40000000 in
theorem rm6 (l : Launch) (Z : State) (ag : Array Value) (hw : ∀ d ∈ tables_1, d.before ag Z = true) (ws : List Jvm.Cond) (q0 : Int64) (q1 : Int64) (h0 : Heap) (n0 : Nat) (Z0 : n0 ≤ h0.size) :
    MetFree l (⟨"com/example/needle_in_json/needleinjson/query/Selector", "fromStart", "(JJ)J"⟩ : MethodName) (head1 (Jvm.Cond.code (⟨"com/example/needle_in_json/needleinjson/query/Selector", "fromStart", "(JJ)J"⟩ : MethodName) prog_108_method_2_code 4 (some .long) :: ws) ({ frames := 0, cells := 0, slots := 0, locals := 0 } : Room)) (fun a U => a = #[(.long q0), (.long q1)] ∧ Z.Warmed39 U.vm ∧ U.heap = h0) (fun _ _ _ _ _ => True) (fun _ U o U' => ∃ v L, o = .returned v ∧ Q6 Z q0 q1 h0 n0 v U'.heap L ∧ FrameEnd U o U' L ({ frames := 0, cells := 0, slots := 0, locals := 0 } : Room).cells ({ frames := 0, cells := 0, slots := 0, locals := 0 } : Room).slots) := by
  refine MetFree.of_bodySF (plainFor_of_name pn_1) hisR ?_
  intro p e s m args below meth c s₁ Bd hml0 hP hK
  obtain ⟨rfl, hZ, hh⟩ := hP
  have hx := Bd.exec
  have hby := Bd.bytes
  have hml : c.maxLocals = 4 := hml0
  have hown : s.vm.findClass "com/example/needle_in_json/needleinjson/query/Selector" = some m.cls := findClass_of_methodNamed Bd.named
  have hnm := (name_of_methodNamed Bd.named Bd.method).1
  have X0 : Stand p l e ({ frames := 0, cells := 0, slots := 0, locals := 0 } : Room) s m #[(.long q0), (.long q1)] below meth c s₁ [] 0 0 := Stand.of_body Bd
  have e0 : s₁.heap = h0 := by rw [← hh, Bd.state]; rfl
  have N0 := Fr.nil n0
  have pre0 : ∀ t, Steps p.tables e below (s₁.setTop (mkF m 0 #[.val (.long q0), .second, .val (.long q1), .second] [])) t → Steps p.tables e below (s₁.setTop (entryFrame m #[(.long q0), (.long q1)] 4)) t := fun t k => castTop (ef_6 m q0 q1) k
  obtain ⟨fs, hr, hrun, hended, hW, hsame⟩ := X0.leave (v := some (.long (own_from q0 q1))) (fun h => by rw [Bd.returns] at h; cases h)
  refine ⟨_, _, pre0 _ ?_, hrun, hended, _, _, rfl, ?_, ⟨_, rfl⟩, hW, hsame.mono (by decide) (by decide)⟩
  · show own_S p e below s₁ (mkF m 0 #[.val (.long q0), .second, .val (.long q1), .second] []) _
    refine XS.lloadN X0.here hx rfl (hb hby d6_0) rfl ?_
    show own_S p e below s₁ (mkF m 1 #[.val (.long q0), .second, .val (.long q1), .second] [(.long q0)]) _
    refine XS.lconst X0.here hx rfl (hb hby d6_1) ?_
    show own_S p e below s₁ (mkF m 2 #[.val (.long q0), .second, .val (.long q1), .second] [.long 0, (.long q0)]) _
    refine XS.lcmp X0.here hx rfl (hb hby d6_2) rfl ?_
    by_cases hc1 : q0 < (0 : Int64)
    · show own_S p e below s₁ (mkF m 3 #[.val (.long q0), .second, .val (.long q1), .second] [(.int (lcmpW q0 (0 : Int64)))]) _
      refine XS.ifNo X0.here hx rfl (hb hby d6_3) rfl ((if0 _ _).trans (tlt ((lw_lt q0 (0 : Int64)).mpr hc1)).2.1) ?_
      show own_S p e below s₁ (mkF m 6 #[.val (.long q0), .second, .val (.long q1), .second] []) _
      refine XS.lloadN X0.here hx rfl (hb hby d6_6) rfl ?_
      show own_S p e below s₁ (mkF m 7 #[.val (.long q0), .second, .val (.long q1), .second] [(.long q1)]) _
      refine XS.lloadN X0.here hx rfl (hb hby d6_7) rfl ?_
      show own_S p e below s₁ (mkF m 8 #[.val (.long q0), .second, .val (.long q1), .second] [(.long q0), (.long q1)]) _
      refine XS.ladd X0.here hx rfl (hb hby d6_8) rfl ?_
      show own_S p e below s₁ (mkF m 9 #[.val (.long q0), .second, .val (.long q1), .second] [(.long (q1 + q0))]) _
      refine XS.goto X0.here hx rfl (pc0 := 9) (pc' := 13) rfl (hb hby d6_9) (by decide) (by decide) ?_
      show own_S p e below s₁ (mkF m 13 #[.val (.long q0), .second, .val (.long q1), .second] [(.long (q1 + q0))]) _
      have q : (own_from q0 q1) = (q1 + q0) := by unfold own_from; rw [if_pos hc1]
      have hr := own_cast (P := fun z => ∀ (f : JFrame) (acts : List Action), f.method = m → f.locked = none → f.entered = [] → (doReturn e (s₁.setTop f) acts (some (.long z))).1 = s₁.setFrames fs) q hr
      exact Jvm.RoadKit.retOut X0 hx Bd.returns rfl (Or.inr (Or.inl ⟨rfl, rfl, _, rfl⟩)) (hb hby d6_13) hr
    · show own_S p e below s₁ (mkF m 3 #[.val (.long q0), .second, .val (.long q1), .second] [(.int (lcmpW q0 (0 : Int64)))]) _
      refine XS.ifYes X0.here hx rfl (pc0 := 3) (pc' := 12) rfl (hb hby d6_3) rfl ((if0 _ _).trans (flt (fun q => hc1 ((lw_lt q0 (0 : Int64)).mp q))).2.1) (by decide) (by decide) ?_
      show own_S p e below s₁ (mkF m 12 #[.val (.long q0), .second, .val (.long q1), .second] []) _
      refine XS.lloadN X0.here hx rfl (hb hby d6_12) rfl ?_
      show own_S p e below s₁ (mkF m 13 #[.val (.long q0), .second, .val (.long q1), .second] [(.long q0)]) _
      have q : (own_from q0 q1) = q0 := by unfold own_from; rw [if_neg hc1]
      have hr := own_cast (P := fun z => ∀ (f : JFrame) (acts : List Action), f.method = m → f.locked = none → f.entered = [] → (doReturn e (s₁.setTop f) acts (some (.long z))).1 = s₁.setFrames fs) q hr
      exact Jvm.RoadKit.retOut X0 hx Bd.returns rfl (Or.inr (Or.inl ⟨rfl, rfl, _, rfl⟩)) (hb hby d6_13) hr
  · show Q6 Z q0 q1 h0 n0 _ s₁.heap _
    rw [e0]
    exact ⟨rfl, N0, rfl⟩
theorem pn_4 : plainName "java/lang/Record" = true := by first | (simp [plainName, overriddenIn]; done) | decide +kernel
theorem ef_2 (m : MethodId) (a0 : Addr) : entryFrame m #[(.ref a0)] 1 = mkF m 0 #[.val (.ref a0)] [] := by first | (simp [entryFrame, mkF, argsToLocals, Value.category]; done) | rfl
theorem d2_0 : decode jdk_30_method_1_code 0 = .ok (.aload_n 0, 1) := by decide +kernel
theorem d2_1 : decode jdk_30_method_1_code 1 = .ok (.invokespecial 1, 3) := by decide +kernel
theorem d2_4 : decode jdk_30_method_1_code 4 = .ok (.return_, 1) := by decide +kernel
def Q2 (Z : State) (a0 : Addr) (h0 : Heap) (n0 : Nat) (v : Option Value) (h : Heap) (L : List Loc) : Prop := v = none ∧ Fr n0 L ∧ h = h0
set_option maxRecDepth 65536 in
set_option maxHeartbeats 40000000 in
theorem rm2 (l : Launch) (Z : State) (ag : Array Value) (hw : ∀ d ∈ tables_1, d.before ag Z = true) (ws : List Jvm.Cond) (a0 : Addr) (h0 : Heap) (n0 : Nat) (Z0 : n0 ≤ h0.size) :
    MetFree l (⟨"java/lang/Record", "<init>", "()V"⟩ : MethodName) (head1 (Jvm.Cond.code (⟨"java/lang/Record", "<init>", "()V"⟩ : MethodName) jdk_30_method_1_code 1 none :: ws) ({ frames := 1, cells := 0, slots := 0, locals := 12 } : Room)) (fun a U => a = #[(.ref a0)] ∧ Z.Warmed39 U.vm ∧ U.heap = h0) (fun _ _ _ _ _ => True) (fun _ U o U' => ∃ v L, o = .returned v ∧ Q2 Z a0 h0 n0 v U'.heap L ∧ FrameEnd U o U' L ({ frames := 1, cells := 0, slots := 0, locals := 12 } : Room).cells ({ frames := 1, cells := 0, slots := 0, locals := 12 } : Room).slots) := by
  refine MetFree.of_bodySF (plainFor_of_name pn_4) hisR ?_
  intro p e s m args below meth c s₁ Bd hml0 hP hK
  obtain ⟨rfl, hZ, hh⟩ := hP
  have hx := Bd.exec
  have hby := Bd.bytes
  have hml : c.maxLocals = 1 := hml0
  have hown : s.vm.findClass "java/lang/Record" = some m.cls := findClass_of_methodNamed Bd.named
  have hnm := (name_of_methodNamed Bd.named Bd.method).1
  have X0 : Stand p l e ({ frames := 1, cells := 0, slots := 0, locals := 12 } : Room) s m #[(.ref a0)] below meth c s₁ [] 0 0 := Stand.of_body Bd
  have e0 : s₁.heap = h0 := by rw [← hh, Bd.state]; rfl
  have N0 := Fr.nil n0
  have pre0 : ∀ t, Steps p.tables e below (s₁.setTop (mkF m 0 #[.val (.ref a0)] [])) t → Steps p.tables e below (s₁.setTop (entryFrame m #[(.ref a0)] 1)) t := fun t k => castTop (ef_2 m a0) k
  obtain ⟨T2, X2, e2, st2⟩ := initO X0 hx hZ hown (hw _ (List.mem_of_getElem? (i := 11) rfl)) (hw _ (List.mem_of_getElem? (i := 12) rfl)) (hw _ (List.mem_of_getElem? (i := 13) rfl)) e0 (g := (mkF m 1 #[.val (.ref a0)] [(.ref a0)])) rfl (by rw [hml]; rfl) rfl (hb hby d2_1) (by decide) (W := 0) (by show 2 * 0 + _ ≤ _; exact Nat.le_of_eq rfl) (by decide)
  obtain ⟨fs, hr, hrun, hended, hW, hsame⟩ := X2.leave (v := none) (fun _ => rfl)
  refine ⟨_, _, pre0 _ ?_, hrun, hended, _, _, rfl, ?_, ⟨_, rfl⟩, hW, hsame.mono (by decide) (by decide)⟩
  · show own_S p e below s₁ (mkF m 0 #[.val (.ref a0)] []) _
    refine XS.aloadN X0.here hx rfl (hb hby d2_0) rfl rfl ?_
    show own_S p e below s₁ (mkF m 1 #[.val (.ref a0)] [(.ref a0)]) _
    refine st2 _ ?_
    show own_S p e below T2 (mkF m 4 #[.val (.ref a0)] []) _
    exact X2.returnOut hx Bd.returns (hb hby d2_4) hr
  · show Q2 Z a0 h0 n0 _ T2.heap _
    rw [e2]
    exact ⟨rfl, N0, rfl⟩
theorem pn_2 : plainName "com/example/needle_in_json/needleinjson/query/Selector$Index" = true := by first | (simp [plainName, overriddenIn]; done) | decide +kernel
theorem ef_1 (m : MethodId) (a0 : Addr) (q1 : Int64) : entryFrame m #[(.ref a0), (.long q1)] 3 = mkF m 0 #[.val (.ref a0), .val (.long q1), .second] [] := by first | (simp [entryFrame, mkF, argsToLocals, Value.category]; done) | rfl
theorem d1_0 : decode prog_110_method_1_code 0 = .ok (.aload_n 0, 1) := by decide +kernel
theorem pd_0 : parseMethodDescriptor "()V" = some ⟨[], none⟩ := by decide +kernel
theorem d1_1 : decode prog_110_method_1_code 1 = .ok (.invokespecial 1, 3) := by decide +kernel
theorem d1_4 : decode prog_110_method_1_code 4 = .ok (.aload_n 0, 1) := by decide +kernel
theorem d1_5 : decode prog_110_method_1_code 5 = .ok (.lload_n 1, 1) := by decide +kernel
theorem d1_6 : decode prog_110_method_1_code 6 = .ok (.putfield 7, 3) := by decide +kernel
theorem d1_9 : decode prog_110_method_1_code 9 = .ok (.return_, 1) := by decide +kernel
def Q1 (Z : State) (a0 : Addr) (q1 : Int64) (h0 : Heap) (n0 : Nat) (v : Option Value) (h : Heap) (L : List Loc) : Prop := v = none ∧ Fr n0 L ∧ Keep h0 h [a0] ∧ Exa Z h a0 "com/example/needle_in_json/needleinjson/query/Selector$Index" ∧ Fld Z h a0 "com/example/needle_in_json/needleinjson/query/Selector$Index" "index" "J" (.long q1)
set_option maxRecDepth 65536 in
set_option maxHeartbeats 40000000 in
theorem rm1 (l : Launch) (Z : State) (ag : Array Value) (hw : ∀ d ∈ tables_1, d.before ag Z = true) (ws : List Jvm.Cond) (a0 : Addr) (q1 : Int64) (h0 : Heap) (n0 : Nat) (Z0 : n0 ≤ h0.size) (E_a0 : Exa Z h0 a0 "com/example/needle_in_json/needleinjson/query/Selector$Index") (F_index_a0 : Fld Z h0 a0 "com/example/needle_in_json/needleinjson/query/Selector$Index" "index" "J" (.long (0 : Int64))) (ge_a0 : n0 ≤ a0) :
    MetFree l (⟨"com/example/needle_in_json/needleinjson/query/Selector$Index", "<init>", "(J)V"⟩ : MethodName) (head1 (Jvm.Cond.code (⟨"com/example/needle_in_json/needleinjson/query/Selector$Index", "<init>", "(J)V"⟩ : MethodName) prog_110_method_1_code 3 none :: ws) ({ frames := 2, cells := 0, slots := 0, locals := 24 } : Room)) (fun a U => a = #[(.ref a0), (.long q1)] ∧ Z.Warmed39 U.vm ∧ U.heap = h0) (fun _ _ _ _ _ => True) (fun _ U o U' => ∃ v L, o = .returned v ∧ Q1 Z a0 q1 h0 n0 v U'.heap L ∧ FrameEnd U o U' L ({ frames := 2, cells := 0, slots := 0, locals := 24 } : Room).cells ({ frames := 2, cells := 0, slots := 0, locals := 24 } : Room).slots) := by
  refine MetFree.of_bodySF (plainFor_of_name pn_2) hisR ?_
  intro p e s m args below meth c s₁ Bd hml0 hP hK
  obtain ⟨rfl, hZ, hh⟩ := hP
  have hx := Bd.exec
  have hby := Bd.bytes
  have hml : c.maxLocals = 3 := hml0
  have hown : s.vm.findClass "com/example/needle_in_json/needleinjson/query/Selector$Index" = some m.cls := findClass_of_methodNamed Bd.named
  have hnm := (name_of_methodNamed Bd.named Bd.method).1
  have X0 : Stand p l e ({ frames := 2, cells := 0, slots := 0, locals := 24 } : Room) s m #[(.ref a0), (.long q1)] below meth c s₁ [] 0 0 := Stand.of_body Bd
  have e0 : s₁.heap = h0 := by rw [← hh, Bd.state]; rfl
  have N0 := Fr.nil n0
  have pre0 : ∀ t, Steps p.tables e below (s₁.setTop (mkF m 0 #[.val (.ref a0), .val (.long q1), .second] [])) t → Steps p.tables e below (s₁.setTop (entryFrame m #[(.ref a0), (.long q1)] 3)) t := fun t k => castTop (ef_1 m a0 q1) k
  obtain ⟨_, _, ⟨T3, L3, k3, n3⟩, -, X3, ⟨Lc3, hQ3, l3, y3, z3⟩, st3⟩ := X0.specialBack hx (y := (⟨"java/lang/Record", "<init>", "()V"⟩ : MethodName)) rfl hown (mvT hZ (hw _ (List.mem_of_getElem? (i := 6) rfl))) (mvT hZ (hw _ (List.mem_of_getElem? (i := 7) rfl))) (mvT hZ (hw _ (List.mem_of_getElem? (i := 10) rfl))) (by decide) (backOf (W := 0) (rm2 l Z ag hw [] a0  h0 n0 Z0 ) hZ (hw _ (List.mem_of_getElem? (i := 10) rfl)) (hw _ (List.mem_of_getElem? (i := 9) rfl)) (by decide) (by decide)) (g := (mkF m 1 #[.val (.ref a0), .val (.long q1), .second] [(.ref a0)])) rfl (by rw [hml]; rfl) (Steps.refl _) (a := a0) (argsL := []) (rest := []) (lenOf pd_0 rfl) rfl (by show 2 * 0 + _ ≤ _; exact Nat.le_of_eq rfl) (hb hby d1_1) (fun _ _ => ⟨rfl, e0, (by decide : 0 + 0 ≤ _), (by decide : 0 + 0 ≤ _)⟩)
  dsimp only [Pt.U, Pt.locs, Pt.cells, Pt.slots] at X3 l3 y3 z3 st3 hQ3
  subst l3 y3 z3
  obtain ⟨rfl, N3q, e3⟩ := hQ3
  have N3 := Fr.app N0 N3q
  obtain ⟨T4, h4, X4, e4, W4, st4⟩ := putF X3 hx hZ hown (host := "") (Or.inl (hw _ (List.mem_of_getElem? (i := 14) rfl))) Via.refl e3 F_index_a0 E_a0 (Or.inr ⟨(hw _ (List.mem_of_getElem? (i := 15) rfl)), rfl, hnm⟩) (hw _ (List.mem_of_getElem? (i := 1) rfl)) (ty := .long) (by decide) rfl rfl (g := (mkF m 6 #[.val (.ref a0), .val (.long q1), .second] [(.long q1), (.ref a0)])) rfl rfl (hb hby d1_6)
  have Fw4 := F_index_a0.same W4
  have x5 := E_a0.wr W4
  have sz6 : n0 ≤ h4.size := Nat.le_trans Z0 (Keep.of_wr W4).1
  have kp7 : Keep h0 h4 [a0] := (Keep.refl h0 [a0]).wr W4 (Or.inl (List.mem_of_getElem? (i := 0) rfl))
  have N4 := Fr.snoc X4 N3 ge_a0
  obtain ⟨fs, hr, hrun, hended, hW, hsame⟩ := X4.leave (v := none) (fun _ => rfl)
  refine ⟨_, _, pre0 _ ?_, hrun, hended, _, _, rfl, ?_, ⟨_, rfl⟩, hW, hsame.mono (by decide) (by decide)⟩
  · show own_S p e below s₁ (mkF m 0 #[.val (.ref a0), .val (.long q1), .second] []) _
    refine XS.aloadN X0.here hx rfl (hb hby d1_0) rfl rfl ?_
    show own_S p e below s₁ (mkF m 1 #[.val (.ref a0), .val (.long q1), .second] [(.ref a0)]) _
    refine st3.trans ?_
    show own_S p e below T3 (mkF m 4 #[.val (.ref a0), .val (.long q1), .second] []) _
    refine XS.aloadN X3.here hx rfl (hb hby d1_4) rfl rfl ?_
    show own_S p e below T3 (mkF m 5 #[.val (.ref a0), .val (.long q1), .second] [(.ref a0)]) _
    refine XS.lloadN X3.here hx rfl (hb hby d1_5) rfl ?_
    show own_S p e below T3 (mkF m 6 #[.val (.ref a0), .val (.long q1), .second] [(.long q1), (.ref a0)]) _
    refine st4 _ ?_
    show own_S p e below T4 (mkF m 9 #[.val (.ref a0), .val (.long q1), .second] []) _
    exact X4.returnOut hx Bd.returns (hb hby d1_9) hr
  · show Q1 Z a0 q1 h0 n0 _ T4.heap _
    rw [e4]
    exact ⟨rfl, N4, kp7, x5, Fw4⟩
theorem ef_5 (m : MethodId) (a0 : Addr) (q1 : Int64) : entryFrame m #[(.ref a0), (.long q1)] 3 = mkF m 0 #[.val (.ref a0), .val (.long q1), .second] [] := by first | (simp [entryFrame, mkF, argsToLocals, Value.category]; done) | rfl
theorem d5_0 : decode prog_110_method_3_code 0 = .ok (.aload_n 0, 1) := by decide +kernel
theorem d5_1 : decode prog_110_method_3_code 1 = .ok (.getfield 7, 3) := by decide +kernel
theorem d5_4 : decode prog_110_method_3_code 4 = .ok (.lload_n 1, 1) := by decide +kernel
theorem pd_3 : parseMethodDescriptor "(JJ)J" = some ⟨[.long, .long], some .long⟩ := by decide +kernel
theorem d5_5 : decode prog_110_method_3_code 5 = .ok (.invokestatic 13, 3) := by decide +kernel
theorem d5_8 : decode prog_110_method_3_code 8 = .ok (.lreturn, 1) := by decide +kernel
def Q5 (Z : State) (a0 : Addr) (q1 : Int64) (ix : Int64) (h0 : Heap) (n0 : Nat) (v : Option Value) (h : Heap) (L : List Loc) : Prop := v = some (.long (own_from ix q1)) ∧ Fr n0 L ∧ h = h0
set_option maxRecDepth 65536 in
set_option maxHeartbeats 40000000 in
theorem rm5 (l : Launch) (Z : State) (ag : Array Value) (hw : ∀ d ∈ tables_1, d.before ag Z = true) (ws : List Jvm.Cond) (a0 : Addr) (q1 : Int64) (ix : Int64) (h0 : Heap) (n0 : Nat) (Z0 : n0 ≤ h0.size) (F_index_a0 : Fld Z h0 a0 "com/example/needle_in_json/needleinjson/query/Selector$Index" "index" "J" (.long ix)) :
    MetFree l (⟨"com/example/needle_in_json/needleinjson/query/Selector$Index", "position", "(J)J"⟩ : MethodName) (head1 (Jvm.Cond.code (⟨"com/example/needle_in_json/needleinjson/query/Selector$Index", "position", "(J)J"⟩ : MethodName) prog_110_method_3_code 3 (some .long) :: ws) ({ frames := 1, cells := 0, slots := 0, locals := 15 } : Room)) (fun a U => a = #[(.ref a0), (.long q1)] ∧ Z.Warmed39 U.vm ∧ U.heap = h0) (fun _ _ _ _ _ => True) (fun _ U o U' => ∃ v L, o = .returned v ∧ Q5 Z a0 q1 ix h0 n0 v U'.heap L ∧ FrameEnd U o U' L ({ frames := 1, cells := 0, slots := 0, locals := 15 } : Room).cells ({ frames := 1, cells := 0, slots := 0, locals := 15 } : Room).slots) := by
  refine MetFree.of_bodySF (plainFor_of_name pn_2) hisR ?_
  intro p e s m args below meth c s₁ Bd hml0 hP hK
  obtain ⟨rfl, hZ, hh⟩ := hP
  have hx := Bd.exec
  have hby := Bd.bytes
  have hml : c.maxLocals = 3 := hml0
  have hown : s.vm.findClass "com/example/needle_in_json/needleinjson/query/Selector$Index" = some m.cls := findClass_of_methodNamed Bd.named
  have hnm := (name_of_methodNamed Bd.named Bd.method).1
  have X0 : Stand p l e ({ frames := 1, cells := 0, slots := 0, locals := 15 } : Room) s m #[(.ref a0), (.long q1)] below meth c s₁ [] 0 0 := Stand.of_body Bd
  have e0 : s₁.heap = h0 := by rw [← hh, Bd.state]; rfl
  have N0 := Fr.nil n0
  have pre0 : ∀ t, Steps p.tables e below (s₁.setTop (mkF m 0 #[.val (.ref a0), .val (.long q1), .second] [])) t → Steps p.tables e below (s₁.setTop (entryFrame m #[(.ref a0), (.long q1)] 3)) t := fun t k => castTop (ef_5 m a0 q1) k
  obtain ⟨T8, X8, e8, st8⟩ := getF X0 hx hZ hown (host := "") (Or.inl (hw _ (List.mem_of_getElem? (i := 14) rfl))) Via.refl e0 F_index_a0 (g := (mkF m 1 #[.val (.ref a0), .val (.long q1), .second] [(.ref a0)])) rfl rfl (hb hby d5_1)
  obtain ⟨_, _, ⟨T9, L9, k9, n9⟩, -, X9, ⟨Lc9, hQ9, l9, y9, z9⟩, st9⟩ := callSN X8 hx (y := (⟨"com/example/needle_in_json/needleinjson/query/Selector", "fromStart", "(JJ)J"⟩ : MethodName)) hown (Cond.methodLinkNest_wide hZ (hw _ (List.mem_of_getElem? (i := 26) rfl)) :) (mvT hZ (hw _ (List.mem_of_getElem? (i := 27) rfl))) (mvT hZ (hw _ (List.mem_of_getElem? (i := 28) rfl))) (mvT hZ (hw _ (List.mem_of_getElem? (i := 29) rfl))) (by decide) (backOf (W := 0) (rm6 l Z ag hw [] ix q1  h0 n0 Z0 ) hZ (hw _ (List.mem_of_getElem? (i := 29) rfl)) (hw _ (List.mem_of_getElem? (i := 28) rfl)) (by decide) (by decide)) (g := (mkF m 5 #[.val (.ref a0), .val (.long q1), .second] [(.long q1), (.long ix)])) rfl (by rw [hml]; rfl) (argsL := [(.long ix), (.long q1)]) (rest := []) (lenOf pd_3 rfl) rfl (by show 2 * 0 + _ ≤ _; exact Nat.le_of_eq rfl) (hb hby d5_5) (fun _ _ => ⟨rfl, e8, (by decide : 0 + 0 ≤ _), (by decide : 0 + 0 ≤ _)⟩)
  dsimp only [Pt.U, Pt.locs, Pt.cells, Pt.slots] at X9 l9 y9 z9 st9 hQ9
  subst l9 y9 z9
  obtain ⟨rfl, N9q, e9⟩ := hQ9
  have N9 := Fr.app N0 N9q
  obtain ⟨fs, hr, hrun, hended, hW, hsame⟩ := X9.leave (v := some (.long (own_from ix q1))) (fun h => by rw [Bd.returns] at h; cases h)
  refine ⟨_, _, pre0 _ ?_, hrun, hended, _, _, rfl, ?_, ⟨_, rfl⟩, hW, hsame.mono (by decide) (by decide)⟩
  · show own_S p e below s₁ (mkF m 0 #[.val (.ref a0), .val (.long q1), .second] []) _
    refine XS.aloadN X0.here hx rfl (hb hby d5_0) rfl rfl ?_
    show own_S p e below s₁ (mkF m 1 #[.val (.ref a0), .val (.long q1), .second] [(.ref a0)]) _
    refine st8 _ ?_
    show own_S p e below T8 (mkF m 4 #[.val (.ref a0), .val (.long q1), .second] [(.long ix)]) _
    refine XS.lloadN X8.here hx rfl (hb hby d5_4) rfl ?_
    show own_S p e below T8 (mkF m 5 #[.val (.ref a0), .val (.long q1), .second] [(.long q1), (.long ix)]) _
    refine st9.trans ?_
    show own_S p e below T9 (mkF m 8 #[.val (.ref a0), .val (.long q1), .second] [(.long (own_from ix q1))]) _
    exact Jvm.RoadKit.retOut X9 hx Bd.returns rfl (Or.inr (Or.inl ⟨rfl, rfl, _, rfl⟩)) (hb hby d5_8) hr
  · show Q5 Z a0 q1 ix h0 n0 _ T9.heap _
    rw [e9]
    exact ⟨rfl, N9, rfl⟩
def own_picks (ix q1 q2 : Int64) : Int32 := if own_from ix q2 = q1 then 1 else 0
theorem ef_4 (m : MethodId) (a0 : Addr) (q1 : Int64) (q2 : Int64) : entryFrame m #[(.ref a0), (.long q1), (.long q2)] 5 = mkF m 0 #[.val (.ref a0), .val (.long q1), .second, .val (.long q2), .second] [] := by first | (simp [entryFrame, mkF, argsToLocals, Value.category]; done) | rfl
theorem d4_0 : decode prog_110_method_4_code 0 = .ok (.aload_n 0, 1) := by decide +kernel
theorem d4_1 : decode prog_110_method_4_code 1 = .ok (.lload_n 3, 1) := by decide +kernel
theorem pd_1 : parseMethodDescriptor "(J)J" = some ⟨[.long], some .long⟩ := by decide +kernel
theorem d4_2 : decode prog_110_method_4_code 2 = .ok (.invokevirtual 19, 3) := by decide +kernel
theorem d4_5 : decode prog_110_method_4_code 5 = .ok (.lload_n 1, 1) := by decide +kernel
theorem d4_6 : decode prog_110_method_4_code 6 = .ok (.lcmp, 1) := by decide +kernel
theorem d4_7 : decode prog_110_method_4_code 7 = .ok (.ifCond .ne 7, 3) := by decide +kernel
theorem d4_10 : decode prog_110_method_4_code 10 = .ok (.iconst 1, 1) := by decide +kernel
theorem d4_11 : decode prog_110_method_4_code 11 = .ok (.goto 4, 3) := by decide +kernel
theorem d4_15 : decode prog_110_method_4_code 15 = .ok (.ireturn, 1) := by decide +kernel
theorem d4_14 : decode prog_110_method_4_code 14 = .ok (.iconst 0, 1) := by decide +kernel
def Q4 (Z : State) (a0 : Addr) (q1 : Int64) (q2 : Int64) (ix : Int64) (h0 : Heap) (n0 : Nat) (v : Option Value) (h : Heap) (L : List Loc) : Prop := v = some (.int (own_picks ix q1 q2)) ∧ Fr n0 L ∧ h = h0
set_option maxRecDepth 65536 in
set_option maxHeartbeats 40000000 in
theorem rm4 (l : Launch) (Z : State) (ag : Array Value) (hw : ∀ d ∈ tables_1, d.before ag Z = true) (ws : List Jvm.Cond) (a0 : Addr) (q1 : Int64) (q2 : Int64) (ix : Int64) (h0 : Heap) (n0 : Nat) (Z0 : n0 ≤ h0.size) (E_a0 : Exa Z h0 a0 "com/example/needle_in_json/needleinjson/query/Selector$Index") (F_index_a0 : Fld Z h0 a0 "com/example/needle_in_json/needleinjson/query/Selector$Index" "index" "J" (.long ix)) :
    MetFree l (⟨"com/example/needle_in_json/needleinjson/query/Selector$Index", "picks", "(JJ)Z"⟩ : MethodName) (head1 (Jvm.Cond.code (⟨"com/example/needle_in_json/needleinjson/query/Selector$Index", "picks", "(JJ)Z"⟩ : MethodName) prog_110_method_4_code 5 (some .boolean) :: ws) ({ frames := 2, cells := 0, slots := 0, locals := 29 } : Room)) (fun a U => a = #[(.ref a0), (.long q1), (.long q2)] ∧ Z.Warmed39 U.vm ∧ U.heap = h0) (fun _ _ _ _ _ => True) (fun _ U o U' => ∃ v L, o = .returned v ∧ Q4 Z a0 q1 q2 ix h0 n0 v U'.heap L ∧ FrameEnd U o U' L ({ frames := 2, cells := 0, slots := 0, locals := 29 } : Room).cells ({ frames := 2, cells := 0, slots := 0, locals := 29 } : Room).slots) := by
  refine MetFree.of_bodySF (plainFor_of_name pn_2) hisR ?_
  intro p e s m args below meth c s₁ Bd hml0 hP hK
  obtain ⟨rfl, hZ, hh⟩ := hP
  have hx := Bd.exec
  have hby := Bd.bytes
  have hml : c.maxLocals = 5 := hml0
  have hown : s.vm.findClass "com/example/needle_in_json/needleinjson/query/Selector$Index" = some m.cls := findClass_of_methodNamed Bd.named
  have hnm := (name_of_methodNamed Bd.named Bd.method).1
  have X0 : Stand p l e ({ frames := 2, cells := 0, slots := 0, locals := 29 } : Room) s m #[(.ref a0), (.long q1), (.long q2)] below meth c s₁ [] 0 0 := Stand.of_body Bd
  have e0 : s₁.heap = h0 := by rw [← hh, Bd.state]; rfl
  have N0 := Fr.nil n0
  have pre0 : ∀ t, Steps p.tables e below (s₁.setTop (mkF m 0 #[.val (.ref a0), .val (.long q1), .second, .val (.long q2), .second] [])) t → Steps p.tables e below (s₁.setTop (entryFrame m #[(.ref a0), (.long q1), (.long q2)] 5)) t := fun t k => castTop (ef_4 m a0 q1 q2) k
  obtain ⟨cq10, kq10, q10a, q10b, q10c⟩ := isOf hZ e0 E_a0
  obtain ⟨_, _, ⟨T10, L10, k10, n10⟩, -, X10, ⟨Lc10, hQ10, l10, y10, z10⟩, st10⟩ := X0.virtualBack hx (y := (⟨"com/example/needle_in_json/needleinjson/query/Selector$Index", "position", "(J)J"⟩ : MethodName)) (z := (⟨"com/example/needle_in_json/needleinjson/query/Selector$Index", "position", "(J)J"⟩ : MethodName)) hown (mvT hZ (hw _ (List.mem_of_getElem? (i := 21) rfl))) (mvT hZ (hw _ (List.mem_of_getElem? (i := 22) rfl))) (notFace_of_selects (args := #[]) (mvT hZ (hw _ (List.mem_of_getElem? (i := 24) rfl)))) (mvT hZ (hw _ (List.mem_of_getElem? (i := 24) rfl))) (mvT hZ (hw _ (List.mem_of_getElem? (i := 23) rfl))) (by decide) (backOf (W := 0) (rm5 l Z ag hw [] a0 q2 ix h0 n0 Z0 F_index_a0) hZ (hw _ (List.mem_of_getElem? (i := 25) rfl)) (hw _ (List.mem_of_getElem? (i := 2) rfl)) (by decide) (by decide)) q10a q10c (g := (mkF m 2 #[.val (.ref a0), .val (.long q1), .second, .val (.long q2), .second] [(.long q2), (.ref a0)])) rfl (by rw [hml]; rfl) (Steps.refl _) (argsL := [(.long q2)]) (rest := []) (lenOf pd_1 rfl) rfl (by show 2 * 0 + _ ≤ _; exact Nat.le_of_eq rfl) (hb hby d4_2) (fun _ _ => ⟨rfl, e0, (by decide : 0 + 0 ≤ _), (by decide : 0 + 0 ≤ _)⟩)
  dsimp only [Pt.U, Pt.locs, Pt.cells, Pt.slots] at X10 l10 y10 z10 st10 hQ10
  subst l10 y10 z10
  obtain ⟨rfl, N10q, e10⟩ := hQ10
  have N10 := Fr.app N0 N10q
  have cp12 : ∀ target, own_S p e below T10 (mkF m 7 #[.val (.ref a0), .val (.long q1), .second, .val (.long q2), .second] [(.int (lcmpW (own_from ix q2) q1))]) target → own_S p e below s₁ (mkF m 0 #[.val (.ref a0), .val (.long q1), .second, .val (.long q2), .second] []) target := by
    intro target kt
    show own_S p e below s₁ (mkF m 0 #[.val (.ref a0), .val (.long q1), .second, .val (.long q2), .second] []) _
    refine XS.aloadN X0.here hx rfl (hb hby d4_0) rfl rfl ?_
    show own_S p e below s₁ (mkF m 1 #[.val (.ref a0), .val (.long q1), .second, .val (.long q2), .second] [(.ref a0)]) _
    refine XS.lloadN X0.here hx rfl (hb hby d4_1) rfl ?_
    show own_S p e below s₁ (mkF m 2 #[.val (.ref a0), .val (.long q1), .second, .val (.long q2), .second] [(.long q2), (.ref a0)]) _
    refine st10.trans ?_
    show own_S p e below T10 (mkF m 5 #[.val (.ref a0), .val (.long q1), .second, .val (.long q2), .second] [(.long (own_from ix q2))]) _
    refine XS.lloadN X10.here hx rfl (hb hby d4_5) rfl ?_
    show own_S p e below T10 (mkF m 6 #[.val (.ref a0), .val (.long q1), .second, .val (.long q2), .second] [(.long q1), (.long (own_from ix q2))]) _
    refine XS.lcmp X10.here hx rfl (hb hby d4_6) rfl ?_
    exact kt
  by_cases hc11 : (own_from ix q2) = q1
  · obtain ⟨fs, hr, hrun, hended, hW, hsame⟩ := X10.leave (v := some (.int (1 : Int32))) (fun h => by rw [Bd.returns] at h; cases h)
    refine ⟨_, _, pre0 _ ?_, hrun, hended, _, _, rfl, ?_, ⟨_, rfl⟩, hW, hsame.mono (by decide) (by decide)⟩
    · show own_S p e below s₁ (mkF m 0 #[.val (.ref a0), .val (.long q1), .second, .val (.long q2), .second] []) _
      refine cp12 _ ?_
      show own_S p e below T10 (mkF m 7 #[.val (.ref a0), .val (.long q1), .second, .val (.long q2), .second] [(.int (lcmpW (own_from ix q2) q1))]) _
      refine XS.ifNo X10.here hx rfl (hb hby d4_7) rfl ((if0 _ _).trans (teq ((lw_eq (own_from ix q2) q1).mpr hc11)).2) ?_
      show own_S p e below T10 (mkF m 10 #[.val (.ref a0), .val (.long q1), .second, .val (.long q2), .second] []) _
      refine XS.iconst X10.here hx rfl (hb hby d4_10) ?_
      show own_S p e below T10 (mkF m 11 #[.val (.ref a0), .val (.long q1), .second, .val (.long q2), .second] [.int 1]) _
      refine XS.goto X10.here hx rfl (pc0 := 11) (pc' := 15) rfl (hb hby d4_11) (by decide) (by decide) ?_
      show own_S p e below T10 (mkF m 15 #[.val (.ref a0), .val (.long q1), .second, .val (.long q2), .second] [.int 1]) _
      exact retN X10 hx (t := .boolean) Bd.returns (by simp) (hb hby d4_15) hr
    · show Q4 Z a0 q1 q2 ix h0 n0 _ T10.heap _
      rw [e10]
      exact ⟨congrArg (fun z => some (Value.int z)) (show _ = own_picks ix q1 q2 from by unfold own_picks; rw [if_pos hc11]), N10, rfl⟩
  · obtain ⟨fs, hr, hrun, hended, hW, hsame⟩ := X10.leave (v := some (.int (0 : Int32))) (fun h => by rw [Bd.returns] at h; cases h)
    refine ⟨_, _, pre0 _ ?_, hrun, hended, _, _, rfl, ?_, ⟨_, rfl⟩, hW, hsame.mono (by decide) (by decide)⟩
    · show own_S p e below s₁ (mkF m 0 #[.val (.ref a0), .val (.long q1), .second, .val (.long q2), .second] []) _
      refine cp12 _ ?_
      show own_S p e below T10 (mkF m 7 #[.val (.ref a0), .val (.long q1), .second, .val (.long q2), .second] [(.int (lcmpW (own_from ix q2) q1))]) _
      refine XS.ifYes X10.here hx rfl (pc0 := 7) (pc' := 14) rfl (hb hby d4_7) rfl ((if0 _ _).trans (feq (fun q => hc11 ((lw_eq (own_from ix q2) q1).mp q))).2) (by decide) (by decide) ?_
      show own_S p e below T10 (mkF m 14 #[.val (.ref a0), .val (.long q1), .second, .val (.long q2), .second] []) _
      refine XS.iconst X10.here hx rfl (hb hby d4_14) ?_
      show own_S p e below T10 (mkF m 15 #[.val (.ref a0), .val (.long q1), .second, .val (.long q2), .second] [.int 0]) _
      exact retN X10 hx (t := .boolean) Bd.returns (by simp) (hb hby d4_15) hr
    · show Q4 Z a0 q1 q2 ix h0 n0 _ T10.heap _
      rw [e10]
      exact ⟨congrArg (fun z => some (Value.int z)) (show _ = own_picks ix q1 q2 from by unfold own_picks; rw [if_neg hc11]), N10, rfl⟩
theorem own_sub_iff (a b c : Int64) : b + c = a ↔ a - b = c := by
  constructor
  · rintro rfl; rw [Int64.add_comm, Int64.add_sub_cancel]
  · rintro rfl; rw [Int64.add_comm, Int64.sub_add_cancel]
theorem own_p1 (q0 q1 q2 : Int64) (h : q0 < 0) (k : (q1 - q2) = q0) : own_picks q0 q1 q2 = 1 := by
  unfold own_picks own_from; rw [if_pos h, if_pos ((own_sub_iff _ _ _).mpr k)]
theorem own_p2 (q0 q1 q2 : Int64) (h : q0 < 0) (k : ¬ (q1 - q2) = q0) : own_picks q0 q1 q2 = 0 := by
  unfold own_picks own_from; rw [if_pos h, if_neg (fun z => k ((own_sub_iff _ _ _).mp z))]
theorem own_p3 (q0 q1 q2 : Int64) (h : ¬ q0 < 0) (k : q1 = q0) : own_picks q0 q1 q2 = 1 := by
  unfold own_picks own_from; rw [if_neg h, if_pos k.symm]
theorem own_p4 (q0 q1 q2 : Int64) (h : ¬ q0 < 0) (k : ¬ q1 = q0) : own_picks q0 q1 q2 = 0 := by
  unfold own_picks own_from; rw [if_neg h, if_neg (fun z => k z.symm)]
theorem own_d (q0 q1 d : Int64) : q1 - ((q1 - q0) + d) = q0 ↔ d = 0 := by
  rw [← own_sub_iff]
  have e : q1 - q0 + d + q0 = q1 + d := by rw [Int64.add_assoc, Int64.add_comm d q0, ← Int64.add_assoc, Int64.sub_add_cancel]
  rw [e]
  constructor
  · intro h; have := congrArg (· - q1) h; simpa [Int64.add_comm q1 d, Int64.add_sub_cancel] using this
  · rintro rfl; exact Int64.add_zero _
theorem own_d' (q0 d : Int64) : q0 + d = q0 ↔ d = 0 := by
  constructor
  · intro h; have := congrArg (· - q0) h; simpa [Int64.add_comm q0 d, Int64.add_sub_cancel] using this
  · rintro rfl; exact Int64.add_zero _
theorem pn_0 : plainName "com/example/needle_in_json/needleinjson/query/IndexPicksPinLaw" = true := by first | (simp [plainName, overriddenIn]; done) | decide +kernel
theorem ef_0 (m : MethodId) (q0 : Int64) (q1 : Int64) (q2 : Int64) (p3 : Int32) : entryFrame m #[(.long q0), (.long q1), (.long q2), (.int p3)] maxLocals = mkF m 0 #[.val (.long q0), .second, .val (.long q1), .second, .val (.long q2), .second, .val (.int p3), .unset, .unset, .unset, .unset, .unset, .unset, .unset, .unset] [] := by first | (simp [entryFrame, mkF, argsToLocals, Value.category, maxLocals]; done) | rfl
abbrev own_loc1 (q0 : Int64) (q1 : Int64) (q2 : Int64) (p3 : Int32) : Array Slot := #[.val (.long q0), .second, .val (.long q1), .second, .val (.long q2), .second, .val (.int p3), .unset, .unset, .unset, .unset, .unset, .unset, .unset, .unset]
theorem pd_2 : parseMethodDescriptor "(J)V" = some ⟨[.long], none⟩ := by decide +kernel
abbrev own_loc2 (q0 : Int64) (q1 : Int64) (q2 : Int64) (p3 : Int32) (b13 : Addr) : Array Slot := #[.val (.long q0), .second, .val (.long q1), .second, .val (.long q2), .second, .val (.int p3), .val (.ref b13), .unset, .unset, .unset, .unset, .unset, .unset, .unset]
abbrev own_loc3 (q0 : Int64) (q1 : Int64) (q2 : Int64) (p3 : Int32) (b13 : Addr) : Array Slot := #[.val (.long q0), .second, .val (.long q1), .second, .val (.long q2), .second, .val (.int p3), .val (.ref b13), .val (.long q1), .second, .unset, .unset, .unset, .unset, .unset]
abbrev own_loc4 (q0 : Int64) (q1 : Int64) (q2 : Int64) (p3 : Int32) (b13 : Addr) : Array Slot := #[.val (.long q0), .second, .val (.long q1), .second, .val (.long q2), .second, .val (.int p3), .val (.ref b13), .val (.long q1), .second, .val (.long q2), .second, .unset, .unset, .unset]
abbrev own_loc5 (q0 : Int64) (q1 : Int64) (q2 : Int64) (p3 : Int32) (b13 : Addr) : Array Slot := #[.val (.long q0), .second, .val (.long q1), .second, .val (.long q2), .second, .val (.int p3), .val (.ref b13), .val (.long q1), .second, .val (.long q2), .second, .val (.int 1), .unset, .unset]
theorem pd_4 : parseMethodDescriptor "(JJ)Z" = some ⟨[.long, .long], some .boolean⟩ := by decide +kernel
abbrev own_loc6 (q0 : Int64) (q1 : Int64) (q2 : Int64) (p3 : Int32) (b13 : Addr) : Array Slot := #[.val (.long q0), .second, .val (.long q1), .second, .val (.long q2), .second, .val (.int p3), .val (.ref b13), .val (.long q1), .second, .val (.long q2), .second, .val (.int 0), .unset, .unset]
abbrev own_loc7 (q0 : Int64) (q1 : Int64) (q2 : Int64) (p3 : Int32) (b13 : Addr) : Array Slot := #[.val (.long q0), .second, .val (.long q1), .second, .val (.long q2), .second, .val (.int p3), .val (.ref b13), .val (.long q1), .second, .val (.long q2), .second, .unset, .val (.long ((((own_ushr p3 (1 : Int32)) % (3 : Int32)).toInt64) - (1 : Int64))), .second]
abbrev own_loc8 (q0 : Int64) (q1 : Int64) (q2 : Int64) (p3 : Int32) (b13 : Addr) : Array Slot := #[.val (.long q0), .second, .val (.long q1), .second, .val (.long q2), .second, .val (.int p3), .val (.ref b13), .val (.long q1), .second, .val (.long ((q1 - q0) + ((((own_ushr p3 (1 : Int32)) % (3 : Int32)).toInt64) - (1 : Int64)))), .second, .unset, .val (.long ((((own_ushr p3 (1 : Int32)) % (3 : Int32)).toInt64) - (1 : Int64))), .second]
abbrev own_loc9 (q0 : Int64) (q1 : Int64) (q2 : Int64) (p3 : Int32) (b13 : Addr) : Array Slot := #[.val (.long q0), .second, .val (.long q1), .second, .val (.long q2), .second, .val (.int p3), .val (.ref b13), .val (.long q1), .second, .val (.long ((q1 - q0) + ((((own_ushr p3 (1 : Int32)) % (3 : Int32)).toInt64) - (1 : Int64)))), .second, .val (.int 1), .val (.long ((((own_ushr p3 (1 : Int32)) % (3 : Int32)).toInt64) - (1 : Int64))), .second]
abbrev own_loc10 (q0 : Int64) (q1 : Int64) (q2 : Int64) (p3 : Int32) (b13 : Addr) : Array Slot := #[.val (.long q0), .second, .val (.long q1), .second, .val (.long q2), .second, .val (.int p3), .val (.ref b13), .val (.long q1), .second, .val (.long ((q1 - q0) + ((((own_ushr p3 (1 : Int32)) % (3 : Int32)).toInt64) - (1 : Int64)))), .second, .val (.int 0), .val (.long ((((own_ushr p3 (1 : Int32)) % (3 : Int32)).toInt64) - (1 : Int64))), .second]
abbrev own_loc11 (q0 : Int64) (q1 : Int64) (q2 : Int64) (p3 : Int32) (b13 : Addr) : Array Slot := #[.val (.long q0), .second, .val (.long q1), .second, .val (.long q2), .second, .val (.int p3), .val (.ref b13), .val (.long (q0 + ((((own_ushr p3 (1 : Int32)) % (3 : Int32)).toInt64) - (1 : Int64)))), .second, .val (.long q2), .second, .unset, .val (.long ((((own_ushr p3 (1 : Int32)) % (3 : Int32)).toInt64) - (1 : Int64))), .second]
abbrev own_loc12 (q0 : Int64) (q1 : Int64) (q2 : Int64) (p3 : Int32) (b13 : Addr) : Array Slot := #[.val (.long q0), .second, .val (.long q1), .second, .val (.long q2), .second, .val (.int p3), .val (.ref b13), .val (.long (q0 + ((((own_ushr p3 (1 : Int32)) % (3 : Int32)).toInt64) - (1 : Int64)))), .second, .val (.long q2), .second, .val (.int 1), .val (.long ((((own_ushr p3 (1 : Int32)) % (3 : Int32)).toInt64) - (1 : Int64))), .second]
abbrev own_loc13 (q0 : Int64) (q1 : Int64) (q2 : Int64) (p3 : Int32) (b13 : Addr) : Array Slot := #[.val (.long q0), .second, .val (.long q1), .second, .val (.long q2), .second, .val (.int p3), .val (.ref b13), .val (.long (q0 + ((((own_ushr p3 (1 : Int32)) % (3 : Int32)).toInt64) - (1 : Int64)))), .second, .val (.long q2), .second, .val (.int 0), .val (.long ((((own_ushr p3 (1 : Int32)) % (3 : Int32)).toInt64) - (1 : Int64))), .second]
def Q0 (n0 : Nat) (v : Option Value) (h : Heap) (L : List Loc) : Prop := v = some (.int 1) ∧ Fr n0 L
set_option maxRecDepth 65536 in
set_option maxHeartbeats 40000000 in
theorem rm0 (l : Launch) (Z : State) (ag : Array Value) (hw : ∀ d ∈ tables_1, d.before ag Z = true) (ws : List Jvm.Cond) (q0 : Int64) (q1 : Int64) (q2 : Int64) (p3 : Int32) (h0 : Heap) (n0 : Nat) (Z0 : n0 ≤ h0.size) :
    MetFree l x (head1 (Jvm.Cond.code x code maxLocals ret :: ws) room_1) (fun a U => a = #[(.long q0), (.long q1), (.long q2), (.int p3)] ∧ Z.Warmed39 U.vm ∧ U.heap = h0) (fun _ _ _ _ _ => True) (fun _ U o U' => ∃ v L, o = .returned v ∧ Q0 n0 v U'.heap L ∧ FrameEnd U o U' L 1 1) := by
  refine MetFree.of_bodySF (plainFor_of_name pn_0) hisR ?_
  intro p e s m args below meth c s₁ Bd hml0 hP hK
  obtain ⟨rfl, hZ, hh⟩ := hP
  have hx := Bd.exec
  have hby := Bd.bytes
  have hml : c.maxLocals = 15 := hml0
  have hown : s.vm.findClass "com/example/needle_in_json/needleinjson/query/IndexPicksPinLaw" = some m.cls := findClass_of_methodNamed Bd.named
  have hnm := (name_of_methodNamed Bd.named Bd.method).1
  have X0 : Stand p l e room_1 s m #[(.long q0), (.long q1), (.long q2), (.int p3)] below meth c s₁ [] 0 0 := Stand.of_body Bd
  have e0 : s₁.heap = h0 := by rw [← hh, Bd.state]; rfl
  have N0 := Fr.nil n0
  have pre0 : ∀ t, Steps p.tables e below (s₁.setTop (mkF m 0 #[.val (.long q0), .second, .val (.long q1), .second, .val (.long q2), .second, .val (.int p3), .unset, .unset, .unset, .unset, .unset, .unset, .unset, .unset] [])) t → Steps p.tables e below (s₁.setTop (entryFrame m #[(.long q0), (.long q1), (.long q2), (.int p3)] maxLocals)) t := fun t k => castTop (ef_0 m q0 q1 q2 p3) k
  obtain ⟨T13, h13, X13, e13, E13, A13, D13, -, st13⟩ := newO X0 hx hZ hown (hw _ (List.mem_of_getElem? (i := 0) rfl)) (hw _ (List.mem_of_getElem? (i := 1) rfl)) (hw _ (List.mem_of_getElem? (i := 2) rfl)) e0 (g := (mkF m 0 (own_loc1 q0 q1 q2 p3) [])) rfl (hb hby at_0) (by decide) (by decide)
  obtain ⟨b13, g13⟩ : ∃ z, z = h0.size := ⟨_, rfl⟩
  have ge_b13 : n0 ≤ b13 := Nat.le_trans Z0 (Nat.le_of_eq g13.symm)
  rw [← g13] at A13 D13 st13
  have sz14 : n0 ≤ h13.size := Nat.le_trans Z0 E13.1
  have F13_index : Fld Z h13 b13 "com/example/needle_in_json/needleinjson/query/Selector$Index" "index" "J" (.long (0 : Int64)) := D13 (Or.inr (hw _ (List.mem_of_getElem? (i := 15) rfl))) (ty := .long) (by decide)
  obtain ⟨_, _, ⟨T15, L15, k15, n15⟩, -, X15, ⟨Lc15, hQ15, l15, y15, z15⟩, st15⟩ := X13.specialBack hx (y := (⟨"com/example/needle_in_json/needleinjson/query/Selector$Index", "<init>", "(J)V"⟩ : MethodName)) rfl hown (mvT hZ (hw _ (List.mem_of_getElem? (i := 3) rfl))) (mvT hZ (hw _ (List.mem_of_getElem? (i := 4) rfl))) (mvT hZ (hw _ (List.mem_of_getElem? (i := 5) rfl))) (by decide) (backOf (W := 1) (rm1 l Z ag hw [] b13 q0  h13 n0 sz14 A13 F13_index ge_b13) hZ (hw _ (List.mem_of_getElem? (i := 5) rfl)) (hw _ (List.mem_of_getElem? (i := 2) rfl)) (by decide) (by decide)) (g := (mkF m 5 (own_loc1 q0 q1 q2 p3) [(.long q0), (.ref b13), (.ref b13)])) rfl (by rw [hml]; rfl) (Steps.refl _) (a := b13) (argsL := [(.long q0)]) (rest := [(.ref b13)]) (lenOf pd_2 rfl) rfl (by show 2 * 0 + _ ≤ _; exact Nat.le_of_eq rfl) (hb hby at_5) (fun _ _ => ⟨rfl, e13, (by decide : 1 + 0 ≤ _), (by decide : 1 + 0 ≤ _)⟩)
  dsimp only [Pt.U, Pt.locs, Pt.cells, Pt.slots] at X15 l15 y15 z15 st15 hQ15
  subst l15 y15 z15
  obtain ⟨rfl, N15q, K15, Ee15, Fe15⟩ := hQ15
  have N15 := Fr.app N0 N15q
  have x16 := A13.keep K15
  have sz17 : n0 ≤ T15.heap.size := Nat.le_trans sz14 K15.1
  have cp19 : ∀ target, own_S p e below T15 (mkF m 21 (own_loc4 q0 q1 q2 p3 b13) [(.int (p3 &&& (1 : Int32)))]) target → own_S p e below s₁ (mkF m 0 (own_loc1 q0 q1 q2 p3) []) target := by
    intro target kt
    show own_S p e below s₁ (mkF m 0 (own_loc1 q0 q1 q2 p3) []) _
    refine st13 _ ?_
    show own_S p e below T13 (mkF m 3 (own_loc1 q0 q1 q2 p3) [(.ref b13)]) _
    refine XS.dup X13.here hx rfl (hb hby at_3) rfl rfl ?_
    show own_S p e below T13 (mkF m 4 (own_loc1 q0 q1 q2 p3) [(.ref b13), (.ref b13)]) _
    refine XS.lloadN X13.here hx rfl (hb hby at_4) rfl ?_
    show own_S p e below T13 (mkF m 5 (own_loc1 q0 q1 q2 p3) [(.long q0), (.ref b13), (.ref b13)]) _
    refine st15.trans ?_
    show own_S p e below T15 (mkF m 8 (own_loc1 q0 q1 q2 p3) [(.ref b13)]) _
    refine XS.astore X15.here hx rfl (hb hby at_8) rfl rfl (l' := (own_loc2 q0 q1 q2 p3 b13)) rfl ?_
    show own_S p e below T15 (mkF m 10 (own_loc2 q0 q1 q2 p3 b13) []) _
    refine XS.lloadN X15.here hx rfl (hb hby at_10) rfl ?_
    show own_S p e below T15 (mkF m 11 (own_loc2 q0 q1 q2 p3 b13) [(.long q1)]) _
    refine XS.lstore X15.here hx rfl (hb hby at_11) rfl (l' := (own_loc3 q0 q1 q2 p3 b13)) rfl ?_
    show own_S p e below T15 (mkF m 13 (own_loc3 q0 q1 q2 p3 b13) []) _
    refine XS.lload X15.here hx rfl (hb hby at_13) rfl ?_
    show own_S p e below T15 (mkF m 15 (own_loc3 q0 q1 q2 p3 b13) [(.long q2)]) _
    refine XS.lstore X15.here hx rfl (hb hby at_15) rfl (l' := (own_loc4 q0 q1 q2 p3 b13)) rfl ?_
    show own_S p e below T15 (mkF m 17 (own_loc4 q0 q1 q2 p3 b13) []) _
    refine XS.iload X15.here hx rfl (hb hby at_17) rfl ?_
    show own_S p e below T15 (mkF m 19 (own_loc4 q0 q1 q2 p3 b13) [(.int p3)]) _
    refine XS.iconst X15.here hx rfl (hb hby at_19) ?_
    show own_S p e below T15 (mkF m 20 (own_loc4 q0 q1 q2 p3 b13) [.int 1, (.int p3)]) _
    refine XS.iand X15.here hx rfl (hb hby at_20) rfl ?_
    exact kt
  by_cases hc18 : (p3 &&& (1 : Int32)) = (0 : Int32)
  · have cp21 : ∀ target, own_S p e below T15 (mkF m 78 (own_loc4 q0 q1 q2 p3 b13) [(.int (lcmpW q0 (0 : Int64)))]) target → own_S p e below s₁ (mkF m 0 (own_loc1 q0 q1 q2 p3) []) target := by
      intro target kt
      show own_S p e below s₁ (mkF m 0 (own_loc1 q0 q1 q2 p3) []) _
      refine cp19 _ ?_
      show own_S p e below T15 (mkF m 21 (own_loc4 q0 q1 q2 p3 b13) [(.int (p3 &&& (1 : Int32)))]) _
      refine XS.ifYes X15.here hx rfl (pc0 := 21) (pc' := 75) rfl (hb hby at_21) rfl ((if0 _ _).trans (teq hc18).1) (by decide) (by decide) ?_
      show own_S p e below T15 (mkF m 75 (own_loc4 q0 q1 q2 p3 b13) []) _
      refine XS.lloadN X15.here hx rfl (hb hby at_75) rfl ?_
      show own_S p e below T15 (mkF m 76 (own_loc4 q0 q1 q2 p3 b13) [(.long q0)]) _
      refine XS.lconst X15.here hx rfl (hb hby at_76) ?_
      show own_S p e below T15 (mkF m 77 (own_loc4 q0 q1 q2 p3 b13) [.long 0, (.long q0)]) _
      refine XS.lcmp X15.here hx rfl (hb hby at_77) rfl ?_
      exact kt
    by_cases hc20 : q0 < (0 : Int64)
    · have cp23 : ∀ target, own_S p e below T15 (mkF m 88 (own_loc4 q0 q1 q2 p3 b13) [(.int (lcmpW (q1 - q2) q0))]) target → own_S p e below s₁ (mkF m 0 (own_loc1 q0 q1 q2 p3) []) target := by
        intro target kt
        show own_S p e below s₁ (mkF m 0 (own_loc1 q0 q1 q2 p3) []) _
        refine cp21 _ ?_
        show own_S p e below T15 (mkF m 78 (own_loc4 q0 q1 q2 p3 b13) [(.int (lcmpW q0 (0 : Int64)))]) _
        refine XS.ifNo X15.here hx rfl (hb hby at_78) rfl ((if0 _ _).trans (tlt ((lw_lt q0 (0 : Int64)).mpr hc20)).2.1) ?_
        show own_S p e below T15 (mkF m 81 (own_loc4 q0 q1 q2 p3 b13) []) _
        refine XS.lload X15.here hx rfl (hb hby at_81) rfl ?_
        show own_S p e below T15 (mkF m 83 (own_loc4 q0 q1 q2 p3 b13) [(.long q1)]) _
        refine XS.lload X15.here hx rfl (hb hby at_83) rfl ?_
        show own_S p e below T15 (mkF m 85 (own_loc4 q0 q1 q2 p3 b13) [(.long q2), (.long q1)]) _
        refine XS.lsub X15.here hx rfl (hb hby at_85) rfl ?_
        show own_S p e below T15 (mkF m 86 (own_loc4 q0 q1 q2 p3 b13) [(.long (q1 - q2))]) _
        refine XS.lloadN X15.here hx rfl (hb hby at_86) rfl ?_
        show own_S p e below T15 (mkF m 87 (own_loc4 q0 q1 q2 p3 b13) [(.long q0), (.long (q1 - q2))]) _
        refine XS.lcmp X15.here hx rfl (hb hby at_87) rfl ?_
        exact kt
      by_cases hc22 : (q1 - q2) = q0
      · obtain ⟨cq24, kq24, q24a, q24b, q24c⟩ := isOf hZ rfl x16
        obtain ⟨_, _, ⟨T24, L24, k24, n24⟩, -, X24, ⟨Lc24, hQ24, l24, y24, z24⟩, st24⟩ := X15.virtualBack hx (y := (⟨"com/example/needle_in_json/needleinjson/query/Selector$Index", "picks", "(JJ)Z"⟩ : MethodName)) (z := (⟨"com/example/needle_in_json/needleinjson/query/Selector$Index", "picks", "(JJ)Z"⟩ : MethodName)) hown (mvT hZ (hw _ (List.mem_of_getElem? (i := 16) rfl))) (mvT hZ (hw _ (List.mem_of_getElem? (i := 17) rfl))) (notFace_of_selects (args := #[]) (mvT hZ (hw _ (List.mem_of_getElem? (i := 19) rfl)))) (mvT hZ (hw _ (List.mem_of_getElem? (i := 19) rfl))) (mvT hZ (hw _ (List.mem_of_getElem? (i := 18) rfl))) (by decide) (backOf (W := 0) (rm4 l Z ag hw [] b13 q1 q2 q0 T15.heap n0 sz17 x16 Fe15) hZ (hw _ (List.mem_of_getElem? (i := 20) rfl)) (hw _ (List.mem_of_getElem? (i := 2) rfl)) (by decide) (by decide)) q24a q24c (g := (mkF m 121 (own_loc5 q0 q1 q2 p3 b13) [(.long q2), (.long q1), (.ref b13)])) rfl (by rw [hml]; rfl) (Steps.refl _) (argsL := [(.long q1), (.long q2)]) (rest := []) (lenOf pd_4 rfl) rfl (by show 2 * 0 + _ ≤ _; exact Nat.le_of_eq rfl) (hb hby at_121) (fun _ _ => ⟨rfl, rfl, (by decide : 1 + 0 ≤ _), (by decide : 1 + 0 ≤ _)⟩)
        dsimp only [Pt.U, Pt.locs, Pt.cells, Pt.slots] at X24 l24 y24 z24 st24 hQ24
        subst l24 y24 z24
        obtain ⟨rfl, N24q, e24⟩ := hQ24
        have N24 := Fr.app N15 N24q
        obtain ⟨fs, hr, hrun, hended, hW, hsame⟩ := X24.leave (v := some (.int (1 : Int32))) (fun h => by rw [Bd.returns] at h; cases h)
        refine ⟨_, _, pre0 _ ?_, hrun, hended, _, _, rfl, ?_, ⟨_, rfl⟩, hW, hsame.mono (by decide) (by decide)⟩
        · show own_S p e below s₁ (mkF m 0 (own_loc1 q0 q1 q2 p3) []) _
          refine cp23 _ ?_
          show own_S p e below T15 (mkF m 88 (own_loc4 q0 q1 q2 p3 b13) [(.int (lcmpW (q1 - q2) q0))]) _
          refine XS.ifNo X15.here hx rfl (hb hby at_88) rfl ((if0 _ _).trans (teq ((lw_eq (q1 - q2) q0).mpr hc22)).2) ?_
          show own_S p e below T15 (mkF m 91 (own_loc4 q0 q1 q2 p3 b13) []) _
          refine XS.iconst X15.here hx rfl (hb hby at_91) ?_
          show own_S p e below T15 (mkF m 92 (own_loc4 q0 q1 q2 p3 b13) [.int 1]) _
          refine XS.goto X15.here hx rfl (pc0 := 92) (pc' := 96) rfl (hb hby at_92) (by decide) (by decide) ?_
          show own_S p e below T15 (mkF m 96 (own_loc4 q0 q1 q2 p3 b13) [.int 1]) _
          refine XS.istore X15.here hx rfl (hb hby at_96) rfl (l' := (own_loc5 q0 q1 q2 p3 b13)) rfl ?_
          show own_S p e below T15 (mkF m 98 (own_loc5 q0 q1 q2 p3 b13) []) _
          refine XS.goto X15.here hx rfl (pc0 := 98) (pc' := 115) rfl (hb hby at_98) (by decide) (by decide) ?_
          show own_S p e below T15 (mkF m 115 (own_loc5 q0 q1 q2 p3 b13) []) _
          refine XS.aload X15.here hx rfl (hb hby at_115) rfl rfl ?_
          show own_S p e below T15 (mkF m 117 (own_loc5 q0 q1 q2 p3 b13) [(.ref b13)]) _
          refine XS.lload X15.here hx rfl (hb hby at_117) rfl ?_
          show own_S p e below T15 (mkF m 119 (own_loc5 q0 q1 q2 p3 b13) [(.long q1), (.ref b13)]) _
          refine XS.lload X15.here hx rfl (hb hby at_119) rfl ?_
          show own_S p e below T15 (mkF m 121 (own_loc5 q0 q1 q2 p3 b13) [(.long q2), (.long q1), (.ref b13)]) _
          refine st24.trans ?_
          show own_S p e below T24 (mkF m 124 (own_loc5 q0 q1 q2 p3 b13) [(.int (own_picks q0 q1 q2))]) _
          refine XS.iload X24.here hx rfl (hb hby at_124) rfl ?_
          show own_S p e below T24 (mkF m 126 (own_loc5 q0 q1 q2 p3 b13) [.int 1, (.int (own_picks q0 q1 q2))]) _
          refine XS.icmpNo X24.here hx rfl (hb hby at_126) rfl (teq (show (own_picks q0 q1 q2) = (1 : Int32) from (own_p1 _ _ _ hc20 hc22))).2 ?_
          show own_S p e below T24 (mkF m 129 (own_loc5 q0 q1 q2 p3 b13) []) _
          refine XS.iconst X24.here hx rfl (hb hby at_129) ?_
          show own_S p e below T24 (mkF m 130 (own_loc5 q0 q1 q2 p3 b13) [.int 1]) _
          refine XS.goto X24.here hx rfl (pc0 := 130) (pc' := 134) rfl (hb hby at_130) (by decide) (by decide) ?_
          show own_S p e below T24 (mkF m 134 (own_loc5 q0 q1 q2 p3 b13) [.int 1]) _
          exact retN X24 hx (t := .boolean) Bd.returns (by simp) (hb hby at_134) hr
        · exact ⟨rfl, N24⟩
      · obtain ⟨cq25, kq25, q25a, q25b, q25c⟩ := isOf hZ rfl x16
        obtain ⟨_, _, ⟨T25, L25, k25, n25⟩, -, X25, ⟨Lc25, hQ25, l25, y25, z25⟩, st25⟩ := X15.virtualBack hx (y := (⟨"com/example/needle_in_json/needleinjson/query/Selector$Index", "picks", "(JJ)Z"⟩ : MethodName)) (z := (⟨"com/example/needle_in_json/needleinjson/query/Selector$Index", "picks", "(JJ)Z"⟩ : MethodName)) hown (mvT hZ (hw _ (List.mem_of_getElem? (i := 16) rfl))) (mvT hZ (hw _ (List.mem_of_getElem? (i := 17) rfl))) (notFace_of_selects (args := #[]) (mvT hZ (hw _ (List.mem_of_getElem? (i := 19) rfl)))) (mvT hZ (hw _ (List.mem_of_getElem? (i := 19) rfl))) (mvT hZ (hw _ (List.mem_of_getElem? (i := 18) rfl))) (by decide) (backOf (W := 0) (rm4 l Z ag hw [] b13 q1 q2 q0 T15.heap n0 sz17 x16 Fe15) hZ (hw _ (List.mem_of_getElem? (i := 20) rfl)) (hw _ (List.mem_of_getElem? (i := 2) rfl)) (by decide) (by decide)) q25a q25c (g := (mkF m 121 (own_loc6 q0 q1 q2 p3 b13) [(.long q2), (.long q1), (.ref b13)])) rfl (by rw [hml]; rfl) (Steps.refl _) (argsL := [(.long q1), (.long q2)]) (rest := []) (lenOf pd_4 rfl) rfl (by show 2 * 0 + _ ≤ _; exact Nat.le_of_eq rfl) (hb hby at_121) (fun _ _ => ⟨rfl, rfl, (by decide : 1 + 0 ≤ _), (by decide : 1 + 0 ≤ _)⟩)
        dsimp only [Pt.U, Pt.locs, Pt.cells, Pt.slots] at X25 l25 y25 z25 st25 hQ25
        subst l25 y25 z25
        obtain ⟨rfl, N25q, e25⟩ := hQ25
        have N25 := Fr.app N15 N25q
        obtain ⟨fs, hr, hrun, hended, hW, hsame⟩ := X25.leave (v := some (.int (1 : Int32))) (fun h => by rw [Bd.returns] at h; cases h)
        refine ⟨_, _, pre0 _ ?_, hrun, hended, _, _, rfl, ?_, ⟨_, rfl⟩, hW, hsame.mono (by decide) (by decide)⟩
        · show own_S p e below s₁ (mkF m 0 (own_loc1 q0 q1 q2 p3) []) _
          refine cp23 _ ?_
          show own_S p e below T15 (mkF m 88 (own_loc4 q0 q1 q2 p3 b13) [(.int (lcmpW (q1 - q2) q0))]) _
          refine XS.ifYes X15.here hx rfl (pc0 := 88) (pc' := 95) rfl (hb hby at_88) rfl ((if0 _ _).trans (feq (fun q => hc22 ((lw_eq (q1 - q2) q0).mp q))).2) (by decide) (by decide) ?_
          show own_S p e below T15 (mkF m 95 (own_loc4 q0 q1 q2 p3 b13) []) _
          refine XS.iconst X15.here hx rfl (hb hby at_95) ?_
          show own_S p e below T15 (mkF m 96 (own_loc4 q0 q1 q2 p3 b13) [.int 0]) _
          refine XS.istore X15.here hx rfl (hb hby at_96) rfl (l' := (own_loc6 q0 q1 q2 p3 b13)) rfl ?_
          show own_S p e below T15 (mkF m 98 (own_loc6 q0 q1 q2 p3 b13) []) _
          refine XS.goto X15.here hx rfl (pc0 := 98) (pc' := 115) rfl (hb hby at_98) (by decide) (by decide) ?_
          show own_S p e below T15 (mkF m 115 (own_loc6 q0 q1 q2 p3 b13) []) _
          refine XS.aload X15.here hx rfl (hb hby at_115) rfl rfl ?_
          show own_S p e below T15 (mkF m 117 (own_loc6 q0 q1 q2 p3 b13) [(.ref b13)]) _
          refine XS.lload X15.here hx rfl (hb hby at_117) rfl ?_
          show own_S p e below T15 (mkF m 119 (own_loc6 q0 q1 q2 p3 b13) [(.long q1), (.ref b13)]) _
          refine XS.lload X15.here hx rfl (hb hby at_119) rfl ?_
          show own_S p e below T15 (mkF m 121 (own_loc6 q0 q1 q2 p3 b13) [(.long q2), (.long q1), (.ref b13)]) _
          refine st25.trans ?_
          show own_S p e below T25 (mkF m 124 (own_loc6 q0 q1 q2 p3 b13) [(.int (own_picks q0 q1 q2))]) _
          refine XS.iload X25.here hx rfl (hb hby at_124) rfl ?_
          show own_S p e below T25 (mkF m 126 (own_loc6 q0 q1 q2 p3 b13) [.int 0, (.int (own_picks q0 q1 q2))]) _
          refine XS.icmpNo X25.here hx rfl (hb hby at_126) rfl (teq (show (own_picks q0 q1 q2) = (0 : Int32) from (own_p2 _ _ _ hc20 hc22))).2 ?_
          show own_S p e below T25 (mkF m 129 (own_loc6 q0 q1 q2 p3 b13) []) _
          refine XS.iconst X25.here hx rfl (hb hby at_129) ?_
          show own_S p e below T25 (mkF m 130 (own_loc6 q0 q1 q2 p3 b13) [.int 1]) _
          refine XS.goto X25.here hx rfl (pc0 := 130) (pc' := 134) rfl (hb hby at_130) (by decide) (by decide) ?_
          show own_S p e below T25 (mkF m 134 (own_loc6 q0 q1 q2 p3 b13) [.int 1]) _
          exact retN X25 hx (t := .boolean) Bd.returns (by simp) (hb hby at_134) hr
        · exact ⟨rfl, N25⟩
    · have cp27 : ∀ target, own_S p e below T15 (mkF m 105 (own_loc4 q0 q1 q2 p3 b13) [(.int (lcmpW q1 q0))]) target → own_S p e below s₁ (mkF m 0 (own_loc1 q0 q1 q2 p3) []) target := by
        intro target kt
        show own_S p e below s₁ (mkF m 0 (own_loc1 q0 q1 q2 p3) []) _
        refine cp21 _ ?_
        show own_S p e below T15 (mkF m 78 (own_loc4 q0 q1 q2 p3 b13) [(.int (lcmpW q0 (0 : Int64)))]) _
        refine XS.ifYes X15.here hx rfl (pc0 := 78) (pc' := 101) rfl (hb hby at_78) rfl ((if0 _ _).trans (flt (fun q => hc20 ((lw_lt q0 (0 : Int64)).mp q))).2.1) (by decide) (by decide) ?_
        show own_S p e below T15 (mkF m 101 (own_loc4 q0 q1 q2 p3 b13) []) _
        refine XS.lload X15.here hx rfl (hb hby at_101) rfl ?_
        show own_S p e below T15 (mkF m 103 (own_loc4 q0 q1 q2 p3 b13) [(.long q1)]) _
        refine XS.lloadN X15.here hx rfl (hb hby at_103) rfl ?_
        show own_S p e below T15 (mkF m 104 (own_loc4 q0 q1 q2 p3 b13) [(.long q0), (.long q1)]) _
        refine XS.lcmp X15.here hx rfl (hb hby at_104) rfl ?_
        exact kt
      by_cases hc26 : q1 = q0
      · obtain ⟨cq28, kq28, q28a, q28b, q28c⟩ := isOf hZ rfl x16
        obtain ⟨_, _, ⟨T28, L28, k28, n28⟩, -, X28, ⟨Lc28, hQ28, l28, y28, z28⟩, st28⟩ := X15.virtualBack hx (y := (⟨"com/example/needle_in_json/needleinjson/query/Selector$Index", "picks", "(JJ)Z"⟩ : MethodName)) (z := (⟨"com/example/needle_in_json/needleinjson/query/Selector$Index", "picks", "(JJ)Z"⟩ : MethodName)) hown (mvT hZ (hw _ (List.mem_of_getElem? (i := 16) rfl))) (mvT hZ (hw _ (List.mem_of_getElem? (i := 17) rfl))) (notFace_of_selects (args := #[]) (mvT hZ (hw _ (List.mem_of_getElem? (i := 19) rfl)))) (mvT hZ (hw _ (List.mem_of_getElem? (i := 19) rfl))) (mvT hZ (hw _ (List.mem_of_getElem? (i := 18) rfl))) (by decide) (backOf (W := 0) (rm4 l Z ag hw [] b13 q1 q2 q0 T15.heap n0 sz17 x16 Fe15) hZ (hw _ (List.mem_of_getElem? (i := 20) rfl)) (hw _ (List.mem_of_getElem? (i := 2) rfl)) (by decide) (by decide)) q28a q28c (g := (mkF m 121 (own_loc5 q0 q1 q2 p3 b13) [(.long q2), (.long q1), (.ref b13)])) rfl (by rw [hml]; rfl) (Steps.refl _) (argsL := [(.long q1), (.long q2)]) (rest := []) (lenOf pd_4 rfl) rfl (by show 2 * 0 + _ ≤ _; exact Nat.le_of_eq rfl) (hb hby at_121) (fun _ _ => ⟨rfl, rfl, (by decide : 1 + 0 ≤ _), (by decide : 1 + 0 ≤ _)⟩)
        dsimp only [Pt.U, Pt.locs, Pt.cells, Pt.slots] at X28 l28 y28 z28 st28 hQ28
        subst l28 y28 z28
        obtain ⟨rfl, N28q, e28⟩ := hQ28
        have N28 := Fr.app N15 N28q
        obtain ⟨fs, hr, hrun, hended, hW, hsame⟩ := X28.leave (v := some (.int (1 : Int32))) (fun h => by rw [Bd.returns] at h; cases h)
        refine ⟨_, _, pre0 _ ?_, hrun, hended, _, _, rfl, ?_, ⟨_, rfl⟩, hW, hsame.mono (by decide) (by decide)⟩
        · show own_S p e below s₁ (mkF m 0 (own_loc1 q0 q1 q2 p3) []) _
          refine cp27 _ ?_
          show own_S p e below T15 (mkF m 105 (own_loc4 q0 q1 q2 p3 b13) [(.int (lcmpW q1 q0))]) _
          refine XS.ifNo X15.here hx rfl (hb hby at_105) rfl ((if0 _ _).trans (teq ((lw_eq q1 q0).mpr hc26)).2) ?_
          show own_S p e below T15 (mkF m 108 (own_loc4 q0 q1 q2 p3 b13) []) _
          refine XS.iconst X15.here hx rfl (hb hby at_108) ?_
          show own_S p e below T15 (mkF m 109 (own_loc4 q0 q1 q2 p3 b13) [.int 1]) _
          refine XS.goto X15.here hx rfl (pc0 := 109) (pc' := 113) rfl (hb hby at_109) (by decide) (by decide) ?_
          show own_S p e below T15 (mkF m 113 (own_loc4 q0 q1 q2 p3 b13) [.int 1]) _
          refine XS.istore X15.here hx rfl (hb hby at_113) rfl (l' := (own_loc5 q0 q1 q2 p3 b13)) rfl ?_
          show own_S p e below T15 (mkF m 115 (own_loc5 q0 q1 q2 p3 b13) []) _
          refine XS.aload X15.here hx rfl (hb hby at_115) rfl rfl ?_
          show own_S p e below T15 (mkF m 117 (own_loc5 q0 q1 q2 p3 b13) [(.ref b13)]) _
          refine XS.lload X15.here hx rfl (hb hby at_117) rfl ?_
          show own_S p e below T15 (mkF m 119 (own_loc5 q0 q1 q2 p3 b13) [(.long q1), (.ref b13)]) _
          refine XS.lload X15.here hx rfl (hb hby at_119) rfl ?_
          show own_S p e below T15 (mkF m 121 (own_loc5 q0 q1 q2 p3 b13) [(.long q2), (.long q1), (.ref b13)]) _
          refine st28.trans ?_
          show own_S p e below T28 (mkF m 124 (own_loc5 q0 q1 q2 p3 b13) [(.int (own_picks q0 q1 q2))]) _
          refine XS.iload X28.here hx rfl (hb hby at_124) rfl ?_
          show own_S p e below T28 (mkF m 126 (own_loc5 q0 q1 q2 p3 b13) [.int 1, (.int (own_picks q0 q1 q2))]) _
          refine XS.icmpNo X28.here hx rfl (hb hby at_126) rfl (teq (show (own_picks q0 q1 q2) = (1 : Int32) from (own_p3 _ _ _ hc20 hc26))).2 ?_
          show own_S p e below T28 (mkF m 129 (own_loc5 q0 q1 q2 p3 b13) []) _
          refine XS.iconst X28.here hx rfl (hb hby at_129) ?_
          show own_S p e below T28 (mkF m 130 (own_loc5 q0 q1 q2 p3 b13) [.int 1]) _
          refine XS.goto X28.here hx rfl (pc0 := 130) (pc' := 134) rfl (hb hby at_130) (by decide) (by decide) ?_
          show own_S p e below T28 (mkF m 134 (own_loc5 q0 q1 q2 p3 b13) [.int 1]) _
          exact retN X28 hx (t := .boolean) Bd.returns (by simp) (hb hby at_134) hr
        · exact ⟨rfl, N28⟩
      · obtain ⟨cq29, kq29, q29a, q29b, q29c⟩ := isOf hZ rfl x16
        obtain ⟨_, _, ⟨T29, L29, k29, n29⟩, -, X29, ⟨Lc29, hQ29, l29, y29, z29⟩, st29⟩ := X15.virtualBack hx (y := (⟨"com/example/needle_in_json/needleinjson/query/Selector$Index", "picks", "(JJ)Z"⟩ : MethodName)) (z := (⟨"com/example/needle_in_json/needleinjson/query/Selector$Index", "picks", "(JJ)Z"⟩ : MethodName)) hown (mvT hZ (hw _ (List.mem_of_getElem? (i := 16) rfl))) (mvT hZ (hw _ (List.mem_of_getElem? (i := 17) rfl))) (notFace_of_selects (args := #[]) (mvT hZ (hw _ (List.mem_of_getElem? (i := 19) rfl)))) (mvT hZ (hw _ (List.mem_of_getElem? (i := 19) rfl))) (mvT hZ (hw _ (List.mem_of_getElem? (i := 18) rfl))) (by decide) (backOf (W := 0) (rm4 l Z ag hw [] b13 q1 q2 q0 T15.heap n0 sz17 x16 Fe15) hZ (hw _ (List.mem_of_getElem? (i := 20) rfl)) (hw _ (List.mem_of_getElem? (i := 2) rfl)) (by decide) (by decide)) q29a q29c (g := (mkF m 121 (own_loc6 q0 q1 q2 p3 b13) [(.long q2), (.long q1), (.ref b13)])) rfl (by rw [hml]; rfl) (Steps.refl _) (argsL := [(.long q1), (.long q2)]) (rest := []) (lenOf pd_4 rfl) rfl (by show 2 * 0 + _ ≤ _; exact Nat.le_of_eq rfl) (hb hby at_121) (fun _ _ => ⟨rfl, rfl, (by decide : 1 + 0 ≤ _), (by decide : 1 + 0 ≤ _)⟩)
        dsimp only [Pt.U, Pt.locs, Pt.cells, Pt.slots] at X29 l29 y29 z29 st29 hQ29
        subst l29 y29 z29
        obtain ⟨rfl, N29q, e29⟩ := hQ29
        have N29 := Fr.app N15 N29q
        obtain ⟨fs, hr, hrun, hended, hW, hsame⟩ := X29.leave (v := some (.int (1 : Int32))) (fun h => by rw [Bd.returns] at h; cases h)
        refine ⟨_, _, pre0 _ ?_, hrun, hended, _, _, rfl, ?_, ⟨_, rfl⟩, hW, hsame.mono (by decide) (by decide)⟩
        · show own_S p e below s₁ (mkF m 0 (own_loc1 q0 q1 q2 p3) []) _
          refine cp27 _ ?_
          show own_S p e below T15 (mkF m 105 (own_loc4 q0 q1 q2 p3 b13) [(.int (lcmpW q1 q0))]) _
          refine XS.ifYes X15.here hx rfl (pc0 := 105) (pc' := 112) rfl (hb hby at_105) rfl ((if0 _ _).trans (feq (fun q => hc26 ((lw_eq q1 q0).mp q))).2) (by decide) (by decide) ?_
          show own_S p e below T15 (mkF m 112 (own_loc4 q0 q1 q2 p3 b13) []) _
          refine XS.iconst X15.here hx rfl (hb hby at_112) ?_
          show own_S p e below T15 (mkF m 113 (own_loc4 q0 q1 q2 p3 b13) [.int 0]) _
          refine XS.istore X15.here hx rfl (hb hby at_113) rfl (l' := (own_loc6 q0 q1 q2 p3 b13)) rfl ?_
          show own_S p e below T15 (mkF m 115 (own_loc6 q0 q1 q2 p3 b13) []) _
          refine XS.aload X15.here hx rfl (hb hby at_115) rfl rfl ?_
          show own_S p e below T15 (mkF m 117 (own_loc6 q0 q1 q2 p3 b13) [(.ref b13)]) _
          refine XS.lload X15.here hx rfl (hb hby at_117) rfl ?_
          show own_S p e below T15 (mkF m 119 (own_loc6 q0 q1 q2 p3 b13) [(.long q1), (.ref b13)]) _
          refine XS.lload X15.here hx rfl (hb hby at_119) rfl ?_
          show own_S p e below T15 (mkF m 121 (own_loc6 q0 q1 q2 p3 b13) [(.long q2), (.long q1), (.ref b13)]) _
          refine st29.trans ?_
          show own_S p e below T29 (mkF m 124 (own_loc6 q0 q1 q2 p3 b13) [(.int (own_picks q0 q1 q2))]) _
          refine XS.iload X29.here hx rfl (hb hby at_124) rfl ?_
          show own_S p e below T29 (mkF m 126 (own_loc6 q0 q1 q2 p3 b13) [.int 0, (.int (own_picks q0 q1 q2))]) _
          refine XS.icmpNo X29.here hx rfl (hb hby at_126) rfl (teq (show (own_picks q0 q1 q2) = (0 : Int32) from (own_p4 _ _ _ hc20 hc26))).2 ?_
          show own_S p e below T29 (mkF m 129 (own_loc6 q0 q1 q2 p3 b13) []) _
          refine XS.iconst X29.here hx rfl (hb hby at_129) ?_
          show own_S p e below T29 (mkF m 130 (own_loc6 q0 q1 q2 p3 b13) [.int 1]) _
          refine XS.goto X29.here hx rfl (pc0 := 130) (pc' := 134) rfl (hb hby at_130) (by decide) (by decide) ?_
          show own_S p e below T29 (mkF m 134 (own_loc6 q0 q1 q2 p3 b13) [.int 1]) _
          exact retN X29 hx (t := .boolean) Bd.returns (by simp) (hb hby at_134) hr
        · exact ⟨rfl, N29⟩
  · have cp31 : ∀ target, own_S p e below T15 (mkF m 38 (own_loc7 q0 q1 q2 p3 b13) [(.int (lcmpW q0 (0 : Int64)))]) target → own_S p e below s₁ (mkF m 0 (own_loc1 q0 q1 q2 p3) []) target := by
      intro target kt
      show own_S p e below s₁ (mkF m 0 (own_loc1 q0 q1 q2 p3) []) _
      refine cp19 _ ?_
      show own_S p e below T15 (mkF m 21 (own_loc4 q0 q1 q2 p3 b13) [(.int (p3 &&& (1 : Int32)))]) _
      refine XS.ifNo X15.here hx rfl (hb hby at_21) rfl ((if0 _ _).trans (feq hc18).1) ?_
      show own_S p e below T15 (mkF m 24 (own_loc4 q0 q1 q2 p3 b13) []) _
      refine XS.iload X15.here hx rfl (hb hby at_24) rfl ?_
      show own_S p e below T15 (mkF m 26 (own_loc4 q0 q1 q2 p3 b13) [(.int p3)]) _
      refine XS.iconst X15.here hx rfl (hb hby at_26) ?_
      show own_S p e below T15 (mkF m 27 (own_loc4 q0 q1 q2 p3 b13) [.int 1, (.int p3)]) _
      refine XS.iushr X15.here hx rfl (hb hby at_27) rfl ?_
      show own_S p e below T15 (mkF m 28 (own_loc4 q0 q1 q2 p3 b13) [(.int (own_ushr p3 (1 : Int32)))]) _
      refine XS.iconst X15.here hx rfl (hb hby at_28) ?_
      show own_S p e below T15 (mkF m 29 (own_loc4 q0 q1 q2 p3 b13) [.int 3, (.int (own_ushr p3 (1 : Int32)))]) _
      refine iremM X15 hx rfl (hb hby at_29) rfl (by decide) ?_
      show own_S p e below T15 (mkF m 30 (own_loc4 q0 q1 q2 p3 b13) [(.int ((own_ushr p3 (1 : Int32)) % (3 : Int32)))]) _
      refine XS.i2l X15.here hx rfl (hb hby at_30) rfl ?_
      show own_S p e below T15 (mkF m 31 (own_loc4 q0 q1 q2 p3 b13) [(.long (((own_ushr p3 (1 : Int32)) % (3 : Int32)).toInt64))]) _
      refine XS.lconst X15.here hx rfl (hb hby at_31) ?_
      show own_S p e below T15 (mkF m 32 (own_loc4 q0 q1 q2 p3 b13) [.long 1, (.long (((own_ushr p3 (1 : Int32)) % (3 : Int32)).toInt64))]) _
      refine XS.lsub X15.here hx rfl (hb hby at_32) rfl ?_
      show own_S p e below T15 (mkF m 33 (own_loc4 q0 q1 q2 p3 b13) [(.long ((((own_ushr p3 (1 : Int32)) % (3 : Int32)).toInt64) - (1 : Int64)))]) _
      refine XS.lstore X15.here hx rfl (hb hby at_33) rfl (l' := (own_loc7 q0 q1 q2 p3 b13)) rfl ?_
      show own_S p e below T15 (mkF m 35 (own_loc7 q0 q1 q2 p3 b13) []) _
      refine XS.lloadN X15.here hx rfl (hb hby at_35) rfl ?_
      show own_S p e below T15 (mkF m 36 (own_loc7 q0 q1 q2 p3 b13) [(.long q0)]) _
      refine XS.lconst X15.here hx rfl (hb hby at_36) ?_
      show own_S p e below T15 (mkF m 37 (own_loc7 q0 q1 q2 p3 b13) [.long 0, (.long q0)]) _
      refine XS.lcmp X15.here hx rfl (hb hby at_37) rfl ?_
      exact kt
    by_cases hc30 : q0 < (0 : Int64)
    · have cp33 : ∀ target, own_S p e below T15 (mkF m 62 (own_loc8 q0 q1 q2 p3 b13) [(.int (lcmpW ((((own_ushr p3 (1 : Int32)) % (3 : Int32)).toInt64) - (1 : Int64)) (0 : Int64)))]) target → own_S p e below s₁ (mkF m 0 (own_loc1 q0 q1 q2 p3) []) target := by
        intro target kt
        show own_S p e below s₁ (mkF m 0 (own_loc1 q0 q1 q2 p3) []) _
        refine cp31 _ ?_
        show own_S p e below T15 (mkF m 38 (own_loc7 q0 q1 q2 p3 b13) [(.int (lcmpW q0 (0 : Int64)))]) _
        refine XS.ifNo X15.here hx rfl (hb hby at_38) rfl ((if0 _ _).trans (tlt ((lw_lt q0 (0 : Int64)).mpr hc30)).2.1) ?_
        show own_S p e below T15 (mkF m 41 (own_loc7 q0 q1 q2 p3 b13) []) _
        refine XS.lloadN X15.here hx rfl (hb hby at_41) rfl ?_
        show own_S p e below T15 (mkF m 42 (own_loc7 q0 q1 q2 p3 b13) [(.long q1)]) _
        refine XS.lloadN X15.here hx rfl (hb hby at_42) rfl ?_
        show own_S p e below T15 (mkF m 43 (own_loc7 q0 q1 q2 p3 b13) [(.long q0), (.long q1)]) _
        refine XS.lsub X15.here hx rfl (hb hby at_43) rfl ?_
        show own_S p e below T15 (mkF m 44 (own_loc7 q0 q1 q2 p3 b13) [(.long (q1 - q0))]) _
        refine XS.lload X15.here hx rfl (hb hby at_44) rfl ?_
        show own_S p e below T15 (mkF m 46 (own_loc7 q0 q1 q2 p3 b13) [(.long ((((own_ushr p3 (1 : Int32)) % (3 : Int32)).toInt64) - (1 : Int64))), (.long (q1 - q0))]) _
        refine XS.ladd X15.here hx rfl (hb hby at_46) rfl ?_
        show own_S p e below T15 (mkF m 47 (own_loc7 q0 q1 q2 p3 b13) [(.long ((q1 - q0) + ((((own_ushr p3 (1 : Int32)) % (3 : Int32)).toInt64) - (1 : Int64))))]) _
        refine XS.lstore X15.here hx rfl (hb hby at_47) rfl (l' := (own_loc8 q0 q1 q2 p3 b13)) rfl ?_
        show own_S p e below T15 (mkF m 49 (own_loc8 q0 q1 q2 p3 b13) []) _
        refine XS.goto X15.here hx rfl (pc0 := 49) (pc' := 58) rfl (hb hby at_49) (by decide) (by decide) ?_
        show own_S p e below T15 (mkF m 58 (own_loc8 q0 q1 q2 p3 b13) []) _
        refine XS.lload X15.here hx rfl (hb hby at_58) rfl ?_
        show own_S p e below T15 (mkF m 60 (own_loc8 q0 q1 q2 p3 b13) [(.long ((((own_ushr p3 (1 : Int32)) % (3 : Int32)).toInt64) - (1 : Int64)))]) _
        refine XS.lconst X15.here hx rfl (hb hby at_60) ?_
        show own_S p e below T15 (mkF m 61 (own_loc8 q0 q1 q2 p3 b13) [.long 0, (.long ((((own_ushr p3 (1 : Int32)) % (3 : Int32)).toInt64) - (1 : Int64)))]) _
        refine XS.lcmp X15.here hx rfl (hb hby at_61) rfl ?_
        exact kt
      by_cases hc32 : ((((own_ushr p3 (1 : Int32)) % (3 : Int32)).toInt64) - (1 : Int64)) = (0 : Int64)
      · obtain ⟨cq34, kq34, q34a, q34b, q34c⟩ := isOf hZ rfl x16
        obtain ⟨_, _, ⟨T34, L34, k34, n34⟩, -, X34, ⟨Lc34, hQ34, l34, y34, z34⟩, st34⟩ := X15.virtualBack hx (y := (⟨"com/example/needle_in_json/needleinjson/query/Selector$Index", "picks", "(JJ)Z"⟩ : MethodName)) (z := (⟨"com/example/needle_in_json/needleinjson/query/Selector$Index", "picks", "(JJ)Z"⟩ : MethodName)) hown (mvT hZ (hw _ (List.mem_of_getElem? (i := 16) rfl))) (mvT hZ (hw _ (List.mem_of_getElem? (i := 17) rfl))) (notFace_of_selects (args := #[]) (mvT hZ (hw _ (List.mem_of_getElem? (i := 19) rfl)))) (mvT hZ (hw _ (List.mem_of_getElem? (i := 19) rfl))) (mvT hZ (hw _ (List.mem_of_getElem? (i := 18) rfl))) (by decide) (backOf (W := 0) (rm4 l Z ag hw [] b13 q1 ((q1 - q0) + ((((own_ushr p3 (1 : Int32)) % (3 : Int32)).toInt64) - (1 : Int64))) q0 T15.heap n0 sz17 x16 Fe15) hZ (hw _ (List.mem_of_getElem? (i := 20) rfl)) (hw _ (List.mem_of_getElem? (i := 2) rfl)) (by decide) (by decide)) q34a q34c (g := (mkF m 121 (own_loc9 q0 q1 q2 p3 b13) [(.long ((q1 - q0) + ((((own_ushr p3 (1 : Int32)) % (3 : Int32)).toInt64) - (1 : Int64)))), (.long q1), (.ref b13)])) rfl (by rw [hml]; rfl) (Steps.refl _) (argsL := [(.long q1), (.long ((q1 - q0) + ((((own_ushr p3 (1 : Int32)) % (3 : Int32)).toInt64) - (1 : Int64))))]) (rest := []) (lenOf pd_4 rfl) rfl (by show 2 * 0 + _ ≤ _; exact Nat.le_of_eq rfl) (hb hby at_121) (fun _ _ => ⟨rfl, rfl, (by decide : 1 + 0 ≤ _), (by decide : 1 + 0 ≤ _)⟩)
        dsimp only [Pt.U, Pt.locs, Pt.cells, Pt.slots] at X34 l34 y34 z34 st34 hQ34
        subst l34 y34 z34
        obtain ⟨rfl, N34q, e34⟩ := hQ34
        have N34 := Fr.app N15 N34q
        obtain ⟨fs, hr, hrun, hended, hW, hsame⟩ := X34.leave (v := some (.int (1 : Int32))) (fun h => by rw [Bd.returns] at h; cases h)
        refine ⟨_, _, pre0 _ ?_, hrun, hended, _, _, rfl, ?_, ⟨_, rfl⟩, hW, hsame.mono (by decide) (by decide)⟩
        · show own_S p e below s₁ (mkF m 0 (own_loc1 q0 q1 q2 p3) []) _
          refine cp33 _ ?_
          show own_S p e below T15 (mkF m 62 (own_loc8 q0 q1 q2 p3 b13) [(.int (lcmpW ((((own_ushr p3 (1 : Int32)) % (3 : Int32)).toInt64) - (1 : Int64)) (0 : Int64)))]) _
          refine XS.ifNo X15.here hx rfl (hb hby at_62) rfl ((if0 _ _).trans (teq ((lw_eq ((((own_ushr p3 (1 : Int32)) % (3 : Int32)).toInt64) - (1 : Int64)) (0 : Int64)).mpr hc32)).2) ?_
          show own_S p e below T15 (mkF m 65 (own_loc8 q0 q1 q2 p3 b13) []) _
          refine XS.iconst X15.here hx rfl (hb hby at_65) ?_
          show own_S p e below T15 (mkF m 66 (own_loc8 q0 q1 q2 p3 b13) [.int 1]) _
          refine XS.goto X15.here hx rfl (pc0 := 66) (pc' := 70) rfl (hb hby at_66) (by decide) (by decide) ?_
          show own_S p e below T15 (mkF m 70 (own_loc8 q0 q1 q2 p3 b13) [.int 1]) _
          refine XS.istore X15.here hx rfl (hb hby at_70) rfl (l' := (own_loc9 q0 q1 q2 p3 b13)) rfl ?_
          show own_S p e below T15 (mkF m 72 (own_loc9 q0 q1 q2 p3 b13) []) _
          refine XS.goto X15.here hx rfl (pc0 := 72) (pc' := 115) rfl (hb hby at_72) (by decide) (by decide) ?_
          show own_S p e below T15 (mkF m 115 (own_loc9 q0 q1 q2 p3 b13) []) _
          refine XS.aload X15.here hx rfl (hb hby at_115) rfl rfl ?_
          show own_S p e below T15 (mkF m 117 (own_loc9 q0 q1 q2 p3 b13) [(.ref b13)]) _
          refine XS.lload X15.here hx rfl (hb hby at_117) rfl ?_
          show own_S p e below T15 (mkF m 119 (own_loc9 q0 q1 q2 p3 b13) [(.long q1), (.ref b13)]) _
          refine XS.lload X15.here hx rfl (hb hby at_119) rfl ?_
          show own_S p e below T15 (mkF m 121 (own_loc9 q0 q1 q2 p3 b13) [(.long ((q1 - q0) + ((((own_ushr p3 (1 : Int32)) % (3 : Int32)).toInt64) - (1 : Int64)))), (.long q1), (.ref b13)]) _
          refine st34.trans ?_
          show own_S p e below T34 (mkF m 124 (own_loc9 q0 q1 q2 p3 b13) [(.int (own_picks q0 q1 ((q1 - q0) + ((((own_ushr p3 (1 : Int32)) % (3 : Int32)).toInt64) - (1 : Int64)))))]) _
          refine XS.iload X34.here hx rfl (hb hby at_124) rfl ?_
          show own_S p e below T34 (mkF m 126 (own_loc9 q0 q1 q2 p3 b13) [.int 1, (.int (own_picks q0 q1 ((q1 - q0) + ((((own_ushr p3 (1 : Int32)) % (3 : Int32)).toInt64) - (1 : Int64)))))]) _
          refine XS.icmpNo X34.here hx rfl (hb hby at_126) rfl (teq (show (own_picks q0 q1 ((q1 - q0) + ((((own_ushr p3 (1 : Int32)) % (3 : Int32)).toInt64) - (1 : Int64)))) = (1 : Int32) from (own_p1 _ _ _ hc30 ((own_d _ _ _).mpr hc32)))).2 ?_
          show own_S p e below T34 (mkF m 129 (own_loc9 q0 q1 q2 p3 b13) []) _
          refine XS.iconst X34.here hx rfl (hb hby at_129) ?_
          show own_S p e below T34 (mkF m 130 (own_loc9 q0 q1 q2 p3 b13) [.int 1]) _
          refine XS.goto X34.here hx rfl (pc0 := 130) (pc' := 134) rfl (hb hby at_130) (by decide) (by decide) ?_
          show own_S p e below T34 (mkF m 134 (own_loc9 q0 q1 q2 p3 b13) [.int 1]) _
          exact retN X34 hx (t := .boolean) Bd.returns (by simp) (hb hby at_134) hr
        · exact ⟨rfl, N34⟩
      · obtain ⟨cq35, kq35, q35a, q35b, q35c⟩ := isOf hZ rfl x16
        obtain ⟨_, _, ⟨T35, L35, k35, n35⟩, -, X35, ⟨Lc35, hQ35, l35, y35, z35⟩, st35⟩ := X15.virtualBack hx (y := (⟨"com/example/needle_in_json/needleinjson/query/Selector$Index", "picks", "(JJ)Z"⟩ : MethodName)) (z := (⟨"com/example/needle_in_json/needleinjson/query/Selector$Index", "picks", "(JJ)Z"⟩ : MethodName)) hown (mvT hZ (hw _ (List.mem_of_getElem? (i := 16) rfl))) (mvT hZ (hw _ (List.mem_of_getElem? (i := 17) rfl))) (notFace_of_selects (args := #[]) (mvT hZ (hw _ (List.mem_of_getElem? (i := 19) rfl)))) (mvT hZ (hw _ (List.mem_of_getElem? (i := 19) rfl))) (mvT hZ (hw _ (List.mem_of_getElem? (i := 18) rfl))) (by decide) (backOf (W := 0) (rm4 l Z ag hw [] b13 q1 ((q1 - q0) + ((((own_ushr p3 (1 : Int32)) % (3 : Int32)).toInt64) - (1 : Int64))) q0 T15.heap n0 sz17 x16 Fe15) hZ (hw _ (List.mem_of_getElem? (i := 20) rfl)) (hw _ (List.mem_of_getElem? (i := 2) rfl)) (by decide) (by decide)) q35a q35c (g := (mkF m 121 (own_loc10 q0 q1 q2 p3 b13) [(.long ((q1 - q0) + ((((own_ushr p3 (1 : Int32)) % (3 : Int32)).toInt64) - (1 : Int64)))), (.long q1), (.ref b13)])) rfl (by rw [hml]; rfl) (Steps.refl _) (argsL := [(.long q1), (.long ((q1 - q0) + ((((own_ushr p3 (1 : Int32)) % (3 : Int32)).toInt64) - (1 : Int64))))]) (rest := []) (lenOf pd_4 rfl) rfl (by show 2 * 0 + _ ≤ _; exact Nat.le_of_eq rfl) (hb hby at_121) (fun _ _ => ⟨rfl, rfl, (by decide : 1 + 0 ≤ _), (by decide : 1 + 0 ≤ _)⟩)
        dsimp only [Pt.U, Pt.locs, Pt.cells, Pt.slots] at X35 l35 y35 z35 st35 hQ35
        subst l35 y35 z35
        obtain ⟨rfl, N35q, e35⟩ := hQ35
        have N35 := Fr.app N15 N35q
        obtain ⟨fs, hr, hrun, hended, hW, hsame⟩ := X35.leave (v := some (.int (1 : Int32))) (fun h => by rw [Bd.returns] at h; cases h)
        refine ⟨_, _, pre0 _ ?_, hrun, hended, _, _, rfl, ?_, ⟨_, rfl⟩, hW, hsame.mono (by decide) (by decide)⟩
        · show own_S p e below s₁ (mkF m 0 (own_loc1 q0 q1 q2 p3) []) _
          refine cp33 _ ?_
          show own_S p e below T15 (mkF m 62 (own_loc8 q0 q1 q2 p3 b13) [(.int (lcmpW ((((own_ushr p3 (1 : Int32)) % (3 : Int32)).toInt64) - (1 : Int64)) (0 : Int64)))]) _
          refine XS.ifYes X15.here hx rfl (pc0 := 62) (pc' := 69) rfl (hb hby at_62) rfl ((if0 _ _).trans (feq (fun q => hc32 ((lw_eq ((((own_ushr p3 (1 : Int32)) % (3 : Int32)).toInt64) - (1 : Int64)) (0 : Int64)).mp q))).2) (by decide) (by decide) ?_
          show own_S p e below T15 (mkF m 69 (own_loc8 q0 q1 q2 p3 b13) []) _
          refine XS.iconst X15.here hx rfl (hb hby at_69) ?_
          show own_S p e below T15 (mkF m 70 (own_loc8 q0 q1 q2 p3 b13) [.int 0]) _
          refine XS.istore X15.here hx rfl (hb hby at_70) rfl (l' := (own_loc10 q0 q1 q2 p3 b13)) rfl ?_
          show own_S p e below T15 (mkF m 72 (own_loc10 q0 q1 q2 p3 b13) []) _
          refine XS.goto X15.here hx rfl (pc0 := 72) (pc' := 115) rfl (hb hby at_72) (by decide) (by decide) ?_
          show own_S p e below T15 (mkF m 115 (own_loc10 q0 q1 q2 p3 b13) []) _
          refine XS.aload X15.here hx rfl (hb hby at_115) rfl rfl ?_
          show own_S p e below T15 (mkF m 117 (own_loc10 q0 q1 q2 p3 b13) [(.ref b13)]) _
          refine XS.lload X15.here hx rfl (hb hby at_117) rfl ?_
          show own_S p e below T15 (mkF m 119 (own_loc10 q0 q1 q2 p3 b13) [(.long q1), (.ref b13)]) _
          refine XS.lload X15.here hx rfl (hb hby at_119) rfl ?_
          show own_S p e below T15 (mkF m 121 (own_loc10 q0 q1 q2 p3 b13) [(.long ((q1 - q0) + ((((own_ushr p3 (1 : Int32)) % (3 : Int32)).toInt64) - (1 : Int64)))), (.long q1), (.ref b13)]) _
          refine st35.trans ?_
          show own_S p e below T35 (mkF m 124 (own_loc10 q0 q1 q2 p3 b13) [(.int (own_picks q0 q1 ((q1 - q0) + ((((own_ushr p3 (1 : Int32)) % (3 : Int32)).toInt64) - (1 : Int64)))))]) _
          refine XS.iload X35.here hx rfl (hb hby at_124) rfl ?_
          show own_S p e below T35 (mkF m 126 (own_loc10 q0 q1 q2 p3 b13) [.int 0, (.int (own_picks q0 q1 ((q1 - q0) + ((((own_ushr p3 (1 : Int32)) % (3 : Int32)).toInt64) - (1 : Int64)))))]) _
          refine XS.icmpNo X35.here hx rfl (hb hby at_126) rfl (teq (show (own_picks q0 q1 ((q1 - q0) + ((((own_ushr p3 (1 : Int32)) % (3 : Int32)).toInt64) - (1 : Int64)))) = (0 : Int32) from (own_p2 _ _ _ hc30 (fun z => hc32 ((own_d _ _ _).mp z))))).2 ?_
          show own_S p e below T35 (mkF m 129 (own_loc10 q0 q1 q2 p3 b13) []) _
          refine XS.iconst X35.here hx rfl (hb hby at_129) ?_
          show own_S p e below T35 (mkF m 130 (own_loc10 q0 q1 q2 p3 b13) [.int 1]) _
          refine XS.goto X35.here hx rfl (pc0 := 130) (pc' := 134) rfl (hb hby at_130) (by decide) (by decide) ?_
          show own_S p e below T35 (mkF m 134 (own_loc10 q0 q1 q2 p3 b13) [.int 1]) _
          exact retN X35 hx (t := .boolean) Bd.returns (by simp) (hb hby at_134) hr
        · exact ⟨rfl, N35⟩
    · have cp37 : ∀ target, own_S p e below T15 (mkF m 62 (own_loc11 q0 q1 q2 p3 b13) [(.int (lcmpW ((((own_ushr p3 (1 : Int32)) % (3 : Int32)).toInt64) - (1 : Int64)) (0 : Int64)))]) target → own_S p e below s₁ (mkF m 0 (own_loc1 q0 q1 q2 p3) []) target := by
        intro target kt
        show own_S p e below s₁ (mkF m 0 (own_loc1 q0 q1 q2 p3) []) _
        refine cp31 _ ?_
        show own_S p e below T15 (mkF m 38 (own_loc7 q0 q1 q2 p3 b13) [(.int (lcmpW q0 (0 : Int64)))]) _
        refine XS.ifYes X15.here hx rfl (pc0 := 38) (pc' := 52) rfl (hb hby at_38) rfl ((if0 _ _).trans (flt (fun q => hc30 ((lw_lt q0 (0 : Int64)).mp q))).2.1) (by decide) (by decide) ?_
        show own_S p e below T15 (mkF m 52 (own_loc7 q0 q1 q2 p3 b13) []) _
        refine XS.lloadN X15.here hx rfl (hb hby at_52) rfl ?_
        show own_S p e below T15 (mkF m 53 (own_loc7 q0 q1 q2 p3 b13) [(.long q0)]) _
        refine XS.lload X15.here hx rfl (hb hby at_53) rfl ?_
        show own_S p e below T15 (mkF m 55 (own_loc7 q0 q1 q2 p3 b13) [(.long ((((own_ushr p3 (1 : Int32)) % (3 : Int32)).toInt64) - (1 : Int64))), (.long q0)]) _
        refine XS.ladd X15.here hx rfl (hb hby at_55) rfl ?_
        show own_S p e below T15 (mkF m 56 (own_loc7 q0 q1 q2 p3 b13) [(.long (q0 + ((((own_ushr p3 (1 : Int32)) % (3 : Int32)).toInt64) - (1 : Int64))))]) _
        refine XS.lstore X15.here hx rfl (hb hby at_56) rfl (l' := (own_loc11 q0 q1 q2 p3 b13)) rfl ?_
        show own_S p e below T15 (mkF m 58 (own_loc11 q0 q1 q2 p3 b13) []) _
        refine XS.lload X15.here hx rfl (hb hby at_58) rfl ?_
        show own_S p e below T15 (mkF m 60 (own_loc11 q0 q1 q2 p3 b13) [(.long ((((own_ushr p3 (1 : Int32)) % (3 : Int32)).toInt64) - (1 : Int64)))]) _
        refine XS.lconst X15.here hx rfl (hb hby at_60) ?_
        show own_S p e below T15 (mkF m 61 (own_loc11 q0 q1 q2 p3 b13) [.long 0, (.long ((((own_ushr p3 (1 : Int32)) % (3 : Int32)).toInt64) - (1 : Int64)))]) _
        refine XS.lcmp X15.here hx rfl (hb hby at_61) rfl ?_
        exact kt
      by_cases hc36 : ((((own_ushr p3 (1 : Int32)) % (3 : Int32)).toInt64) - (1 : Int64)) = (0 : Int64)
      · obtain ⟨cq38, kq38, q38a, q38b, q38c⟩ := isOf hZ rfl x16
        obtain ⟨_, _, ⟨T38, L38, k38, n38⟩, -, X38, ⟨Lc38, hQ38, l38, y38, z38⟩, st38⟩ := X15.virtualBack hx (y := (⟨"com/example/needle_in_json/needleinjson/query/Selector$Index", "picks", "(JJ)Z"⟩ : MethodName)) (z := (⟨"com/example/needle_in_json/needleinjson/query/Selector$Index", "picks", "(JJ)Z"⟩ : MethodName)) hown (mvT hZ (hw _ (List.mem_of_getElem? (i := 16) rfl))) (mvT hZ (hw _ (List.mem_of_getElem? (i := 17) rfl))) (notFace_of_selects (args := #[]) (mvT hZ (hw _ (List.mem_of_getElem? (i := 19) rfl)))) (mvT hZ (hw _ (List.mem_of_getElem? (i := 19) rfl))) (mvT hZ (hw _ (List.mem_of_getElem? (i := 18) rfl))) (by decide) (backOf (W := 0) (rm4 l Z ag hw [] b13 (q0 + ((((own_ushr p3 (1 : Int32)) % (3 : Int32)).toInt64) - (1 : Int64))) q2 q0 T15.heap n0 sz17 x16 Fe15) hZ (hw _ (List.mem_of_getElem? (i := 20) rfl)) (hw _ (List.mem_of_getElem? (i := 2) rfl)) (by decide) (by decide)) q38a q38c (g := (mkF m 121 (own_loc12 q0 q1 q2 p3 b13) [(.long q2), (.long (q0 + ((((own_ushr p3 (1 : Int32)) % (3 : Int32)).toInt64) - (1 : Int64)))), (.ref b13)])) rfl (by rw [hml]; rfl) (Steps.refl _) (argsL := [(.long (q0 + ((((own_ushr p3 (1 : Int32)) % (3 : Int32)).toInt64) - (1 : Int64)))), (.long q2)]) (rest := []) (lenOf pd_4 rfl) rfl (by show 2 * 0 + _ ≤ _; exact Nat.le_of_eq rfl) (hb hby at_121) (fun _ _ => ⟨rfl, rfl, (by decide : 1 + 0 ≤ _), (by decide : 1 + 0 ≤ _)⟩)
        dsimp only [Pt.U, Pt.locs, Pt.cells, Pt.slots] at X38 l38 y38 z38 st38 hQ38
        subst l38 y38 z38
        obtain ⟨rfl, N38q, e38⟩ := hQ38
        have N38 := Fr.app N15 N38q
        obtain ⟨fs, hr, hrun, hended, hW, hsame⟩ := X38.leave (v := some (.int (1 : Int32))) (fun h => by rw [Bd.returns] at h; cases h)
        refine ⟨_, _, pre0 _ ?_, hrun, hended, _, _, rfl, ?_, ⟨_, rfl⟩, hW, hsame.mono (by decide) (by decide)⟩
        · show own_S p e below s₁ (mkF m 0 (own_loc1 q0 q1 q2 p3) []) _
          refine cp37 _ ?_
          show own_S p e below T15 (mkF m 62 (own_loc11 q0 q1 q2 p3 b13) [(.int (lcmpW ((((own_ushr p3 (1 : Int32)) % (3 : Int32)).toInt64) - (1 : Int64)) (0 : Int64)))]) _
          refine XS.ifNo X15.here hx rfl (hb hby at_62) rfl ((if0 _ _).trans (teq ((lw_eq ((((own_ushr p3 (1 : Int32)) % (3 : Int32)).toInt64) - (1 : Int64)) (0 : Int64)).mpr hc36)).2) ?_
          show own_S p e below T15 (mkF m 65 (own_loc11 q0 q1 q2 p3 b13) []) _
          refine XS.iconst X15.here hx rfl (hb hby at_65) ?_
          show own_S p e below T15 (mkF m 66 (own_loc11 q0 q1 q2 p3 b13) [.int 1]) _
          refine XS.goto X15.here hx rfl (pc0 := 66) (pc' := 70) rfl (hb hby at_66) (by decide) (by decide) ?_
          show own_S p e below T15 (mkF m 70 (own_loc11 q0 q1 q2 p3 b13) [.int 1]) _
          refine XS.istore X15.here hx rfl (hb hby at_70) rfl (l' := (own_loc12 q0 q1 q2 p3 b13)) rfl ?_
          show own_S p e below T15 (mkF m 72 (own_loc12 q0 q1 q2 p3 b13) []) _
          refine XS.goto X15.here hx rfl (pc0 := 72) (pc' := 115) rfl (hb hby at_72) (by decide) (by decide) ?_
          show own_S p e below T15 (mkF m 115 (own_loc12 q0 q1 q2 p3 b13) []) _
          refine XS.aload X15.here hx rfl (hb hby at_115) rfl rfl ?_
          show own_S p e below T15 (mkF m 117 (own_loc12 q0 q1 q2 p3 b13) [(.ref b13)]) _
          refine XS.lload X15.here hx rfl (hb hby at_117) rfl ?_
          show own_S p e below T15 (mkF m 119 (own_loc12 q0 q1 q2 p3 b13) [(.long (q0 + ((((own_ushr p3 (1 : Int32)) % (3 : Int32)).toInt64) - (1 : Int64)))), (.ref b13)]) _
          refine XS.lload X15.here hx rfl (hb hby at_119) rfl ?_
          show own_S p e below T15 (mkF m 121 (own_loc12 q0 q1 q2 p3 b13) [(.long q2), (.long (q0 + ((((own_ushr p3 (1 : Int32)) % (3 : Int32)).toInt64) - (1 : Int64)))), (.ref b13)]) _
          refine st38.trans ?_
          show own_S p e below T38 (mkF m 124 (own_loc12 q0 q1 q2 p3 b13) [(.int (own_picks q0 (q0 + ((((own_ushr p3 (1 : Int32)) % (3 : Int32)).toInt64) - (1 : Int64))) q2))]) _
          refine XS.iload X38.here hx rfl (hb hby at_124) rfl ?_
          show own_S p e below T38 (mkF m 126 (own_loc12 q0 q1 q2 p3 b13) [.int 1, (.int (own_picks q0 (q0 + ((((own_ushr p3 (1 : Int32)) % (3 : Int32)).toInt64) - (1 : Int64))) q2))]) _
          refine XS.icmpNo X38.here hx rfl (hb hby at_126) rfl (teq (show (own_picks q0 (q0 + ((((own_ushr p3 (1 : Int32)) % (3 : Int32)).toInt64) - (1 : Int64))) q2) = (1 : Int32) from (own_p3 _ _ _ hc30 ((own_d' _ _).mpr hc36)))).2 ?_
          show own_S p e below T38 (mkF m 129 (own_loc12 q0 q1 q2 p3 b13) []) _
          refine XS.iconst X38.here hx rfl (hb hby at_129) ?_
          show own_S p e below T38 (mkF m 130 (own_loc12 q0 q1 q2 p3 b13) [.int 1]) _
          refine XS.goto X38.here hx rfl (pc0 := 130) (pc' := 134) rfl (hb hby at_130) (by decide) (by decide) ?_
          show own_S p e below T38 (mkF m 134 (own_loc12 q0 q1 q2 p3 b13) [.int 1]) _
          exact retN X38 hx (t := .boolean) Bd.returns (by simp) (hb hby at_134) hr
        · exact ⟨rfl, N38⟩
      · obtain ⟨cq39, kq39, q39a, q39b, q39c⟩ := isOf hZ rfl x16
        obtain ⟨_, _, ⟨T39, L39, k39, n39⟩, -, X39, ⟨Lc39, hQ39, l39, y39, z39⟩, st39⟩ := X15.virtualBack hx (y := (⟨"com/example/needle_in_json/needleinjson/query/Selector$Index", "picks", "(JJ)Z"⟩ : MethodName)) (z := (⟨"com/example/needle_in_json/needleinjson/query/Selector$Index", "picks", "(JJ)Z"⟩ : MethodName)) hown (mvT hZ (hw _ (List.mem_of_getElem? (i := 16) rfl))) (mvT hZ (hw _ (List.mem_of_getElem? (i := 17) rfl))) (notFace_of_selects (args := #[]) (mvT hZ (hw _ (List.mem_of_getElem? (i := 19) rfl)))) (mvT hZ (hw _ (List.mem_of_getElem? (i := 19) rfl))) (mvT hZ (hw _ (List.mem_of_getElem? (i := 18) rfl))) (by decide) (backOf (W := 0) (rm4 l Z ag hw [] b13 (q0 + ((((own_ushr p3 (1 : Int32)) % (3 : Int32)).toInt64) - (1 : Int64))) q2 q0 T15.heap n0 sz17 x16 Fe15) hZ (hw _ (List.mem_of_getElem? (i := 20) rfl)) (hw _ (List.mem_of_getElem? (i := 2) rfl)) (by decide) (by decide)) q39a q39c (g := (mkF m 121 (own_loc13 q0 q1 q2 p3 b13) [(.long q2), (.long (q0 + ((((own_ushr p3 (1 : Int32)) % (3 : Int32)).toInt64) - (1 : Int64)))), (.ref b13)])) rfl (by rw [hml]; rfl) (Steps.refl _) (argsL := [(.long (q0 + ((((own_ushr p3 (1 : Int32)) % (3 : Int32)).toInt64) - (1 : Int64)))), (.long q2)]) (rest := []) (lenOf pd_4 rfl) rfl (by show 2 * 0 + _ ≤ _; exact Nat.le_of_eq rfl) (hb hby at_121) (fun _ _ => ⟨rfl, rfl, (by decide : 1 + 0 ≤ _), (by decide : 1 + 0 ≤ _)⟩)
        dsimp only [Pt.U, Pt.locs, Pt.cells, Pt.slots] at X39 l39 y39 z39 st39 hQ39
        subst l39 y39 z39
        obtain ⟨rfl, N39q, e39⟩ := hQ39
        have N39 := Fr.app N15 N39q
        obtain ⟨fs, hr, hrun, hended, hW, hsame⟩ := X39.leave (v := some (.int (1 : Int32))) (fun h => by rw [Bd.returns] at h; cases h)
        refine ⟨_, _, pre0 _ ?_, hrun, hended, _, _, rfl, ?_, ⟨_, rfl⟩, hW, hsame.mono (by decide) (by decide)⟩
        · show own_S p e below s₁ (mkF m 0 (own_loc1 q0 q1 q2 p3) []) _
          refine cp37 _ ?_
          show own_S p e below T15 (mkF m 62 (own_loc11 q0 q1 q2 p3 b13) [(.int (lcmpW ((((own_ushr p3 (1 : Int32)) % (3 : Int32)).toInt64) - (1 : Int64)) (0 : Int64)))]) _
          refine XS.ifYes X15.here hx rfl (pc0 := 62) (pc' := 69) rfl (hb hby at_62) rfl ((if0 _ _).trans (feq (fun q => hc36 ((lw_eq ((((own_ushr p3 (1 : Int32)) % (3 : Int32)).toInt64) - (1 : Int64)) (0 : Int64)).mp q))).2) (by decide) (by decide) ?_
          show own_S p e below T15 (mkF m 69 (own_loc11 q0 q1 q2 p3 b13) []) _
          refine XS.iconst X15.here hx rfl (hb hby at_69) ?_
          show own_S p e below T15 (mkF m 70 (own_loc11 q0 q1 q2 p3 b13) [.int 0]) _
          refine XS.istore X15.here hx rfl (hb hby at_70) rfl (l' := (own_loc13 q0 q1 q2 p3 b13)) rfl ?_
          show own_S p e below T15 (mkF m 72 (own_loc13 q0 q1 q2 p3 b13) []) _
          refine XS.goto X15.here hx rfl (pc0 := 72) (pc' := 115) rfl (hb hby at_72) (by decide) (by decide) ?_
          show own_S p e below T15 (mkF m 115 (own_loc13 q0 q1 q2 p3 b13) []) _
          refine XS.aload X15.here hx rfl (hb hby at_115) rfl rfl ?_
          show own_S p e below T15 (mkF m 117 (own_loc13 q0 q1 q2 p3 b13) [(.ref b13)]) _
          refine XS.lload X15.here hx rfl (hb hby at_117) rfl ?_
          show own_S p e below T15 (mkF m 119 (own_loc13 q0 q1 q2 p3 b13) [(.long (q0 + ((((own_ushr p3 (1 : Int32)) % (3 : Int32)).toInt64) - (1 : Int64)))), (.ref b13)]) _
          refine XS.lload X15.here hx rfl (hb hby at_119) rfl ?_
          show own_S p e below T15 (mkF m 121 (own_loc13 q0 q1 q2 p3 b13) [(.long q2), (.long (q0 + ((((own_ushr p3 (1 : Int32)) % (3 : Int32)).toInt64) - (1 : Int64)))), (.ref b13)]) _
          refine st39.trans ?_
          show own_S p e below T39 (mkF m 124 (own_loc13 q0 q1 q2 p3 b13) [(.int (own_picks q0 (q0 + ((((own_ushr p3 (1 : Int32)) % (3 : Int32)).toInt64) - (1 : Int64))) q2))]) _
          refine XS.iload X39.here hx rfl (hb hby at_124) rfl ?_
          show own_S p e below T39 (mkF m 126 (own_loc13 q0 q1 q2 p3 b13) [.int 0, (.int (own_picks q0 (q0 + ((((own_ushr p3 (1 : Int32)) % (3 : Int32)).toInt64) - (1 : Int64))) q2))]) _
          refine XS.icmpNo X39.here hx rfl (hb hby at_126) rfl (teq (show (own_picks q0 (q0 + ((((own_ushr p3 (1 : Int32)) % (3 : Int32)).toInt64) - (1 : Int64))) q2) = (0 : Int32) from (own_p4 _ _ _ hc30 (fun z => hc36 ((own_d' _ _).mp z))))).2 ?_
          show own_S p e below T39 (mkF m 129 (own_loc13 q0 q1 q2 p3 b13) []) _
          refine XS.iconst X39.here hx rfl (hb hby at_129) ?_
          show own_S p e below T39 (mkF m 130 (own_loc13 q0 q1 q2 p3 b13) [.int 1]) _
          refine XS.goto X39.here hx rfl (pc0 := 130) (pc' := 134) rfl (hb hby at_130) (by decide) (by decide) ?_
          show own_S p e below T39 (mkF m 134 (own_loc13 q0 q1 q2 p3 b13) [.int 1]) _
          exact retN X39 hx (t := .boolean) Bd.returns (by simp) (hb hby at_134) hr
        · exact ⟨rfl, N39⟩
set_option maxRecDepth 65536 in
set_option maxHeartbeats 40000000 in
theorem comes_1 {Post : Tables → Env → Array Value → State → Outcome → State → Prop} (hpost : ∀ tb e args s v u, (limb_1_1.after args s (.returned v) u = true ∧ limb_1_2.after args s (.returned v) u = true ∧ True) → FrameEnd s (.returned v) u (Jvm.fieldLocs frame_1_writes args s ++ Jvm.arrayLocs frame_1_arrays args s ++ Jvm.staticLocs frame_1_statics s) 16 128 → Post tb e args s (.returned v) u) :
    ArmFor flags0 classFile x code maxLocals ret World_1 tables_1 room_1 Calls_1 rest_1 Pre_1 Post := by
  intro l hfl _ _ p e ha hc hk s m args below hf hA hF happ hP
  obtain ⟨hcalls, hrest, hpre⟩ := hP
  obtain ⟨-, -, -, hnamed, -, -, -, hat⟩ := (Spec.applies_iff hf).mp happ
  obtain ⟨hg, hn⟩ := and_e (Cond.before_iff.mp (show (Jvm.Cond.and given_1 narrow_1).before args s = true from hpre))
  obtain ⟨g40, g41⟩ := and_e hg
  obtain ⟨g42, g43⟩ := and_e g41
  obtain ⟨g44, g45⟩ := and_e g43
  obtain ⟨g46, g47⟩ := and_e g45
  obtain ⟨w0, w1, w2, w3, rfl⟩ : ∃ w0 w1 w2 w3 : Value, args = #[w0, w1, w2, w3] := by
    have hs : args.size = 4 := by simpa [Cond.value, given_1] using g40
    obtain ⟨L⟩ := args
    match L, hs with
    | [w0, w1, w2, w3], _ => exact ⟨w0, w1, w2, w3, rfl⟩
  have hw := fun d (hd : d ∈ tables_1) => atoms_spec (ws := Jvm.Cond.code x code maxLocals ret :: tables_1) hat d (List.mem_cons_of_mem _ hd)
  have hfit : Fit s := fun {y c} hc i hi => by
    obtain ⟨ha, rfl⟩ := Array.getElem?_eq_some_iff.mp hc
    have q := List.all_eq_true.mp ((Array.all_eq_true_iff_forall_mem.mp hF) _ (Array.getElem_mem ha)) i (List.mem_range.mpr hi)
    simpa [Array.getElem?_eq_getElem hi] using q
  obtain ⟨i0, ei0⟩ := isL_v g42
  obtain rfl : w0 = (.long i0) := Option.some.inj ei0
  obtain ⟨i1, ei1⟩ := isL_v g44
  obtain rfl : w1 = (.long i1) := Option.some.inj ei1
  obtain ⟨i2, ei2⟩ := isL_v g46
  obtain rfl : w2 = (.long i2) := Option.some.inj ei2
  obtain ⟨i3, ei3⟩ := is_v g47
  obtain rfl : w3 = (.int i3) := Option.some.inj ei3
  obtain ⟨n, o, h1, h2, h3, _, L, rfl, ⟨rfl, N⟩, hq⟩ := rm0 l s _ hw tables_1 i0 i1 i2 i3 s.heap s.heap.size (Nat.le_refl _)  p e ha hc hk s m _ below hf ((Spec.applies_iff_loose hf).mp happ).1 ⟨rfl, State.Warmed39.refl s, rfl⟩ trivial
  refine ⟨n, _, h1, h2, h3, hpost _ _ _ _ _ _ ⟨Cond.after_iff.mpr rfl, Cond.after_iff.mpr (eq_i res_at (Term.int_eval (1)) rfl), trivial⟩ ⟨hq.1, hq.2.1, (hq.2.2.sift fun y hy => Or.inr (N y hy)).mono (by decide) (by decide)⟩⟩
theorem main_1_1 : Claimed_1_1 := comes_1 fun _ _ _ _ _ _ h hF => ⟨h.1, hF⟩
theorem main_1_2 : Claimed_1_2 := comes_1 fun _ _ _ _ _ _ h hF => ⟨h.2.1, hF⟩
end Jvm.Pilot.@@N@@
namespace Jvm.Pilot.@@N@@
open Jvm Jvm.ClassFile Sem Op Lib Jvm.Free Jvm.Stand Jvm.Pilot.@@N@@.Jvm.D
/-! MADE BY PROGRAM (witnessworld.py) out of the Statement's table words and the real class files: 11 classes; the members and pool entries that the words name. The judged class is class 1, her method 1. -/
namespace start1
open Jvm.ClassFile
def u (s : String) : CpInfo := .utf8 (stringToUtf16 s)
/-- a pool by its gaps: so many unusable entries, then the entry; so many at the end -/
def gap : Nat → List CpInfo → List CpInfo
  | 0, r => r
  | n + 1, r => .unusable :: gap n r
def poolList (es : List (Nat × CpInfo)) (last : Nat) : List CpInfo := es.foldr (fun e r => gap e.1 (e.2 :: r)) (gap last [])
def pool (es : List (Nat × CpInfo)) (last : Nat) : Array CpInfo := ⟨poolList es last⟩
def fileOf (pool : Array CpInfo) (this : Nat) (attrs : Array Attribute := #[]) (ms : Array MethodInfo := #[]) (fl : Nat := 33) (sup : Nat := 0) (ifs : Array Nat := #[]) (fds : Array FieldInfo := #[]) : ClassFile where
  minorVersion := 0
  majorVersion := 65
  constantPool := pool
  accessFlags := fl
  thisClass := this
  superClass := sup
  interfaces := ifs
  fields := fds
  methods := ms
  attributes := attrs
def plain (name : String) (sup : Option ClassId) : Class where
  name := name
  kind := .ordinary
  loader := none
  accessFlags := 33
  super := sup
  interfaces := #[]
  cf := none
  fields := #[]
  methods := #[]
  instanceTypes := #[]
  staticTypes := #[]
  resolved := #[]
  callSites := []
  init := .initialized
  statics := none
  mirror := none

def pool0 : Array CpInfo := pool [(5, u "<init>"), (0, u "()V"), (1, .class_ 10), (1, u "java/lang/Object")] 113

def k0c0 : Code := { maxStack := 0, maxLocals := 1, code := object_method_1_code, exceptionTable := #[], attributes := #[] }
def k0m0 : Method := { name := "<init>", desc := "()V", sig := { parameters := [], returnType := none }, accessFlags := 1, code := some k0c0 }
/-- java/lang/Object -/
def k0 : Class := { plain "java/lang/Object" none with
  accessFlags := 33
  interfaces := #[]
  cf := some (fileOf pool0 8 #[] #[{ accessFlags := 1, nameIndex := 5, descriptorIndex := 6, attributes := #[] }] 33 0 #[] #[])
  fields := #[]
  methods := #[k0m0]
  instanceTypes := #[]
  staticTypes := #[]
  resolved := Array.replicate 124 none
  statics := none }

def pool1 : Array CpInfo := pool [(2, .class_ 4), (1, u "java/lang/Object"), (0, u "<init>"), (0, u "()V"), (0, .class_ 8), (0, u "com/example/needle_in_json/needleinjson/query/Selector$Index"), (0, .methodref 7 10), (0, .nameAndType 5 11), (0, u "(J)V"), (0, .methodref 7 13), (0, .nameAndType 14 15), (0, u "picks"), (0, u "(JJ)Z"), (0, .class_ 17), (0, u "com/example/needle_in_json/needleinjson/query/IndexPicksPinLaw"), (2, u "law"), (0, u "(JJJI)Z")] 7

def k1m0 : Method := { name := "<init>", desc := "()V", sig := { parameters := [], returnType := none }, accessFlags := 1, code := none }
def k1c1 : Code := { maxStack := 5, maxLocals := 15, code := code, exceptionTable := #[], attributes := #[] }
def k1m1 : Method := { name := "law", desc := "(JJJI)Z", sig := { parameters := [.long, .long, .long, .int], returnType := some .boolean }, accessFlags := 9, code := some k1c1 }
/-- com/example/needle_in_json/needleinjson/query/IndexPicksPinLaw -/
def k1 : Class := { plain "com/example/needle_in_json/needleinjson/query/IndexPicksPinLaw" (some 0) with
  accessFlags := 49
  interfaces := #[]
  cf := some (fileOf pool1 16 #[] #[{ accessFlags := 1, nameIndex := 5, descriptorIndex := 6, attributes := #[] }, { accessFlags := 9, nameIndex := 20, descriptorIndex := 21, attributes := #[] }] 49 2 #[] #[])
  fields := #[]
  methods := #[k1m0, k1m1]
  instanceTypes := #[]
  staticTypes := #[]
  resolved := Array.replicate 29 none
  statics := none }

def pool2 : Array CpInfo := pool [(1, .methodref 2 3), (0, .class_ 4), (0, .nameAndType 5 6), (0, u "java/lang/Object"), (0, u "<init>"), (0, u "()V"), (0, .class_ 8), (0, u "java/lang/Record")] 13

def k2c0 : Code := { maxStack := 1, maxLocals := 1, code := jdk_30_method_1_code, exceptionTable := #[], attributes := #[] }
def k2m0 : Method := { name := "<init>", desc := "()V", sig := { parameters := [], returnType := none }, accessFlags := 4, code := some k2c0 }
/-- java/lang/Record -/
def k2 : Class := { plain "java/lang/Record" (some 0) with
  accessFlags := 1057
  interfaces := #[]
  cf := some (fileOf pool2 7 #[] #[{ accessFlags := 4, nameIndex := 5, descriptorIndex := 6, attributes := #[] }] 1057 2 #[] #[])
  fields := #[]
  methods := #[k2m0]
  instanceTypes := #[]
  staticTypes := #[]
  resolved := Array.replicate 22 none
  statics := none }

def pool3 : Array CpInfo := pool [(6, u "(JJ)J"), (3, .class_ 11), (0, u "com/example/needle_in_json/needleinjson/query/Selector"), (0, .class_ 13), (0, u "java/lang/Object"), (2, u "fromStart"), (8, .class_ 26), (0, u "com/example/needle_in_json/needleinjson/query/Selector$Filter"), (0, .class_ 28), (0, u "com/example/needle_in_json/needleinjson/query/Selector$Wildcard"), (0, .class_ 30), (0, u "com/example/needle_in_json/needleinjson/query/Selector$Slice"), (0, .class_ 32), (0, u "com/example/needle_in_json/needleinjson/query/Selector$Index"), (0, .class_ 34), (0, u "com/example/needle_in_json/needleinjson/query/Selector$Name")] 7

def k3c0 : Code := { maxStack := 4, maxLocals := 4, code := prog_108_method_2_code, exceptionTable := #[], attributes := #[] }
def k3m0 : Method := { name := "fromStart", desc := "(JJ)J", sig := { parameters := [.long, .long], returnType := some .long }, accessFlags := 10, code := some k3c0 }
/-- com/example/needle_in_json/needleinjson/query/Selector -/
def k3 : Class := { plain "com/example/needle_in_json/needleinjson/query/Selector" (some 0) with
  accessFlags := 1537
  interfaces := #[]
  cf := some (fileOf pool3 10 #[.nestMembers #[25, 27, 29, 31, 33]] #[{ accessFlags := 10, nameIndex := 16, descriptorIndex := 6, attributes := #[] }] 1537 12 #[] #[])
  fields := #[]
  methods := #[k3m0]
  instanceTypes := #[]
  staticTypes := #[]
  resolved := Array.replicate 42 none
  statics := none }

def pool4 : Array CpInfo := pool [(1, .methodref 2 3), (0, .class_ 4), (0, .nameAndType 5 6), (0, u "java/lang/Record"), (0, u "<init>"), (0, u "()V"), (0, .fieldref 8 9), (0, .class_ 10), (0, .nameAndType 11 12), (0, u "com/example/needle_in_json/needleinjson/query/Selector$Index"), (0, u "index"), (0, u "J"), (0, .interfaceMethodref 14 15), (0, .class_ 16), (0, .nameAndType 17 18), (0, u "com/example/needle_in_json/needleinjson/query/Selector"), (0, u "fromStart"), (0, u "(JJ)J"), (0, .methodref 8 20), (0, .nameAndType 21 22), (0, u "position"), (0, u "(J)J"), (12, u "(J)V"), (5, u "picks"), (0, u "(JJ)Z")] 26

def k4c0 : Code := { maxStack := 3, maxLocals := 3, code := prog_110_method_1_code, exceptionTable := #[], attributes := #[] }
def k4m0 : Method := { name := "<init>", desc := "(J)V", sig := { parameters := [.long], returnType := none }, accessFlags := 1, code := some k4c0 }
def k4c1 : Code := { maxStack := 4, maxLocals := 3, code := prog_110_method_3_code, exceptionTable := #[], attributes := #[] }
def k4m1 : Method := { name := "position", desc := "(J)J", sig := { parameters := [.long], returnType := some .long }, accessFlags := 1, code := some k4c1 }
def k4c2 : Code := { maxStack := 4, maxLocals := 5, code := prog_110_method_4_code, exceptionTable := #[], attributes := #[] }
def k4m2 : Method := { name := "picks", desc := "(JJ)Z", sig := { parameters := [.long, .long], returnType := some .boolean }, accessFlags := 1, code := some k4c2 }
/-- com/example/needle_in_json/needleinjson/query/Selector$Index -/
def k4 : Class := { plain "com/example/needle_in_json/needleinjson/query/Selector$Index" (some 2) with
  accessFlags := 49
  interfaces := #[3]
  cf := some (fileOf pool4 8 #[.nestHost 14] #[{ accessFlags := 1, nameIndex := 5, descriptorIndex := 35, attributes := #[] }, { accessFlags := 1, nameIndex := 21, descriptorIndex := 22, attributes := #[] }, { accessFlags := 1, nameIndex := 41, descriptorIndex := 42, attributes := #[] }] 49 2 #[14] #[{ accessFlags := 18, nameIndex := 11, descriptorIndex := 12, attributes := #[] }])
  fields := #[{ name := "index", type := .long, accessFlags := 18, slot := 0, constantValue := 0 }]
  methods := #[k4m0, k4m1, k4m2]
  instanceTypes := #[.long]
  staticTypes := #[]
  resolved := Array.replicate 69 none
  statics := none }

def pool5 : Array CpInfo := pool [(1, u "java/lang/Cloneable"), (0, .class_ 1), (0, u "java/lang/Object"), (0, .class_ 3)] 3

/-- java/lang/Cloneable -/
def k5 : Class := { plain "java/lang/Cloneable" (some 0) with
  accessFlags := 1537
  interfaces := #[]
  cf := some (fileOf pool5 2 #[] #[] 1537 4 #[] #[])
  fields := #[]
  methods := #[]
  instanceTypes := #[]
  staticTypes := #[]
  resolved := Array.replicate 8 none
  statics := none }

def pool6 : Array CpInfo := pool [(1, u "java/io/Serializable"), (0, .class_ 1), (0, u "java/lang/Object"), (0, .class_ 3)] 3

/-- java/io/Serializable -/
def k6 : Class := { plain "java/io/Serializable" (some 0) with
  accessFlags := 1537
  interfaces := #[]
  cf := some (fileOf pool6 2 #[] #[] 1537 4 #[] #[])
  fields := #[]
  methods := #[]
  instanceTypes := #[]
  staticTypes := #[]
  resolved := Array.replicate 8 none
  statics := none }

/-- the primitive byte -/
def k7 : Class := { plain "byte" none with kind := .primitive 'B', accessFlags := 0x411 }
/-- [B -/
def k8 : Class := { plain "[B" (some 0) with kind := .array 7 .byte, interfaces := #[5, 6], accessFlags := 1041 }

/-- the primitive int -/
def k9 : Class := { plain "int" none with kind := .primitive 'I', accessFlags := 0x411 }
/-- [I -/
def k10 : Class := { plain "[I" (some 0) with kind := .array 9 .int, interfaces := #[5, 6], accessFlags := 1041 }

def heap : Heap := #[]
def classes : Array Class := #[k0, k1, k2, k3, k4, k5, k6, k7, k8, k9, k10]
def interned : List (Array UInt16 × Addr) := []
def slotsUsed : Nat := 0
def theMethod : MethodId := ⟨1, 1⟩
def args0 : Array Value := #[.long 5, .long 3, .long 7, .int 2]
def aboutOver (below : List Frame) : State where
  vm := { classes := classes, interned := interned.toArray }
  heap := heap
  slotsUsed := slotsUsed
  threads := #[{ frames := .invoking theMethod args0 :: below }]
def below0 : List Frame := [.native { method := ⟨0, 0⟩, args := #[] }]
def about1 : State := aboutOver below0
def p0 : Program := .bare "" "" ""
def e0 : Env := launch0.env 0 0 0
theorem w_frames : about1.frames = Frame.invoking theMethod args0 :: below0 := rfl
set_option maxRecDepth 65536 in
theorem w_args : argsFit about1.vm theMethod args0 = true := by decide +kernel
set_option maxRecDepth 65536 in
theorem w_heap : heapFits about1 = true := by decide +kernel
set_option maxRecDepth 65536 in
theorem w_runnable : about1.curStatus? = some .runnable := by decide +kernel
set_option maxRecDepth 65536 in
theorem w_alone : about1.alone = true := by decide +kernel
set_option maxRecDepth 65536 in
theorem w_named : about1.methodNamed? x = some theMethod := by decide +kernel
set_option maxRecDepth 65536 in
theorem w_hears : about1.hears theMethod below0 = true := by decide +kernel
set_option maxRecDepth 65536 in
theorem w_ripe : about1.ripe theMethod args0 below0 = true := by decide +kernel
theorem w_running : about1.status = .running := rfl
set_option maxRecDepth 65536 in
theorem w_room : about1.hasRoom e0.platform room_1 = true :=
  launch0.hasRoom_least _ room_1 (by decide +kernel) (by decide +kernel) (by decide +kernel) (by decide +kernel) (by decide +kernel) (by decide +kernel)
theorem allAtoms_all (ts : List Jvm.Cond) (a : Array Jvm.Value) (st : Jvm.State) : (allAtoms ts).before a st = ts.all (fun c => c.before a st) := by
  induction ts with
  | nil => rfl
  | cons c t ih =>
    show (Jvm.Cond.and c (allAtoms t)).before a st = _
    rw [Jvm.Cond.before_and, ih, List.all_cons]
def words1 : List Jvm.Cond := Jvm.Cond.code x code maxLocals ret :: tables_1
/-- a 'code' word, met by the world's own term for the bytes: nothing is compared byte by byte -/
theorem code_word {y : MethodName} {bytes : ByteArray} {mx : Nat} {rt : Option FieldType} {a : Array Value} {s : State} {m : MethodId} {meth : Method} {c : Code} (h1 : s.methodNamed? y = some m) (h2 : s.vm.method? m = some meth) (h3 : meth.code = some c) (h4 : c.code = bytes)
    (h5 : (c.maxLocals == mx && c.exceptionTable.isEmpty && decide (c.maxStack ≤ mostOperands) && decide (meth.sig.returnType = rt) && !meth.locks && decide (parseMethodDescriptor y.desc = some meth.sig)) = true) : (Jvm.Cond.code y bytes mx rt).before a s = true := by
  simp only [Bool.and_eq_true, beq_iff_eq, Bool.not_eq_true', decide_eq_true_eq] at h5
  obtain ⟨⟨⟨⟨⟨g1, g2⟩, g3⟩, g4⟩, g5⟩, g6⟩ := h5
  simp [Cond.before, Cond.holds, Cond.value, h1, h2, h3, h4, g1, g2, g3, g4, g5, g6]
def isCode : Jvm.Cond → Bool
  | .code _ _ _ _ => true
  | _ => false
theorem all_split {L : List Jvm.Cond} {P : Jvm.Cond → Bool} (h1 : L.all (fun c => isCode c || P c) = true) (h2 : ∀ c ∈ L.filter isCode, P c = true) : L.all P = true := by
  refine List.all_eq_true.mpr fun c hc => ?_
  have h := List.all_eq_true.mp h1 c hc
  rcases Bool.eq_false_or_eq_true (isCode c) with hi | hi
  · exact h2 c (List.mem_filter.mpr ⟨hc, hi⟩)
  · simpa [hi] using h
set_option maxRecDepth 65536 in
theorem w_c0 : (Jvm.Cond.code x code maxLocals ret).before args0 about1 = true := code_word (m := ⟨1, 1⟩) (meth := k1m1) (c := k1c1) (by decide +kernel) rfl rfl rfl (by decide +kernel)
set_option maxRecDepth 65536 in
theorem w_c1 : (Jvm.Cond.code ({ cls := "com/example/needle_in_json/needleinjson/query/Selector$Index", name := "<init>", desc := "(J)V" } : Jvm.MethodName) prog_110_method_1_code (3 : Nat) (Option.none : Option Jvm.ClassFile.FieldType)).before args0 about1 = true := code_word (m := ⟨4, 0⟩) (meth := k4m0) (c := k4c0) (by decide +kernel) rfl rfl rfl (by decide +kernel)
set_option maxRecDepth 65536 in
theorem w_c2 : (Jvm.Cond.code ({ cls := "java/lang/Record", name := "<init>", desc := "()V" } : Jvm.MethodName) jdk_30_method_1_code (1 : Nat) (Option.none : Option Jvm.ClassFile.FieldType)).before args0 about1 = true := code_word (m := ⟨2, 0⟩) (meth := k2m0) (c := k2c0) (by decide +kernel) rfl rfl rfl (by decide +kernel)
set_option maxRecDepth 65536 in
theorem w_c3 : (Jvm.Cond.code ({ cls := "java/lang/Object", name := "<init>", desc := "()V" } : Jvm.MethodName) object_method_1_code (1 : Nat) (Option.none : Option Jvm.ClassFile.FieldType)).before args0 about1 = true := code_word (m := ⟨0, 0⟩) (meth := k0m0) (c := k0c0) (by decide +kernel) rfl rfl rfl (by decide +kernel)
set_option maxRecDepth 65536 in
theorem w_c4 : (Jvm.Cond.code ({ cls := "com/example/needle_in_json/needleinjson/query/Selector$Index", name := "picks", desc := "(JJ)Z" } : Jvm.MethodName) prog_110_method_4_code (5 : Nat) (Option.some Jvm.ClassFile.FieldType.boolean)).before args0 about1 = true := code_word (m := ⟨4, 2⟩) (meth := k4m2) (c := k4c2) (by decide +kernel) rfl rfl rfl (by decide +kernel)
set_option maxRecDepth 65536 in
theorem w_c5 : (Jvm.Cond.code ({ cls := "com/example/needle_in_json/needleinjson/query/Selector$Index", name := "position", desc := "(J)J" } : Jvm.MethodName) prog_110_method_3_code (3 : Nat) (Option.some Jvm.ClassFile.FieldType.long)).before args0 about1 = true := code_word (m := ⟨4, 1⟩) (meth := k4m1) (c := k4c1) (by decide +kernel) rfl rfl rfl (by decide +kernel)
set_option maxRecDepth 65536 in
theorem w_c6 : (Jvm.Cond.code ({ cls := "com/example/needle_in_json/needleinjson/query/Selector", name := "fromStart", desc := "(JJ)J" } : Jvm.MethodName) prog_108_method_2_code (4 : Nat) (Option.some Jvm.ClassFile.FieldType.long)).before args0 about1 = true := code_word (m := ⟨3, 0⟩) (meth := k3m0) (c := k3c0) (by decide +kernel) rfl rfl rfl (by decide +kernel)
def codes1 : List Jvm.Cond := [Jvm.Cond.code x code maxLocals ret, Jvm.Cond.code ({ cls := "com/example/needle_in_json/needleinjson/query/Selector$Index", name := "<init>", desc := "(J)V" } : Jvm.MethodName) prog_110_method_1_code (3 : Nat) (Option.none : Option Jvm.ClassFile.FieldType), Jvm.Cond.code ({ cls := "java/lang/Record", name := "<init>", desc := "()V" } : Jvm.MethodName) jdk_30_method_1_code (1 : Nat) (Option.none : Option Jvm.ClassFile.FieldType), Jvm.Cond.code ({ cls := "java/lang/Object", name := "<init>", desc := "()V" } : Jvm.MethodName) object_method_1_code (1 : Nat) (Option.none : Option Jvm.ClassFile.FieldType), Jvm.Cond.code ({ cls := "com/example/needle_in_json/needleinjson/query/Selector$Index", name := "picks", desc := "(JJ)Z" } : Jvm.MethodName) prog_110_method_4_code (5 : Nat) (Option.some Jvm.ClassFile.FieldType.boolean), Jvm.Cond.code ({ cls := "com/example/needle_in_json/needleinjson/query/Selector$Index", name := "position", desc := "(J)J" } : Jvm.MethodName) prog_110_method_3_code (3 : Nat) (Option.some Jvm.ClassFile.FieldType.long), Jvm.Cond.code ({ cls := "com/example/needle_in_json/needleinjson/query/Selector", name := "fromStart", desc := "(JJ)J" } : Jvm.MethodName) prog_108_method_2_code (4 : Nat) (Option.some Jvm.ClassFile.FieldType.long)]
set_option maxRecDepth 65536 in
theorem codes_eq : words1.filter isCode = codes1 := rfl
theorem w_codes : ∀ c ∈ words1.filter isCode, c.before args0 about1 = true := by
  rw [codes_eq]
  intro c hc
  simp only [codes1, List.mem_cons, List.not_mem_nil, or_false] at hc
  rcases hc with rfl | rfl | rfl | rfl | rfl | rfl | rfl
  · exact w_c0
  · exact w_c1
  · exact w_c2
  · exact w_c3
  · exact w_c4
  · exact w_c5
  · exact w_c6
set_option maxRecDepth 65536 in
theorem w_t1 : (words1.take 24).all (fun c => isCode c || c.before args0 about1) = true := by decide +kernel
set_option maxRecDepth 65536 in
theorem w_t2 : (words1.drop 24).all (fun c => isCode c || c.before args0 about1) = true := by decide +kernel
theorem w_tables : (allAtoms (Jvm.Cond.code x code maxLocals ret :: tables_1)).before args0 about1 = true := by
  rw [allAtoms_all]
  show words1.all (fun c => c.before args0 about1) = true
  refine all_split ?_ w_codes
  rw [← List.take_append_drop 24 words1, List.all_append, w_t1, w_t2]
  rfl
set_option maxRecDepth 65536 in
theorem w_case : (Jvm.Cond.and given_1 narrow_1).before args0 about1 = true := by decide +kernel
theorem w_applies : (headSpec (Jvm.Cond.code x code maxLocals ret :: tables_1) room_1).applies x e0.platform about1 = true :=
  (Spec.applies_iff w_frames).mpr ⟨w_running, w_runnable, w_alone, w_named, w_hears, w_ripe, w_room, w_tables⟩
theorem atStart : AtStart classFile x code maxLocals ret World_1 tables_1 room_1 Calls_1 rest_1 Pre_1 launch0 p0 e0 about1 theMethod args0 below0 :=
  ⟨lists_1, trivial, launch0.admits_env _ _ _, launch0.least_env, fairChoices_fair.cas, fairChoices_fair.clock, w_frames, w_args, w_heap, w_applies, trivial, trivial, w_case⟩
end start1
theorem witness_1 : WitnessClaimed_1 := ⟨start1.p0, start1.e0, start1.about1, start1.theMethod, start1.args0, start1.below0, start1.atStart⟩
end Jvm.Pilot.@@N@@
