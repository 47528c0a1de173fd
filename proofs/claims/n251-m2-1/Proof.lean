import JvmDerived
import JvmDerived.Pilot.@@N@@Statement
import JvmDerived.Pilot.@@N@@Code
set_option linter.unusedVariables false
set_option linter.unusedSimpArgs false
namespace Jvm.RoadKit
open Sem ClassFile Op Lib Jvm.Stand Jvm.Free Jvm.LawKit
section New
variable {p : Program} {l : Launch} {e : Env} {R : Room} {s : State} {m : MethodId} {args : Array Value} {below : List Frame} {meth : Method} {c : Code} {T : State} {locs : List Loc} {cells slots : Nat}
theorem retI (X : Stand p l e R s m args below meth c T locs cells slots) (hx : p.tables.exec = Jvm.exec) {pc : Nat} {Ls : Array Slot} {z : Int32} {rest : List Value} (hret : meth.sig.returnType = some .int) (hd : decode c.code pc = .ok (.ireturn, 1)) {fs : List Frame}
    (hl : ∀ (f : JFrame) (acts : List Action), f.method = m → f.locked = none → f.entered = [] → (doReturn e (T.setTop f) acts (some (.int z))).1 = T.setFrames fs) : Steps p.tables e below (T.setTop (mkF m pc Ls (.int z :: rest))) (T.setFrames fs) := by
  have hm' : T.vm.method? m = some meth := X.method'
  have hn : narrow .int (.int z) = .int z := rfl
  show Steps p.tables e below (T.setTop { method := m, pc := pc, locals := Ls, stack := _ :: rest, locked := none }) _
  jvm_step X.here [X.here.top, hx, hd, hm', hret, hn]
  first | (intro acts; rw [hl _ acts rfl rfl rfl]) | rw [hl _ _ rfl rfl rfl]
  exact Steps.refl _
end New
end Jvm.RoadKit
namespace Jvm.Pilot.@@N@@
open Jvm Jvm.ClassFile Sem Op Lib Jvm.Free Jvm.Stand Jvm.LawKit Jvm.RoadKit Bundle Jvm.Pilot.@@N@@.Jvm.D
abbrev own_S (p : Program) (e : Env) (below : List Frame) (T : State) (f : JFrame) (t : State) : Prop := Steps p.tables e below (T.setTop f) t
abbrev own_ushr (x y : Int32) : Int32 := (x.toUInt32 >>> (y &&& 31).toUInt32).toInt32
abbrev own_ushrL (x : Int64) (y : Int32) : Int64 := (x.toUInt64 >>> (y &&& 63).toInt64.toUInt64).toInt64
def own_Qi (z : Int32) (h0 : Heap) (n0 : Nat) (v : Option Value) (h : Heap) (L : List Loc) : Prop := v = some (.int z) ∧ Fr n0 L ∧ h = h0
theorem own_wk {Z : State} {ag : Array Value} {d : Jvm.Cond} (hw : ∀ d ∈ tables_1, d.before ag Z = true) (i : Nat) (h : tables_1[i]? = some d) : d.before ag Z = true := hw d (List.mem_of_getElem? h)
theorem own_cast {α : Sort _} {P : α → Prop} {a b : α} (h : a = b) (k : P a) : P b := h ▸ k
theorem pn_5 : plainName "java/lang/Record" = true := by first | (simp [plainName, overriddenIn]; done) | decide +kernel
theorem ef_2 (m : MethodId) (a0 : Addr) : entryFrame m #[(.ref a0)] 1 = mkF m 0 #[.val (.ref a0)] [] := by first | (simp [entryFrame, mkF, argsToLocals, Value.category]; done) | rfl
theorem d2_0 : decode jdk_30_method_1_code 0 = .ok (.aload_n 0, 1) := by decide +kernel
theorem d2_1 : decode jdk_30_method_1_code 1 = .ok (.invokespecial 1, 3) := by decide +kernel
theorem d2_4 : decode jdk_30_method_1_code 4 = .ok (.return_, 1) := by decide +kernel
def Q2 (Z : State) (a0 : Addr) (h0 : Heap) (n0 : Nat) (v : Option Value) (h : Heap) (L : List Loc) : Prop := v = none ∧ Fr n0 L ∧ h = h0
set_option maxRecDepth 65536 in
set_option maxHeartbeats 40000000 in
theorem rm2 (l : Launch) (Z : State) (ag : Array Value) (hw : ∀ d ∈ tables_1, d.before ag Z = true) (ws : List Jvm.Cond) (a0 : Addr) (h0 : Heap) (n0 : Nat) (Z0 : n0 ≤ h0.size) :
    MetFree l (⟨"java/lang/Record", "<init>", "()V"⟩ : MethodName) (head1 (Jvm.Cond.code (⟨"java/lang/Record", "<init>", "()V"⟩ : MethodName) jdk_30_method_1_code 1 none :: ws) ({ frames := 1, cells := 0, slots := 0, locals := 12 } : Room)) (fun a U => a = #[(.ref a0)] ∧ Z.Warmed39 U.vm ∧ U.heap = h0) (fun _ _ _ _ _ => True) (fun _ U o U' => ∃ v L, o = .returned v ∧ Q2 Z a0 h0 n0 v U'.heap L ∧ FrameEnd U o U' L ({ frames := 1, cells := 0, slots := 0, locals := 12 } : Room).cells ({ frames := 1, cells := 0, slots := 0, locals := 12 } : Room).slots) := by
  refine MetFree.of_bodySF (plainFor_of_name pn_5) hisR ?_
  intro p e s m args below meth c s₁ Bd hml0 hP hK
  obtain ⟨rfl, hZ, hh⟩ := hP
  have hx := Bd.exec
  have hby := Bd.bytes
  have hml : c.maxLocals = 1 := hml0
  have hown : s.vm.findClass "java/lang/Record" = some m.cls := findClass_of_methodNamed Bd.named
  have hnm := (name_of_methodNamed Bd.named Bd.method).1
  have X0 : Stand p l e ({ frames := 1, cells := 0, slots := 0, locals := 12 } : Room) s m #[(.ref a0)] below meth c s₁ [] 0 0 := Stand.of_body Bd
  have e0 : s₁.heap = h0 := by rw [← hh, Bd.state]; rfl
  have N0 := Fr.nil n0
  have pre0 : ∀ t, Steps p.tables e below (s₁.setTop (mkF m 0 #[.val (.ref a0)] [])) t → Steps p.tables e below (s₁.setTop (entryFrame m #[(.ref a0)] 1)) t := fun t k => castTop (ef_2 m a0) k
  obtain ⟨T1, X1, e1, st1⟩ := initO X0 hx hZ hown (hw _ (List.mem_of_getElem? (i := 20) rfl)) (hw _ (List.mem_of_getElem? (i := 21) rfl)) (hw _ (List.mem_of_getElem? (i := 22) rfl)) e0 (g := (mkF m 1 #[.val (.ref a0)] [(.ref a0)])) rfl (by rw [hml]; rfl) rfl (hb hby d2_1) (by decide) (W := 0) (by show 2 * 0 + _ ≤ _; exact Nat.le_of_eq rfl) (by decide)
  obtain ⟨fs, hr, hrun, hended, hW, hsame⟩ := X1.leave (v := none) (fun _ => rfl)
  refine ⟨_, _, pre0 _ ?_, hrun, hended, _, _, rfl, ?_, ⟨_, rfl⟩, hW, hsame.mono (by decide) (by decide)⟩
  · show own_S p e below s₁ (mkF m 0 #[.val (.ref a0)] []) _
    refine XS.aloadN X0.here hx rfl (hb hby d2_0) rfl rfl ?_
    show own_S p e below s₁ (mkF m 1 #[.val (.ref a0)] [(.ref a0)]) _
    refine st1 _ ?_
    show own_S p e below T1 (mkF m 4 #[.val (.ref a0)] []) _
    exact X1.returnOut hx Bd.returns (hb hby d2_4) hr
  · show Q2 Z a0 h0 n0 _ T1.heap _
    rw [e1]
    exact ⟨rfl, N0, rfl⟩
theorem pn_3 : plainName "java/lang/Long" = true := by first | (simp [plainName, overriddenIn]; done) | decide +kernel
theorem ef_13 (m : MethodId) (q0 : Int64) (q1 : Int64) : entryFrame m #[(.long q0), (.long q1)] 4 = mkF m 0 #[.val (.long q0), .second, .val (.long q1), .second] [] := by first | (simp [entryFrame, mkF, argsToLocals, Value.category]; done) | rfl
theorem d13_0 : decode jdk_35_method_42_code 0 = .ok (.lload_n 0, 1) := by decide +kernel
theorem d13_1 : decode jdk_35_method_42_code 1 = .ok (.lload_n 2, 1) := by decide +kernel
theorem d13_2 : decode jdk_35_method_42_code 2 = .ok (.lcmp, 1) := by decide +kernel
theorem d13_3 : decode jdk_35_method_42_code 3 = .ok (.ifCond .ge 7, 3) := by decide +kernel
theorem d13_6 : decode jdk_35_method_42_code 6 = .ok (.iconst (-1), 1) := by decide +kernel
theorem d13_7 : decode jdk_35_method_42_code 7 = .ok (.goto 14, 3) := by decide +kernel
theorem d13_10 : decode jdk_35_method_42_code 10 = .ok (.lload_n 0, 1) := by decide +kernel
theorem d13_11 : decode jdk_35_method_42_code 11 = .ok (.lload_n 2, 1) := by decide +kernel
theorem d13_12 : decode jdk_35_method_42_code 12 = .ok (.lcmp, 1) := by decide +kernel
theorem d13_13 : decode jdk_35_method_42_code 13 = .ok (.ifCond .ne 7, 3) := by decide +kernel
theorem d13_16 : decode jdk_35_method_42_code 16 = .ok (.iconst 0, 1) := by decide +kernel
theorem d13_17 : decode jdk_35_method_42_code 17 = .ok (.goto 4, 3) := by decide +kernel
theorem d13_20 : decode jdk_35_method_42_code 20 = .ok (.iconst 1, 1) := by decide +kernel
def own_cmp (q0 : Int64) (q1 : Int64) : Int32 := (if q0 < q1 then (-1 : Int32) else (if q0 = q1 then (0 : Int32) else (1 : Int32)))
def Q13 (Z : State) (q0 : Int64) (q1 : Int64) (h0 : Heap) (n0 : Nat) (v : Option Value) (h : Heap) (L : List Loc) : Prop := v = some (.int (own_cmp q0 q1)) ∧ Fr n0 L ∧ h = h0
theorem d13_21 : decode jdk_35_method_42_code 21 = .ok (.ireturn, 1) := by decide +kernel
set_option maxRecDepth 65536 in
set_option maxHeartbeats 40000000 in
theorem rm13 (l : Launch) (Z : State) (ag : Array Value) (hw : ∀ d ∈ tables_1, d.before ag Z = true) (ws : List Jvm.Cond) (q0 : Int64) (q1 : Int64) (h0 : Heap) (n0 : Nat) (Z0 : n0 ≤ h0.size) :
    MetFree l (⟨"java/lang/Long", "compare", "(JJ)I"⟩ : MethodName) (head1 (Jvm.Cond.code (⟨"java/lang/Long", "compare", "(JJ)I"⟩ : MethodName) jdk_35_method_42_code 4 (some .int) :: ws) ({ frames := 0, cells := 0, slots := 0, locals := 0 } : Room)) (fun a U => a = #[(.long q0), (.long q1)] ∧ Z.Warmed39 U.vm ∧ U.heap = h0) (fun _ _ _ _ _ => True) (fun _ U o U' => ∃ v L, o = .returned v ∧ Q13 Z q0 q1 h0 n0 v U'.heap L ∧ FrameEnd U o U' L ({ frames := 0, cells := 0, slots := 0, locals := 0 } : Room).cells ({ frames := 0, cells := 0, slots := 0, locals := 0 } : Room).slots) := by
  refine MetFree.of_bodySF (plainFor_of_name pn_3) hisR ?_
  intro p e s m args below meth c s₁ Bd hml0 hP hK
  obtain ⟨rfl, hZ, hh⟩ := hP
  have hx := Bd.exec
  have hby := Bd.bytes
  have hml : c.maxLocals = 4 := hml0
  have hown : s.vm.findClass "java/lang/Long" = some m.cls := findClass_of_methodNamed Bd.named
  have hnm := (name_of_methodNamed Bd.named Bd.method).1
  have X0 : Stand p l e ({ frames := 0, cells := 0, slots := 0, locals := 0 } : Room) s m #[(.long q0), (.long q1)] below meth c s₁ [] 0 0 := Stand.of_body Bd
  have e0 : s₁.heap = h0 := by rw [← hh, Bd.state]; rfl
  have N0 := Fr.nil n0
  have pre0 : ∀ t, Steps p.tables e below (s₁.setTop (mkF m 0 #[.val (.long q0), .second, .val (.long q1), .second] [])) t → Steps p.tables e below (s₁.setTop (entryFrame m #[(.long q0), (.long q1)] 4)) t := fun t k => castTop (ef_13 m q0 q1) k
  obtain ⟨fs, hr, hrun, hended, hW, hsame⟩ := X0.leave (v := some (.int (own_cmp q0 q1))) (fun h => by rw [Bd.returns] at h; cases h)
  refine ⟨_, _, pre0 _ ?_, hrun, hended, _, _, rfl, ?_, ⟨_, rfl⟩, hW, hsame.mono (by decide) (by decide)⟩
  · show own_S p e below s₁ (mkF m 0 #[.val (.long q0), .second, .val (.long q1), .second] []) _
    refine XS.lloadN X0.here hx rfl (hb hby d13_0) rfl ?_
    show own_S p e below s₁ (mkF m 1 #[.val (.long q0), .second, .val (.long q1), .second] [(.long q0)]) _
    refine XS.lloadN X0.here hx rfl (hb hby d13_1) rfl ?_
    show own_S p e below s₁ (mkF m 2 #[.val (.long q0), .second, .val (.long q1), .second] [(.long q1), (.long q0)]) _
    refine XS.lcmp X0.here hx rfl (hb hby d13_2) rfl ?_
    by_cases hc2 : q0 < q1
    · show own_S p e below s₁ (mkF m 3 #[.val (.long q0), .second, .val (.long q1), .second] [(.int (lcmpW q0 q1))]) _
      refine XS.ifNo X0.here hx rfl (hb hby d13_3) rfl ((if0 _ _).trans (tlt ((lw_lt q0 q1).mpr hc2)).2.1) ?_
      show own_S p e below s₁ (mkF m 6 #[.val (.long q0), .second, .val (.long q1), .second] []) _
      refine XS.iconst X0.here hx rfl (hb hby d13_6) ?_
      show own_S p e below s₁ (mkF m 7 #[.val (.long q0), .second, .val (.long q1), .second] [.int (-1)]) _
      refine XS.goto X0.here hx rfl (pc0 := 7) (pc' := 21) rfl (hb hby d13_7) (by decide) (by decide) ?_
      show own_S p e below s₁ (mkF m 21 #[.val (.long q0), .second, .val (.long q1), .second] [.int (-1)]) _
      have q : (own_cmp q0 q1) = (-1 : Int32) := by unfold own_cmp; rw [if_pos hc2]
      have hr := own_cast (P := fun z => ∀ (f : JFrame) (acts : List Action), f.method = m → f.locked = none → f.entered = [] → (doReturn e (s₁.setTop f) acts (some (.int z))).1 = s₁.setFrames fs) q hr
      exact retI X0 hx Bd.returns (hb hby d13_21) hr
    · show own_S p e below s₁ (mkF m 3 #[.val (.long q0), .second, .val (.long q1), .second] [(.int (lcmpW q0 q1))]) _
      refine XS.ifYes X0.here hx rfl (pc0 := 3) (pc' := 10) rfl (hb hby d13_3) rfl ((if0 _ _).trans (flt (fun q => hc2 ((lw_lt q0 q1).mp q))).2.1) (by decide) (by decide) ?_
      show own_S p e below s₁ (mkF m 10 #[.val (.long q0), .second, .val (.long q1), .second] []) _
      refine XS.lloadN X0.here hx rfl (hb hby d13_10) rfl ?_
      show own_S p e below s₁ (mkF m 11 #[.val (.long q0), .second, .val (.long q1), .second] [(.long q0)]) _
      refine XS.lloadN X0.here hx rfl (hb hby d13_11) rfl ?_
      show own_S p e below s₁ (mkF m 12 #[.val (.long q0), .second, .val (.long q1), .second] [(.long q1), (.long q0)]) _
      refine XS.lcmp X0.here hx rfl (hb hby d13_12) rfl ?_
      by_cases hc3 : q0 = q1
      · show own_S p e below s₁ (mkF m 13 #[.val (.long q0), .second, .val (.long q1), .second] [(.int (lcmpW q0 q1))]) _
        refine XS.ifNo X0.here hx rfl (hb hby d13_13) rfl ((if0 _ _).trans (teq ((lw_eq q0 q1).mpr hc3)).2) ?_
        show own_S p e below s₁ (mkF m 16 #[.val (.long q0), .second, .val (.long q1), .second] []) _
        refine XS.iconst X0.here hx rfl (hb hby d13_16) ?_
        show own_S p e below s₁ (mkF m 17 #[.val (.long q0), .second, .val (.long q1), .second] [.int 0]) _
        refine XS.goto X0.here hx rfl (pc0 := 17) (pc' := 21) rfl (hb hby d13_17) (by decide) (by decide) ?_
        show own_S p e below s₁ (mkF m 21 #[.val (.long q0), .second, .val (.long q1), .second] [.int 0]) _
        have q : (own_cmp q0 q1) = (0 : Int32) := by unfold own_cmp; rw [if_neg hc2, if_pos hc3]
        have hr := own_cast (P := fun z => ∀ (f : JFrame) (acts : List Action), f.method = m → f.locked = none → f.entered = [] → (doReturn e (s₁.setTop f) acts (some (.int z))).1 = s₁.setFrames fs) q hr
        exact retI X0 hx Bd.returns (hb hby d13_21) hr
      · show own_S p e below s₁ (mkF m 13 #[.val (.long q0), .second, .val (.long q1), .second] [(.int (lcmpW q0 q1))]) _
        refine XS.ifYes X0.here hx rfl (pc0 := 13) (pc' := 20) rfl (hb hby d13_13) rfl ((if0 _ _).trans (feq (fun q => hc3 ((lw_eq q0 q1).mp q))).2) (by decide) (by decide) ?_
        show own_S p e below s₁ (mkF m 20 #[.val (.long q0), .second, .val (.long q1), .second] []) _
        refine XS.iconst X0.here hx rfl (hb hby d13_20) ?_
        show own_S p e below s₁ (mkF m 21 #[.val (.long q0), .second, .val (.long q1), .second] [.int 1]) _
        have q : (own_cmp q0 q1) = (1 : Int32) := by unfold own_cmp; rw [if_neg hc2, if_neg hc3]
        have hr := own_cast (P := fun z => ∀ (f : JFrame) (acts : List Action), f.method = m → f.locked = none → f.entered = [] → (doReturn e (s₁.setTop f) acts (some (.int z))).1 = s₁.setFrames fs) q hr
        exact retI X0 hx Bd.returns (hb hby d13_21) hr
  · show Q13 Z q0 q1 h0 n0 _ s₁.heap _
    rw [e0]
    exact ⟨rfl, N0, rfl⟩
theorem ef_12 (m : MethodId) (q0 : Int64) (q1 : Int64) : entryFrame m #[(.long q0), (.long q1)] 4 = mkF m 0 #[.val (.long q0), .second, .val (.long q1), .second] [] := by first | (simp [entryFrame, mkF, argsToLocals, Value.category]; done) | rfl
theorem d12_0 : decode jdk_35_method_43_code 0 = .ok (.lload_n 0, 1) := by decide +kernel
theorem d12_1 : decode jdk_35_method_43_code 1 = .ok (.ldc2_w 168, 3) := by decide +kernel
theorem d12_4 : decode jdk_35_method_43_code 4 = .ok (.ladd, 1) := by decide +kernel
theorem d12_5 : decode jdk_35_method_43_code 5 = .ok (.lload_n 2, 1) := by decide +kernel
theorem d12_6 : decode jdk_35_method_43_code 6 = .ok (.ldc2_w 168, 3) := by decide +kernel
theorem d12_9 : decode jdk_35_method_43_code 9 = .ok (.ladd, 1) := by decide +kernel
theorem pd_3 : parseMethodDescriptor "(JJ)I" = some ⟨[.long, .long], some .int⟩ := by decide +kernel
theorem d12_10 : decode jdk_35_method_43_code 10 = .ok (.invokestatic 302, 3) := by decide +kernel
theorem d12_13 : decode jdk_35_method_43_code 13 = .ok (.ireturn, 1) := by decide +kernel
def Q12 (Z : State) (q0 : Int64) (q1 : Int64) (h0 : Heap) (n0 : Nat) (v : Option Value) (h : Heap) (L : List Loc) : Prop := v = some (.int (own_cmp (q0 + (-9223372036854775808 : Int64)) (q1 + (-9223372036854775808 : Int64)))) ∧ Fr n0 L ∧ h = h0
set_option maxRecDepth 65536 in
set_option maxHeartbeats 40000000 in
theorem rm12 (l : Launch) (Z : State) (ag : Array Value) (hw : ∀ d ∈ tables_1, d.before ag Z = true) (ws : List Jvm.Cond) (q0 : Int64) (q1 : Int64) (h0 : Heap) (n0 : Nat) (Z0 : n0 ≤ h0.size) :
    MetFree l (⟨"java/lang/Long", "compareUnsigned", "(JJ)I"⟩ : MethodName) (head1 (Jvm.Cond.code (⟨"java/lang/Long", "compareUnsigned", "(JJ)I"⟩ : MethodName) jdk_35_method_43_code 4 (some .int) :: ws) ({ frames := 1, cells := 0, slots := 0, locals := 15 } : Room)) (fun a U => a = #[(.long q0), (.long q1)] ∧ Z.Warmed39 U.vm ∧ U.heap = h0) (fun _ _ _ _ _ => True) (fun _ U o U' => ∃ v L, o = .returned v ∧ Q12 Z q0 q1 h0 n0 v U'.heap L ∧ FrameEnd U o U' L ({ frames := 1, cells := 0, slots := 0, locals := 15 } : Room).cells ({ frames := 1, cells := 0, slots := 0, locals := 15 } : Room).slots) := by
  refine MetFree.of_bodySF (plainFor_of_name pn_3) hisR ?_
  intro p e s m args below meth c s₁ Bd hml0 hP hK
  obtain ⟨rfl, hZ, hh⟩ := hP
  have hx := Bd.exec
  have hby := Bd.bytes
  have hml : c.maxLocals = 4 := hml0
  have hown : s.vm.findClass "java/lang/Long" = some m.cls := findClass_of_methodNamed Bd.named
  have hnm := (name_of_methodNamed Bd.named Bd.method).1
  have X0 : Stand p l e ({ frames := 1, cells := 0, slots := 0, locals := 15 } : Room) s m #[(.long q0), (.long q1)] below meth c s₁ [] 0 0 := Stand.of_body Bd
  have e0 : s₁.heap = h0 := by rw [← hh, Bd.state]; rfl
  have N0 := Fr.nil n0
  have pre0 : ∀ t, Steps p.tables e below (s₁.setTop (mkF m 0 #[.val (.long q0), .second, .val (.long q1), .second] [])) t → Steps p.tables e below (s₁.setTop (entryFrame m #[(.long q0), (.long q1)] 4)) t := fun t k => castTop (ef_12 m q0 q1) k
  obtain ⟨_, _, ⟨T4, L4, k4, n4⟩, -, X4, ⟨Lc4, hQ4, l4, y4, z4⟩, st4⟩ := Jvm.LawKit.callS X0 hx (y := (⟨"java/lang/Long", "compare", "(JJ)I"⟩ : MethodName)) hown (mvT hZ (hw _ (List.mem_of_getElem? (i := 77) rfl))) (mvT hZ (hw _ (List.mem_of_getElem? (i := 78) rfl))) (mvT hZ (hw _ (List.mem_of_getElem? (i := 74) rfl))) (mvT hZ (hw _ (List.mem_of_getElem? (i := 79) rfl))) (by decide) (backOf (W := 0) (rm13 l Z ag hw [] (q0 + (-9223372036854775808 : Int64)) (q1 + (-9223372036854775808 : Int64))  h0 n0 Z0 ) hZ (hw _ (List.mem_of_getElem? (i := 79) rfl)) (hw _ (List.mem_of_getElem? (i := 74) rfl)) (by decide) (by decide)) (g := (mkF m 10 #[.val (.long q0), .second, .val (.long q1), .second] [(.long (q1 + (-9223372036854775808 : Int64))), (.long (q0 + (-9223372036854775808 : Int64)))])) rfl (by rw [hml]; rfl) (argsL := [(.long (q0 + (-9223372036854775808 : Int64))), (.long (q1 + (-9223372036854775808 : Int64)))]) (rest := []) (lenOf pd_3 rfl) rfl (by show 2 * 0 + _ ≤ _; exact Nat.le_of_eq rfl) (hb hby d12_10) (fun _ _ => ⟨rfl, e0, (by decide : 0 + 0 ≤ _), (by decide : 0 + 0 ≤ _)⟩)
  dsimp only [Pt.U, Pt.locs, Pt.cells, Pt.slots] at X4 l4 y4 z4 st4 hQ4
  subst l4 y4 z4
  obtain ⟨rfl, N4q, e4⟩ := hQ4
  have N4 := Fr.app N0 N4q
  obtain ⟨fs, hr, hrun, hended, hW, hsame⟩ := X4.leave (v := some (.int (own_cmp (q0 + (-9223372036854775808 : Int64)) (q1 + (-9223372036854775808 : Int64))))) (fun h => by rw [Bd.returns] at h; cases h)
  refine ⟨_, _, pre0 _ ?_, hrun, hended, _, _, rfl, ?_, ⟨_, rfl⟩, hW, hsame.mono (by decide) (by decide)⟩
  · show own_S p e below s₁ (mkF m 0 #[.val (.long q0), .second, .val (.long q1), .second] []) _
    refine XS.lloadN X0.here hx rfl (hb hby d12_0) rfl ?_
    show own_S p e below s₁ (mkF m 1 #[.val (.long q0), .second, .val (.long q1), .second] [(.long q0)]) _
    refine X0.ldc2Long hx hown (mvT hZ (hw _ (List.mem_of_getElem? (i := 76) rfl))) (g := (mkF m 1 #[.val (.long q0), .second, .val (.long q1), .second] [(.long q0)])) rfl (hb hby d12_1) _ ?_
    show own_S p e below s₁ (mkF m 4 #[.val (.long q0), .second, .val (.long q1), .second] [.long (-9223372036854775808), (.long q0)]) _
    refine XS.ladd X0.here hx rfl (hb hby d12_4) rfl ?_
    show own_S p e below s₁ (mkF m 5 #[.val (.long q0), .second, .val (.long q1), .second] [(.long (q0 + (-9223372036854775808 : Int64)))]) _
    refine XS.lloadN X0.here hx rfl (hb hby d12_5) rfl ?_
    show own_S p e below s₁ (mkF m 6 #[.val (.long q0), .second, .val (.long q1), .second] [(.long q1), (.long (q0 + (-9223372036854775808 : Int64)))]) _
    refine X0.ldc2Long hx hown (mvT hZ (hw _ (List.mem_of_getElem? (i := 76) rfl))) (g := (mkF m 6 #[.val (.long q0), .second, .val (.long q1), .second] [(.long q1), (.long (q0 + (-9223372036854775808 : Int64)))])) rfl (hb hby d12_6) _ ?_
    show own_S p e below s₁ (mkF m 9 #[.val (.long q0), .second, .val (.long q1), .second] [.long (-9223372036854775808), (.long q1), (.long (q0 + (-9223372036854775808 : Int64)))]) _
    refine XS.ladd X0.here hx rfl (hb hby d12_9) rfl ?_
    show own_S p e below s₁ (mkF m 10 #[.val (.long q0), .second, .val (.long q1), .second] [(.long (q1 + (-9223372036854775808 : Int64))), (.long (q0 + (-9223372036854775808 : Int64)))]) _
    refine st4 _ ?_
    show own_S p e below T4 (mkF m 13 #[.val (.long q0), .second, .val (.long q1), .second] [(.int (own_cmp (q0 + (-9223372036854775808 : Int64)) (q1 + (-9223372036854775808 : Int64))))]) _
    exact retI X4 hx Bd.returns (hb hby d12_13) hr
  · show Q12 Z q0 q1 h0 n0 _ T4.heap _
    rw [e4]
    exact ⟨rfl, N4, rfl⟩
def own_cu (q0 q1 : Int64) : Int32 := own_cmp (q0 + (-9223372036854775808 : Int64)) (q1 + (-9223372036854775808 : Int64))
theorem pn_2 : plainName "com/example/eraztun/eraztun/StretchContainsPinLaw" = true := by first | (simp [plainName, overriddenIn]; done) | decide +kernel
theorem ef_10 (m : MethodId) (q0 : Int64) (q1 : Int64) : entryFrame m #[(.long q0), (.long q1)] 4 = mkF m 0 #[.val (.long q0), .second, .val (.long q1), .second] [] := by first | (simp [entryFrame, mkF, argsToLocals, Value.category]; done) | rfl
theorem d10_0 : decode method_2_code 0 = .ok (.lload_n 0, 1) := by decide +kernel
theorem d10_1 : decode method_2_code 1 = .ok (.ldc2_w 9, 3) := by decide +kernel
theorem d10_4 : decode method_2_code 4 = .ok (.lxor, 1) := by decide +kernel
theorem d10_5 : decode method_2_code 5 = .ok (.lload_n 2, 1) := by decide +kernel
theorem d10_6 : decode method_2_code 6 = .ok (.ldc2_w 9, 3) := by decide +kernel
theorem d10_9 : decode method_2_code 9 = .ok (.lxor, 1) := by decide +kernel
theorem d10_10 : decode method_2_code 10 = .ok (.lcmp, 1) := by decide +kernel
theorem d10_11 : decode method_2_code 11 = .ok (.ifCond .ge 7, 3) := by decide +kernel
theorem d10_14 : decode method_2_code 14 = .ok (.iconst 1, 1) := by decide +kernel
theorem d10_15 : decode method_2_code 15 = .ok (.goto 4, 3) := by decide +kernel
theorem d10_18 : decode method_2_code 18 = .ok (.iconst 0, 1) := by decide +kernel
def own_ul (q0 : Int64) (q1 : Int64) : Int32 := (if (q0 ^^^ (-9223372036854775808 : Int64)) < (q1 ^^^ (-9223372036854775808 : Int64)) then (1 : Int32) else (0 : Int32))
def Q10 (Z : State) (q0 : Int64) (q1 : Int64) (h0 : Heap) (n0 : Nat) (v : Option Value) (h : Heap) (L : List Loc) : Prop := v = some (.int (own_ul q0 q1)) ∧ Fr n0 L ∧ h = h0
theorem d10_19 : decode method_2_code 19 = .ok (.ireturn, 1) := by decide +kernel
set_option maxRecDepth 65536 in
set_option maxHeartbeats 40000000 in
theorem rm10 (l : Launch) (Z : State) (ag : Array Value) (hw : ∀ d ∈ tables_1, d.before ag Z = true) (ws : List Jvm.Cond) (q0 : Int64) (q1 : Int64) (h0 : Heap) (n0 : Nat) (Z0 : n0 ≤ h0.size) :
    MetFree l (⟨"com/example/eraztun/eraztun/StretchContainsPinLaw", "unsignedLess", "(JJ)Z"⟩ : MethodName) (head1 (Jvm.Cond.code (⟨"com/example/eraztun/eraztun/StretchContainsPinLaw", "unsignedLess", "(JJ)Z"⟩ : MethodName) method_2_code 4 (some .boolean) :: ws) ({ frames := 0, cells := 0, slots := 0, locals := 0 } : Room)) (fun a U => a = #[(.long q0), (.long q1)] ∧ Z.Warmed39 U.vm ∧ U.heap = h0) (fun _ _ _ _ _ => True) (fun _ U o U' => ∃ v L, o = .returned v ∧ Q10 Z q0 q1 h0 n0 v U'.heap L ∧ FrameEnd U o U' L ({ frames := 0, cells := 0, slots := 0, locals := 0 } : Room).cells ({ frames := 0, cells := 0, slots := 0, locals := 0 } : Room).slots) := by
  refine MetFree.of_bodySF (plainFor_of_name pn_2) hisR ?_
  intro p e s m args below meth c s₁ Bd hml0 hP hK
  obtain ⟨rfl, hZ, hh⟩ := hP
  have hx := Bd.exec
  have hby := Bd.bytes
  have hml : c.maxLocals = 4 := hml0
  have hown : s.vm.findClass "com/example/eraztun/eraztun/StretchContainsPinLaw" = some m.cls := findClass_of_methodNamed Bd.named
  have hnm := (name_of_methodNamed Bd.named Bd.method).1
  have X0 : Stand p l e ({ frames := 0, cells := 0, slots := 0, locals := 0 } : Room) s m #[(.long q0), (.long q1)] below meth c s₁ [] 0 0 := Stand.of_body Bd
  have e0 : s₁.heap = h0 := by rw [← hh, Bd.state]; rfl
  have N0 := Fr.nil n0
  have pre0 : ∀ t, Steps p.tables e below (s₁.setTop (mkF m 0 #[.val (.long q0), .second, .val (.long q1), .second] [])) t → Steps p.tables e below (s₁.setTop (entryFrame m #[(.long q0), (.long q1)] 4)) t := fun t k => castTop (ef_10 m q0 q1) k
  obtain ⟨fs, hr, hrun, hended, hW, hsame⟩ := X0.leave (v := some (.int (own_ul q0 q1))) (fun h => by rw [Bd.returns] at h; cases h)
  refine ⟨_, _, pre0 _ ?_, hrun, hended, _, _, rfl, ?_, ⟨_, rfl⟩, hW, hsame.mono (by decide) (by decide)⟩
  · show own_S p e below s₁ (mkF m 0 #[.val (.long q0), .second, .val (.long q1), .second] []) _
    refine XS.lloadN X0.here hx rfl (hb hby d10_0) rfl ?_
    show own_S p e below s₁ (mkF m 1 #[.val (.long q0), .second, .val (.long q1), .second] [(.long q0)]) _
    refine X0.ldc2Long hx hown (mvT hZ (hw _ (List.mem_of_getElem? (i := 66) rfl))) (g := (mkF m 1 #[.val (.long q0), .second, .val (.long q1), .second] [(.long q0)])) rfl (hb hby d10_1) _ ?_
    show own_S p e below s₁ (mkF m 4 #[.val (.long q0), .second, .val (.long q1), .second] [.long (-9223372036854775808), (.long q0)]) _
    refine XS.lxor X0.here hx rfl (hb hby d10_4) rfl ?_
    show own_S p e below s₁ (mkF m 5 #[.val (.long q0), .second, .val (.long q1), .second] [(.long (q0 ^^^ (-9223372036854775808 : Int64)))]) _
    refine XS.lloadN X0.here hx rfl (hb hby d10_5) rfl ?_
    show own_S p e below s₁ (mkF m 6 #[.val (.long q0), .second, .val (.long q1), .second] [(.long q1), (.long (q0 ^^^ (-9223372036854775808 : Int64)))]) _
    refine X0.ldc2Long hx hown (mvT hZ (hw _ (List.mem_of_getElem? (i := 66) rfl))) (g := (mkF m 6 #[.val (.long q0), .second, .val (.long q1), .second] [(.long q1), (.long (q0 ^^^ (-9223372036854775808 : Int64)))])) rfl (hb hby d10_6) _ ?_
    show own_S p e below s₁ (mkF m 9 #[.val (.long q0), .second, .val (.long q1), .second] [.long (-9223372036854775808), (.long q1), (.long (q0 ^^^ (-9223372036854775808 : Int64)))]) _
    refine XS.lxor X0.here hx rfl (hb hby d10_9) rfl ?_
    show own_S p e below s₁ (mkF m 10 #[.val (.long q0), .second, .val (.long q1), .second] [(.long (q1 ^^^ (-9223372036854775808 : Int64))), (.long (q0 ^^^ (-9223372036854775808 : Int64)))]) _
    refine XS.lcmp X0.here hx rfl (hb hby d10_10) rfl ?_
    by_cases hc5 : (q0 ^^^ (-9223372036854775808 : Int64)) < (q1 ^^^ (-9223372036854775808 : Int64))
    · show own_S p e below s₁ (mkF m 11 #[.val (.long q0), .second, .val (.long q1), .second] [(.int (lcmpW (q0 ^^^ (-9223372036854775808 : Int64)) (q1 ^^^ (-9223372036854775808 : Int64))))]) _
      refine XS.ifNo X0.here hx rfl (hb hby d10_11) rfl ((if0 _ _).trans (tlt ((lw_lt (q0 ^^^ (-9223372036854775808 : Int64)) (q1 ^^^ (-9223372036854775808 : Int64))).mpr hc5)).2.1) ?_
      show own_S p e below s₁ (mkF m 14 #[.val (.long q0), .second, .val (.long q1), .second] []) _
      refine XS.iconst X0.here hx rfl (hb hby d10_14) ?_
      show own_S p e below s₁ (mkF m 15 #[.val (.long q0), .second, .val (.long q1), .second] [.int 1]) _
      refine XS.goto X0.here hx rfl (pc0 := 15) (pc' := 19) rfl (hb hby d10_15) (by decide) (by decide) ?_
      show own_S p e below s₁ (mkF m 19 #[.val (.long q0), .second, .val (.long q1), .second] [.int 1]) _
      have q : (own_ul q0 q1) = (1 : Int32) := by unfold own_ul; rw [if_pos hc5]
      have hr := own_cast (P := fun z => ∀ (f : JFrame) (acts : List Action), f.method = m → f.locked = none → f.entered = [] → (doReturn e (s₁.setTop f) acts (some (.int z))).1 = s₁.setFrames fs) q hr
      exact retN X0 hx (t := .boolean) Bd.returns (by simp) (hb hby d10_19) hr
    · show own_S p e below s₁ (mkF m 11 #[.val (.long q0), .second, .val (.long q1), .second] [(.int (lcmpW (q0 ^^^ (-9223372036854775808 : Int64)) (q1 ^^^ (-9223372036854775808 : Int64))))]) _
      refine XS.ifYes X0.here hx rfl (pc0 := 11) (pc' := 18) rfl (hb hby d10_11) rfl ((if0 _ _).trans (flt (fun q => hc5 ((lw_lt (q0 ^^^ (-9223372036854775808 : Int64)) (q1 ^^^ (-9223372036854775808 : Int64))).mp q))).2.1) (by decide) (by decide) ?_
      show own_S p e below s₁ (mkF m 18 #[.val (.long q0), .second, .val (.long q1), .second] []) _
      refine XS.iconst X0.here hx rfl (hb hby d10_18) ?_
      show own_S p e below s₁ (mkF m 19 #[.val (.long q0), .second, .val (.long q1), .second] [.int 0]) _
      have q : (own_ul q0 q1) = (0 : Int32) := by unfold own_ul; rw [if_neg hc5]
      have hr := own_cast (P := fun z => ∀ (f : JFrame) (acts : List Action), f.method = m → f.locked = none → f.entered = [] → (doReturn e (s₁.setTop f) acts (some (.int z))).1 = s₁.setFrames fs) q hr
      exact retN X0 hx (t := .boolean) Bd.returns (by simp) (hb hby d10_19) hr
  · show Q10 Z q0 q1 h0 n0 _ s₁.heap _
    rw [e0]
    exact ⟨rfl, N0, rfl⟩
theorem pn_1 : plainName "com/example/eraztun/eraztun/Ring$Stretch" = true := by first | (simp [plainName, overriddenIn]; done) | decide +kernel
theorem ef_11 (m : MethodId) (a0 : Addr) (q1 : Int64) : entryFrame m #[(.ref a0), (.long q1)] 5 = mkF m 0 #[.val (.ref a0), .val (.long q1), .second, .unset, .unset] [] := by first | (simp [entryFrame, mkF, argsToLocals, Value.category]; done) | rfl
theorem d11_0 : decode prog_12_method_2_code 0 = .ok (.lload_n 1, 1) := by decide +kernel
theorem d11_1 : decode prog_12_method_2_code 1 = .ok (.aload_n 0, 1) := by decide +kernel
theorem d11_2 : decode prog_12_method_2_code 2 = .ok (.getfield 13, 3) := by decide +kernel
theorem d11_5 : decode prog_12_method_2_code 5 = .ok (.invokestatic 29, 3) := by decide +kernel
theorem d11_8 : decode prog_12_method_2_code 8 = .ok (.ifCond .le 7, 3) := by decide +kernel
theorem d11_11 : decode prog_12_method_2_code 11 = .ok (.iconst 1, 1) := by decide +kernel
theorem d11_12 : decode prog_12_method_2_code 12 = .ok (.goto 4, 3) := by decide +kernel
theorem d11_15 : decode prog_12_method_2_code 15 = .ok (.iconst 0, 1) := by decide +kernel
def own_g11_8 (q1 : Int64) (st : Int64) : Int32 := (if (0 : Int32) < (own_cu q1 st) then (1 : Int32) else (0 : Int32))
theorem d11_16 : decode prog_12_method_2_code 16 = .ok (.istore_n 3, 1) := by decide +kernel
theorem d11_17 : decode prog_12_method_2_code 17 = .ok (.lload_n 1, 1) := by decide +kernel
theorem d11_18 : decode prog_12_method_2_code 18 = .ok (.aload_n 0, 1) := by decide +kernel
theorem d11_19 : decode prog_12_method_2_code 19 = .ok (.getfield 19, 3) := by decide +kernel
theorem d11_22 : decode prog_12_method_2_code 22 = .ok (.invokestatic 29, 3) := by decide +kernel
theorem d11_25 : decode prog_12_method_2_code 25 = .ok (.ifCond .gt 7, 3) := by decide +kernel
theorem d11_32 : decode prog_12_method_2_code 32 = .ok (.iconst 0, 1) := by decide +kernel
theorem d11_28 : decode prog_12_method_2_code 28 = .ok (.iconst 1, 1) := by decide +kernel
theorem d11_29 : decode prog_12_method_2_code 29 = .ok (.goto 4, 3) := by decide +kernel
def own_g11_25 (q1 : Int64) (en : Int64) : Int32 := (if (0 : Int32) < (own_cu q1 en) then (0 : Int32) else (1 : Int32))
theorem d11_33 : decode prog_12_method_2_code 33 = .ok (.istore 4, 2) := by decide +kernel
abbrev own_loc1 (a0 : Addr) (q1 : Int64) (st : Int64) (en : Int64) : Array Slot := #[.val (.ref a0), .val (.long q1), .second, .val (.int (own_g11_8 q1 st)), .val (.int (own_g11_25 q1 en))]
theorem d11_35 : decode prog_12_method_2_code 35 = .ok (.aload_n 0, 1) := by decide +kernel
theorem d11_36 : decode prog_12_method_2_code 36 = .ok (.getfield 13, 3) := by decide +kernel
theorem d11_39 : decode prog_12_method_2_code 39 = .ok (.aload_n 0, 1) := by decide +kernel
theorem d11_40 : decode prog_12_method_2_code 40 = .ok (.getfield 19, 3) := by decide +kernel
theorem d11_43 : decode prog_12_method_2_code 43 = .ok (.invokestatic 29, 3) := by decide +kernel
theorem d11_46 : decode prog_12_method_2_code 46 = .ok (.ifCond .ge 20, 3) := by decide +kernel
theorem d11_49 : decode prog_12_method_2_code 49 = .ok (.iload_n 3, 1) := by decide +kernel
theorem d11_50 : decode prog_12_method_2_code 50 = .ok (.ifCond .eq 12, 3) := by decide +kernel
theorem d11_62 : decode prog_12_method_2_code 62 = .ok (.iconst 0, 1) := by decide +kernel
theorem d11_63 : decode prog_12_method_2_code 63 = .ok (.goto 17, 3) := by decide +kernel
theorem d11_53 : decode prog_12_method_2_code 53 = .ok (.iload 4, 2) := by decide +kernel
theorem d11_55 : decode prog_12_method_2_code 55 = .ok (.ifCond .eq 7, 3) := by decide +kernel
theorem d11_58 : decode prog_12_method_2_code 58 = .ok (.iconst 1, 1) := by decide +kernel
theorem d11_59 : decode prog_12_method_2_code 59 = .ok (.goto 21, 3) := by decide +kernel
theorem d11_66 : decode prog_12_method_2_code 66 = .ok (.iload_n 3, 1) := by decide +kernel
theorem d11_67 : decode prog_12_method_2_code 67 = .ok (.ifCond .ne 8, 3) := by decide +kernel
theorem d11_70 : decode prog_12_method_2_code 70 = .ok (.iload 4, 2) := by decide +kernel
theorem d11_72 : decode prog_12_method_2_code 72 = .ok (.ifCond .eq 7, 3) := by decide +kernel
theorem d11_79 : decode prog_12_method_2_code 79 = .ok (.iconst 0, 1) := by decide +kernel
theorem d11_75 : decode prog_12_method_2_code 75 = .ok (.iconst 1, 1) := by decide +kernel
theorem d11_76 : decode prog_12_method_2_code 76 = .ok (.goto 4, 3) := by decide +kernel
def own_g11_46 (q1 : Int64) (st : Int64) (en : Int64) : Int32 := (if (own_cu st en) < (0 : Int32) then (if (own_g11_8 q1 st) = (0 : Int32) then (0 : Int32) else (if (own_g11_25 q1 en) = (0 : Int32) then (0 : Int32) else (1 : Int32))) else (if (own_g11_8 q1 st) = (0 : Int32) then (if (own_g11_25 q1 en) = (0 : Int32) then (0 : Int32) else (1 : Int32)) else (1 : Int32)))
theorem d11_80 : decode prog_12_method_2_code 80 = .ok (.ireturn, 1) := by decide +kernel
def Q11 (Z : State) (a0 : Addr) (q1 : Int64) (st : Int64) (en : Int64) (h0 : Heap) (n0 : Nat) (v : Option Value) (h : Heap) (L : List Loc) : Prop := v = some (.int (nar .boolean (own_g11_46 q1 st en))) ∧ Fr n0 L ∧ h = h0
set_option maxRecDepth 65536 in
set_option maxHeartbeats 40000000 in
theorem rm11 (l : Launch) (Z : State) (ag : Array Value) (hw : ∀ d ∈ tables_1, d.before ag Z = true) (ws : List Jvm.Cond) (a0 : Addr) (q1 : Int64) (st : Int64) (en : Int64) (h0 : Heap) (n0 : Nat) (Z0 : n0 ≤ h0.size) (F_start_a0 : Fld Z h0 a0 "com/example/eraztun/eraztun/Ring$Stretch" "start" "J" (.long st)) (F_end_a0 : Fld Z h0 a0 "com/example/eraztun/eraztun/Ring$Stretch" "end" "J" (.long en)) :
    MetFree l (⟨"com/example/eraztun/eraztun/Ring$Stretch", "contains", "(J)Z"⟩ : MethodName) (head1 (Jvm.Cond.code (⟨"com/example/eraztun/eraztun/Ring$Stretch", "contains", "(J)Z"⟩ : MethodName) prog_12_method_2_code 5 (some .boolean) :: ws) ({ frames := 2, cells := 0, slots := 0, locals := 30 } : Room)) (fun a U => a = #[(.ref a0), (.long q1)] ∧ Z.Warmed39 U.vm ∧ U.heap = h0) (fun _ _ _ _ _ => True) (fun _ U o U' => ∃ v L, o = .returned v ∧ Q11 Z a0 q1 st en h0 n0 v U'.heap L ∧ FrameEnd U o U' L ({ frames := 2, cells := 0, slots := 0, locals := 30 } : Room).cells ({ frames := 2, cells := 0, slots := 0, locals := 30 } : Room).slots) := by
  refine MetFree.of_bodySF (plainFor_of_name pn_1) hisR ?_
  intro p e s m args below meth c s₁ Bd hml0 hP hK
  obtain ⟨rfl, hZ, hh⟩ := hP
  have hx := Bd.exec
  have hby := Bd.bytes
  have hml : c.maxLocals = 5 := hml0
  have hown : s.vm.findClass "com/example/eraztun/eraztun/Ring$Stretch" = some m.cls := findClass_of_methodNamed Bd.named
  have hnm := (name_of_methodNamed Bd.named Bd.method).1
  have X0 : Stand p l e ({ frames := 2, cells := 0, slots := 0, locals := 30 } : Room) s m #[(.ref a0), (.long q1)] below meth c s₁ [] 0 0 := Stand.of_body Bd
  have e0 : s₁.heap = h0 := by rw [← hh, Bd.state]; rfl
  have N0 := Fr.nil n0
  have pre0 : ∀ t, Steps p.tables e below (s₁.setTop (mkF m 0 #[.val (.ref a0), .val (.long q1), .second, .unset, .unset] [])) t → Steps p.tables e below (s₁.setTop (entryFrame m #[(.ref a0), (.long q1)] 5)) t := fun t k => castTop (ef_11 m a0 q1) k
  obtain ⟨T6, X6, e6, st6⟩ := getF X0 hx hZ hown (host := "") (Or.inl (hw _ (List.mem_of_getElem? (i := 54) rfl))) Via.refl e0 F_start_a0 (g := (mkF m 2 #[.val (.ref a0), .val (.long q1), .second, .unset, .unset] [(.ref a0), (.long q1)])) rfl rfl (hb hby d11_2)
  obtain ⟨_, _, ⟨T7, L7, k7, n7⟩, -, X7, ⟨Lc7, hQ7, l7, y7, z7⟩, st7⟩ := Jvm.LawKit.callS X6 hx (y := (⟨"java/lang/Long", "compareUnsigned", "(JJ)I"⟩ : MethodName)) hown (mvT hZ (hw _ (List.mem_of_getElem? (i := 72) rfl))) (mvT hZ (hw _ (List.mem_of_getElem? (i := 73) rfl))) (mvT hZ (hw _ (List.mem_of_getElem? (i := 74) rfl))) (mvT hZ (hw _ (List.mem_of_getElem? (i := 75) rfl))) (by decide) (backOf (W := 0) (rm12 l Z ag hw [] q1 st  h0 n0 Z0 ) hZ (hw _ (List.mem_of_getElem? (i := 75) rfl)) (hw _ (List.mem_of_getElem? (i := 74) rfl)) (by decide) (by decide)) (g := (mkF m 5 #[.val (.ref a0), .val (.long q1), .second, .unset, .unset] [(.long st), (.long q1)])) rfl (by rw [hml]; rfl) (argsL := [(.long q1), (.long st)]) (rest := []) (lenOf pd_3 rfl) rfl (by show 2 * 0 + _ ≤ _; exact Nat.le_of_eq rfl) (hb hby d11_5) (fun _ _ => ⟨rfl, e6, (by decide : 0 + 0 ≤ _), (by decide : 0 + 0 ≤ _)⟩)
  dsimp only [Pt.U, Pt.locs, Pt.cells, Pt.slots] at X7 l7 y7 z7 st7 hQ7
  subst l7 y7 z7
  obtain ⟨rfl, N7q, e7⟩ := hQ7
  have N7 := Fr.app N0 N7q
  have sg9 : ∀ target, Steps p.tables e below (T7.setTop (mkF m 16 #[.val (.ref a0), .val (.long q1), .second, .unset, .unset] [(.int (own_g11_8 q1 st))])) target → Steps p.tables e below (T7.setTop (mkF m 8 #[.val (.ref a0), .val (.long q1), .second, .unset, .unset] [(.int (own_cu q1 st))])) target := by
    intro target kt
    by_cases hc8 : (0 : Int32) < (own_cu q1 st)
    · show own_S p e below T7 (mkF m 8 #[.val (.ref a0), .val (.long q1), .second, .unset, .unset] [(.int (own_cu q1 st))]) _
      refine XS.ifNo X7.here hx rfl (hb hby d11_8) rfl ((if0 _ _).trans (tlt hc8).2.2.2) ?_
      show own_S p e below T7 (mkF m 11 #[.val (.ref a0), .val (.long q1), .second, .unset, .unset] []) _
      refine XS.iconst X7.here hx rfl (hb hby d11_11) ?_
      show own_S p e below T7 (mkF m 12 #[.val (.ref a0), .val (.long q1), .second, .unset, .unset] [.int 1]) _
      refine XS.goto X7.here hx rfl (pc0 := 12) (pc' := 16) rfl (hb hby d11_12) (by decide) (by decide) ?_
      show own_S p e below T7 (mkF m 16 #[.val (.ref a0), .val (.long q1), .second, .unset, .unset] [.int 1]) _
      have kt := own_cast (P := fun z => Steps p.tables e below (T7.setTop (mkF m 16 #[.val (.ref a0), .val (.long q1), .second, .unset, .unset] [(.int z)])) target) (show (own_g11_8 q1 st) = (1 : Int32) from (by unfold own_g11_8; rw [if_pos hc8])) kt
      exact kt
    · show own_S p e below T7 (mkF m 8 #[.val (.ref a0), .val (.long q1), .second, .unset, .unset] [(.int (own_cu q1 st))]) _
      refine XS.ifYes X7.here hx rfl (pc0 := 8) (pc' := 15) rfl (hb hby d11_8) rfl ((if0 _ _).trans (flt hc8).2.2.2) (by decide) (by decide) ?_
      show own_S p e below T7 (mkF m 15 #[.val (.ref a0), .val (.long q1), .second, .unset, .unset] []) _
      refine XS.iconst X7.here hx rfl (hb hby d11_15) ?_
      show own_S p e below T7 (mkF m 16 #[.val (.ref a0), .val (.long q1), .second, .unset, .unset] [.int 0]) _
      have kt := own_cast (P := fun z => Steps p.tables e below (T7.setTop (mkF m 16 #[.val (.ref a0), .val (.long q1), .second, .unset, .unset] [(.int z)])) target) (show (own_g11_8 q1 st) = (0 : Int32) from (by unfold own_g11_8; rw [if_neg hc8])) kt
      exact kt
  obtain ⟨T10, X10, e10, st10⟩ := getF X7 hx hZ hown (host := "") (Or.inl (hw _ (List.mem_of_getElem? (i := 56) rfl))) Via.refl e7 F_end_a0 (g := (mkF m 19 #[.val (.ref a0), .val (.long q1), .second, .val (.int (own_g11_8 q1 st)), .unset] [(.ref a0), (.long q1)])) rfl rfl (hb hby d11_19)
  obtain ⟨_, _, ⟨T11, L11, k11, n11⟩, -, X11, ⟨Lc11, hQ11, l11, y11, z11⟩, st11⟩ := Jvm.LawKit.callS X10 hx (y := (⟨"java/lang/Long", "compareUnsigned", "(JJ)I"⟩ : MethodName)) hown (mvT hZ (hw _ (List.mem_of_getElem? (i := 72) rfl))) (mvT hZ (hw _ (List.mem_of_getElem? (i := 73) rfl))) (mvT hZ (hw _ (List.mem_of_getElem? (i := 74) rfl))) (mvT hZ (hw _ (List.mem_of_getElem? (i := 75) rfl))) (by decide) (backOf (W := 0) (rm12 l Z ag hw [] q1 en  h0 n0 Z0 ) hZ (hw _ (List.mem_of_getElem? (i := 75) rfl)) (hw _ (List.mem_of_getElem? (i := 74) rfl)) (by decide) (by decide)) (g := (mkF m 22 #[.val (.ref a0), .val (.long q1), .second, .val (.int (own_g11_8 q1 st)), .unset] [(.long en), (.long q1)])) rfl (by rw [hml]; rfl) (argsL := [(.long q1), (.long en)]) (rest := []) (lenOf pd_3 rfl) rfl (by show 2 * 0 + _ ≤ _; exact Nat.le_of_eq rfl) (hb hby d11_22) (fun _ _ => ⟨rfl, e10, (by decide : 0 + 0 ≤ _), (by decide : 0 + 0 ≤ _)⟩)
  dsimp only [Pt.U, Pt.locs, Pt.cells, Pt.slots] at X11 l11 y11 z11 st11 hQ11
  subst l11 y11 z11
  obtain ⟨rfl, N11q, e11⟩ := hQ11
  have N11 := Fr.app N7 N11q
  have sg13 : ∀ target, Steps p.tables e below (T11.setTop (mkF m 33 #[.val (.ref a0), .val (.long q1), .second, .val (.int (own_g11_8 q1 st)), .unset] [(.int (own_g11_25 q1 en))])) target → Steps p.tables e below (T11.setTop (mkF m 25 #[.val (.ref a0), .val (.long q1), .second, .val (.int (own_g11_8 q1 st)), .unset] [(.int (own_cu q1 en))])) target := by
    intro target kt
    by_cases hc12 : (0 : Int32) < (own_cu q1 en)
    · show own_S p e below T11 (mkF m 25 #[.val (.ref a0), .val (.long q1), .second, .val (.int (own_g11_8 q1 st)), .unset] [(.int (own_cu q1 en))]) _
      refine XS.ifYes X11.here hx rfl (pc0 := 25) (pc' := 32) rfl (hb hby d11_25) rfl ((if0 _ _).trans (tlt hc12).2.2.1) (by decide) (by decide) ?_
      show own_S p e below T11 (mkF m 32 #[.val (.ref a0), .val (.long q1), .second, .val (.int (own_g11_8 q1 st)), .unset] []) _
      refine XS.iconst X11.here hx rfl (hb hby d11_32) ?_
      show own_S p e below T11 (mkF m 33 #[.val (.ref a0), .val (.long q1), .second, .val (.int (own_g11_8 q1 st)), .unset] [.int 0]) _
      have kt := own_cast (P := fun z => Steps p.tables e below (T11.setTop (mkF m 33 #[.val (.ref a0), .val (.long q1), .second, .val (.int (own_g11_8 q1 st)), .unset] [(.int z)])) target) (show (own_g11_25 q1 en) = (0 : Int32) from (by unfold own_g11_25; rw [if_pos hc12])) kt
      exact kt
    · show own_S p e below T11 (mkF m 25 #[.val (.ref a0), .val (.long q1), .second, .val (.int (own_g11_8 q1 st)), .unset] [(.int (own_cu q1 en))]) _
      refine XS.ifNo X11.here hx rfl (hb hby d11_25) rfl ((if0 _ _).trans (flt hc12).2.2.1) ?_
      show own_S p e below T11 (mkF m 28 #[.val (.ref a0), .val (.long q1), .second, .val (.int (own_g11_8 q1 st)), .unset] []) _
      refine XS.iconst X11.here hx rfl (hb hby d11_28) ?_
      show own_S p e below T11 (mkF m 29 #[.val (.ref a0), .val (.long q1), .second, .val (.int (own_g11_8 q1 st)), .unset] [.int 1]) _
      refine XS.goto X11.here hx rfl (pc0 := 29) (pc' := 33) rfl (hb hby d11_29) (by decide) (by decide) ?_
      show own_S p e below T11 (mkF m 33 #[.val (.ref a0), .val (.long q1), .second, .val (.int (own_g11_8 q1 st)), .unset] [.int 1]) _
      have kt := own_cast (P := fun z => Steps p.tables e below (T11.setTop (mkF m 33 #[.val (.ref a0), .val (.long q1), .second, .val (.int (own_g11_8 q1 st)), .unset] [(.int z)])) target) (show (own_g11_25 q1 en) = (1 : Int32) from (by unfold own_g11_25; rw [if_neg hc12])) kt
      exact kt
  obtain ⟨T14, X14, e14, st14⟩ := getF X11 hx hZ hown (host := "") (Or.inl (hw _ (List.mem_of_getElem? (i := 54) rfl))) Via.refl e11 F_start_a0 (g := (mkF m 36 (own_loc1 a0 q1 st en) [(.ref a0)])) rfl rfl (hb hby d11_36)
  obtain ⟨T15, X15, e15, st15⟩ := getF X14 hx hZ hown (host := "") (Or.inl (hw _ (List.mem_of_getElem? (i := 56) rfl))) Via.refl e14 F_end_a0 (g := (mkF m 40 (own_loc1 a0 q1 st en) [(.ref a0), (.long st)])) rfl rfl (hb hby d11_40)
  have cp16 : ∀ target, own_S p e below T15 (mkF m 43 (own_loc1 a0 q1 st en) [(.long en), (.long st)]) target → own_S p e below s₁ (mkF m 0 #[.val (.ref a0), .val (.long q1), .second, .unset, .unset] []) target := by
    intro target kt
    show own_S p e below s₁ (mkF m 0 #[.val (.ref a0), .val (.long q1), .second, .unset, .unset] []) _
    refine XS.lloadN X0.here hx rfl (hb hby d11_0) rfl ?_
    show own_S p e below s₁ (mkF m 1 #[.val (.ref a0), .val (.long q1), .second, .unset, .unset] [(.long q1)]) _
    refine XS.aloadN X0.here hx rfl (hb hby d11_1) rfl rfl ?_
    show own_S p e below s₁ (mkF m 2 #[.val (.ref a0), .val (.long q1), .second, .unset, .unset] [(.ref a0), (.long q1)]) _
    refine st6 _ ?_
    show own_S p e below T6 (mkF m 5 #[.val (.ref a0), .val (.long q1), .second, .unset, .unset] [(.long st), (.long q1)]) _
    refine st7 _ ?_
    show own_S p e below T7 (mkF m 8 #[.val (.ref a0), .val (.long q1), .second, .unset, .unset] [(.int (own_cu q1 st))]) _
    refine sg9 _ ?_
    show own_S p e below T7 (mkF m 16 #[.val (.ref a0), .val (.long q1), .second, .unset, .unset] [(.int (own_g11_8 q1 st))]) _
    refine XS.istoreN X7.here hx rfl (hb hby d11_16) rfl (l' := #[.val (.ref a0), .val (.long q1), .second, .val (.int (own_g11_8 q1 st)), .unset]) rfl ?_
    show own_S p e below T7 (mkF m 17 #[.val (.ref a0), .val (.long q1), .second, .val (.int (own_g11_8 q1 st)), .unset] []) _
    refine XS.lloadN X7.here hx rfl (hb hby d11_17) rfl ?_
    show own_S p e below T7 (mkF m 18 #[.val (.ref a0), .val (.long q1), .second, .val (.int (own_g11_8 q1 st)), .unset] [(.long q1)]) _
    refine XS.aloadN X7.here hx rfl (hb hby d11_18) rfl rfl ?_
    show own_S p e below T7 (mkF m 19 #[.val (.ref a0), .val (.long q1), .second, .val (.int (own_g11_8 q1 st)), .unset] [(.ref a0), (.long q1)]) _
    refine st10 _ ?_
    show own_S p e below T10 (mkF m 22 #[.val (.ref a0), .val (.long q1), .second, .val (.int (own_g11_8 q1 st)), .unset] [(.long en), (.long q1)]) _
    refine st11 _ ?_
    show own_S p e below T11 (mkF m 25 #[.val (.ref a0), .val (.long q1), .second, .val (.int (own_g11_8 q1 st)), .unset] [(.int (own_cu q1 en))]) _
    refine sg13 _ ?_
    show own_S p e below T11 (mkF m 33 #[.val (.ref a0), .val (.long q1), .second, .val (.int (own_g11_8 q1 st)), .unset] [(.int (own_g11_25 q1 en))]) _
    refine XS.istore X11.here hx rfl (hb hby d11_33) rfl (l' := (own_loc1 a0 q1 st en)) rfl ?_
    show own_S p e below T11 (mkF m 35 (own_loc1 a0 q1 st en) []) _
    refine XS.aloadN X11.here hx rfl (hb hby d11_35) rfl rfl ?_
    show own_S p e below T11 (mkF m 36 (own_loc1 a0 q1 st en) [(.ref a0)]) _
    refine st14 _ ?_
    show own_S p e below T14 (mkF m 39 (own_loc1 a0 q1 st en) [(.long st)]) _
    refine XS.aloadN X14.here hx rfl (hb hby d11_39) rfl rfl ?_
    show own_S p e below T14 (mkF m 40 (own_loc1 a0 q1 st en) [(.ref a0), (.long st)]) _
    refine st15 _ ?_
    exact kt
  obtain ⟨_, _, ⟨T17, L17, k17, n17⟩, -, X17, ⟨Lc17, hQ17, l17, y17, z17⟩, st17⟩ := Jvm.LawKit.callS X15 hx (y := (⟨"java/lang/Long", "compareUnsigned", "(JJ)I"⟩ : MethodName)) hown (mvT hZ (hw _ (List.mem_of_getElem? (i := 72) rfl))) (mvT hZ (hw _ (List.mem_of_getElem? (i := 73) rfl))) (mvT hZ (hw _ (List.mem_of_getElem? (i := 74) rfl))) (mvT hZ (hw _ (List.mem_of_getElem? (i := 75) rfl))) (by decide) (backOf (W := 0) (rm12 l Z ag hw [] st en  h0 n0 Z0 ) hZ (hw _ (List.mem_of_getElem? (i := 75) rfl)) (hw _ (List.mem_of_getElem? (i := 74) rfl)) (by decide) (by decide)) (g := (mkF m 43 (own_loc1 a0 q1 st en) [(.long en), (.long st)])) rfl (by rw [hml]; rfl) (argsL := [(.long st), (.long en)]) (rest := []) (lenOf pd_3 rfl) rfl (by show 2 * 0 + _ ≤ _; exact Nat.le_of_eq rfl) (hb hby d11_43) (fun _ _ => ⟨rfl, e15, (by decide : 0 + 0 ≤ _), (by decide : 0 + 0 ≤ _)⟩)
  dsimp only [Pt.U, Pt.locs, Pt.cells, Pt.slots] at X17 l17 y17 z17 st17 hQ17
  subst l17 y17 z17
  obtain ⟨rfl, N17q, e17⟩ := hQ17
  have N17 := Fr.app N11 N17q
  have sg23 : ∀ target, Steps p.tables e below (T17.setTop (mkF m 80 (own_loc1 a0 q1 st en) [(.int (own_g11_46 q1 st en))])) target → Steps p.tables e below (T17.setTop (mkF m 46 (own_loc1 a0 q1 st en) [(.int (own_cu st en))])) target := by
    intro target kt
    by_cases hc18 : (own_cu st en) < (0 : Int32)
    · show own_S p e below T17 (mkF m 46 (own_loc1 a0 q1 st en) [(.int (own_cu st en))]) _
      refine XS.ifNo X17.here hx rfl (hb hby d11_46) rfl ((if0 _ _).trans (tlt hc18).2.1) ?_
      show own_S p e below T17 (mkF m 49 (own_loc1 a0 q1 st en) []) _
      refine XS.iloadN X17.here hx rfl (hb hby d11_49) rfl ?_
      by_cases hc19 : (own_g11_8 q1 st) = (0 : Int32)
      · show own_S p e below T17 (mkF m 50 (own_loc1 a0 q1 st en) [(.int (own_g11_8 q1 st))]) _
        refine XS.ifYes X17.here hx rfl (pc0 := 50) (pc' := 62) rfl (hb hby d11_50) rfl ((if0 _ _).trans (teq hc19).1) (by decide) (by decide) ?_
        show own_S p e below T17 (mkF m 62 (own_loc1 a0 q1 st en) []) _
        refine XS.iconst X17.here hx rfl (hb hby d11_62) ?_
        show own_S p e below T17 (mkF m 63 (own_loc1 a0 q1 st en) [.int 0]) _
        refine XS.goto X17.here hx rfl (pc0 := 63) (pc' := 80) rfl (hb hby d11_63) (by decide) (by decide) ?_
        show own_S p e below T17 (mkF m 80 (own_loc1 a0 q1 st en) [.int 0]) _
        have kt := own_cast (P := fun z => Steps p.tables e below (T17.setTop (mkF m 80 (own_loc1 a0 q1 st en) [(.int z)])) target) (show (own_g11_46 q1 st en) = (0 : Int32) from (by unfold own_g11_46; rw [if_pos hc18, if_pos hc19])) kt
        exact kt
      · show own_S p e below T17 (mkF m 50 (own_loc1 a0 q1 st en) [(.int (own_g11_8 q1 st))]) _
        refine XS.ifNo X17.here hx rfl (hb hby d11_50) rfl ((if0 _ _).trans (feq hc19).1) ?_
        show own_S p e below T17 (mkF m 53 (own_loc1 a0 q1 st en) []) _
        refine XS.iload X17.here hx rfl (hb hby d11_53) rfl ?_
        by_cases hc20 : (own_g11_25 q1 en) = (0 : Int32)
        · show own_S p e below T17 (mkF m 55 (own_loc1 a0 q1 st en) [(.int (own_g11_25 q1 en))]) _
          refine XS.ifYes X17.here hx rfl (pc0 := 55) (pc' := 62) rfl (hb hby d11_55) rfl ((if0 _ _).trans (teq hc20).1) (by decide) (by decide) ?_
          show own_S p e below T17 (mkF m 62 (own_loc1 a0 q1 st en) []) _
          refine XS.iconst X17.here hx rfl (hb hby d11_62) ?_
          show own_S p e below T17 (mkF m 63 (own_loc1 a0 q1 st en) [.int 0]) _
          refine XS.goto X17.here hx rfl (pc0 := 63) (pc' := 80) rfl (hb hby d11_63) (by decide) (by decide) ?_
          show own_S p e below T17 (mkF m 80 (own_loc1 a0 q1 st en) [.int 0]) _
          have kt := own_cast (P := fun z => Steps p.tables e below (T17.setTop (mkF m 80 (own_loc1 a0 q1 st en) [(.int z)])) target) (show (own_g11_46 q1 st en) = (0 : Int32) from (by unfold own_g11_46; rw [if_pos hc18, if_neg hc19, if_pos hc20])) kt
          exact kt
        · show own_S p e below T17 (mkF m 55 (own_loc1 a0 q1 st en) [(.int (own_g11_25 q1 en))]) _
          refine XS.ifNo X17.here hx rfl (hb hby d11_55) rfl ((if0 _ _).trans (feq hc20).1) ?_
          show own_S p e below T17 (mkF m 58 (own_loc1 a0 q1 st en) []) _
          refine XS.iconst X17.here hx rfl (hb hby d11_58) ?_
          show own_S p e below T17 (mkF m 59 (own_loc1 a0 q1 st en) [.int 1]) _
          refine XS.goto X17.here hx rfl (pc0 := 59) (pc' := 80) rfl (hb hby d11_59) (by decide) (by decide) ?_
          show own_S p e below T17 (mkF m 80 (own_loc1 a0 q1 st en) [.int 1]) _
          have kt := own_cast (P := fun z => Steps p.tables e below (T17.setTop (mkF m 80 (own_loc1 a0 q1 st en) [(.int z)])) target) (show (own_g11_46 q1 st en) = (1 : Int32) from (by unfold own_g11_46; rw [if_pos hc18, if_neg hc19, if_neg hc20])) kt
          exact kt
    · show own_S p e below T17 (mkF m 46 (own_loc1 a0 q1 st en) [(.int (own_cu st en))]) _
      refine XS.ifYes X17.here hx rfl (pc0 := 46) (pc' := 66) rfl (hb hby d11_46) rfl ((if0 _ _).trans (flt hc18).2.1) (by decide) (by decide) ?_
      show own_S p e below T17 (mkF m 66 (own_loc1 a0 q1 st en) []) _
      refine XS.iloadN X17.here hx rfl (hb hby d11_66) rfl ?_
      by_cases hc21 : (own_g11_8 q1 st) = (0 : Int32)
      · show own_S p e below T17 (mkF m 67 (own_loc1 a0 q1 st en) [(.int (own_g11_8 q1 st))]) _
        refine XS.ifNo X17.here hx rfl (hb hby d11_67) rfl ((if0 _ _).trans (teq hc21).2) ?_
        show own_S p e below T17 (mkF m 70 (own_loc1 a0 q1 st en) []) _
        refine XS.iload X17.here hx rfl (hb hby d11_70) rfl ?_
        by_cases hc22 : (own_g11_25 q1 en) = (0 : Int32)
        · show own_S p e below T17 (mkF m 72 (own_loc1 a0 q1 st en) [(.int (own_g11_25 q1 en))]) _
          refine XS.ifYes X17.here hx rfl (pc0 := 72) (pc' := 79) rfl (hb hby d11_72) rfl ((if0 _ _).trans (teq hc22).1) (by decide) (by decide) ?_
          show own_S p e below T17 (mkF m 79 (own_loc1 a0 q1 st en) []) _
          refine XS.iconst X17.here hx rfl (hb hby d11_79) ?_
          show own_S p e below T17 (mkF m 80 (own_loc1 a0 q1 st en) [.int 0]) _
          have kt := own_cast (P := fun z => Steps p.tables e below (T17.setTop (mkF m 80 (own_loc1 a0 q1 st en) [(.int z)])) target) (show (own_g11_46 q1 st en) = (0 : Int32) from (by unfold own_g11_46; rw [if_neg hc18, if_pos hc21, if_pos hc22])) kt
          exact kt
        · show own_S p e below T17 (mkF m 72 (own_loc1 a0 q1 st en) [(.int (own_g11_25 q1 en))]) _
          refine XS.ifNo X17.here hx rfl (hb hby d11_72) rfl ((if0 _ _).trans (feq hc22).1) ?_
          show own_S p e below T17 (mkF m 75 (own_loc1 a0 q1 st en) []) _
          refine XS.iconst X17.here hx rfl (hb hby d11_75) ?_
          show own_S p e below T17 (mkF m 76 (own_loc1 a0 q1 st en) [.int 1]) _
          refine XS.goto X17.here hx rfl (pc0 := 76) (pc' := 80) rfl (hb hby d11_76) (by decide) (by decide) ?_
          show own_S p e below T17 (mkF m 80 (own_loc1 a0 q1 st en) [.int 1]) _
          have kt := own_cast (P := fun z => Steps p.tables e below (T17.setTop (mkF m 80 (own_loc1 a0 q1 st en) [(.int z)])) target) (show (own_g11_46 q1 st en) = (1 : Int32) from (by unfold own_g11_46; rw [if_neg hc18, if_pos hc21, if_neg hc22])) kt
          exact kt
      · show own_S p e below T17 (mkF m 67 (own_loc1 a0 q1 st en) [(.int (own_g11_8 q1 st))]) _
        refine XS.ifYes X17.here hx rfl (pc0 := 67) (pc' := 75) rfl (hb hby d11_67) rfl ((if0 _ _).trans (feq hc21).2) (by decide) (by decide) ?_
        show own_S p e below T17 (mkF m 75 (own_loc1 a0 q1 st en) []) _
        refine XS.iconst X17.here hx rfl (hb hby d11_75) ?_
        show own_S p e below T17 (mkF m 76 (own_loc1 a0 q1 st en) [.int 1]) _
        refine XS.goto X17.here hx rfl (pc0 := 76) (pc' := 80) rfl (hb hby d11_76) (by decide) (by decide) ?_
        show own_S p e below T17 (mkF m 80 (own_loc1 a0 q1 st en) [.int 1]) _
        have kt := own_cast (P := fun z => Steps p.tables e below (T17.setTop (mkF m 80 (own_loc1 a0 q1 st en) [(.int z)])) target) (show (own_g11_46 q1 st en) = (1 : Int32) from (by unfold own_g11_46; rw [if_neg hc18, if_neg hc21])) kt
        exact kt
  obtain ⟨fs, hr, hrun, hended, hW, hsame⟩ := X17.leave (v := some (.int (nar .boolean (own_g11_46 q1 st en)))) (fun h => by rw [Bd.returns] at h; cases h)
  refine ⟨_, _, pre0 _ ?_, hrun, hended, _, _, rfl, ?_, ⟨_, rfl⟩, hW, hsame.mono (by decide) (by decide)⟩
  · show own_S p e below s₁ (mkF m 0 #[.val (.ref a0), .val (.long q1), .second, .unset, .unset] []) _
    refine cp16 _ ?_
    show own_S p e below T15 (mkF m 43 (own_loc1 a0 q1 st en) [(.long en), (.long st)]) _
    refine st17 _ ?_
    show own_S p e below T17 (mkF m 46 (own_loc1 a0 q1 st en) [(.int (own_cu st en))]) _
    refine sg23 _ ?_
    show own_S p e below T17 (mkF m 80 (own_loc1 a0 q1 st en) [(.int (own_g11_46 q1 st en))]) _
    exact retN X17 hx (t := .boolean) Bd.returns (by simp) (hb hby d11_80) hr
  · show Q11 Z a0 q1 st en h0 n0 _ T17.heap _
    rw [e17]
    exact ⟨rfl, N17, rfl⟩
def own_cont (st en q1 : Int64) : Int32 := (nar .boolean (own_g11_46 q1 st en))
theorem pn_8 : plainName "java/util/Objects" = true := by first | (simp [plainName, overriddenIn]; done) | decide +kernel
theorem ef_6 (m : MethodId) (a0 : Addr) (a1 : Addr) : entryFrame m #[(.ref a0), (.ref a1)] 2 = mkF m 0 #[.val (.ref a0), .val (.ref a1)] [] := by first | (simp [entryFrame, mkF, argsToLocals, Value.category]; done) | rfl
theorem d6_0 : decode jdk_31_method_11_code 0 = .ok (.aload_n 0, 1) := by decide +kernel
theorem d6_1 : decode jdk_31_method_11_code 1 = .ok (.ifnonnull 12, 3) := by decide +kernel
theorem d6_13 : decode jdk_31_method_11_code 13 = .ok (.aload_n 0, 1) := by decide +kernel
theorem d6_14 : decode jdk_31_method_11_code 14 = .ok (.areturn, 1) := by decide +kernel
def Q6 (Z : State) (a0 : Addr) (a1 : Addr) (h0 : Heap) (n0 : Nat) (v : Option Value) (h : Heap) (L : List Loc) : Prop := v = some (.ref a0) ∧ Fr n0 L ∧ h = h0
set_option maxRecDepth 65536 in
set_option maxHeartbeats 40000000 in
theorem rm6 (l : Launch) (Z : State) (ag : Array Value) (hw : ∀ d ∈ tables_1, d.before ag Z = true) (ws : List Jvm.Cond) (a0 : Addr) (a1 : Addr) (h0 : Heap) (n0 : Nat) (Z0 : n0 ≤ h0.size) :
    MetFree l (⟨"java/util/Objects", "requireNonNull", "(Ljava/lang/Object;Ljava/lang/String;)Ljava/lang/Object;"⟩ : MethodName) (head1 (Jvm.Cond.code (⟨"java/util/Objects", "requireNonNull", "(Ljava/lang/Object;Ljava/lang/String;)Ljava/lang/Object;"⟩ : MethodName) jdk_31_method_11_code 2 (some (.object "java/lang/Object")) :: ws) ({ frames := 0, cells := 0, slots := 0, locals := 0 } : Room)) (fun a U => a = #[(.ref a0), (.ref a1)] ∧ Z.Warmed39 U.vm ∧ U.heap = h0) (fun _ _ _ _ _ => True) (fun _ U o U' => ∃ v L, o = .returned v ∧ Q6 Z a0 a1 h0 n0 v U'.heap L ∧ FrameEnd U o U' L ({ frames := 0, cells := 0, slots := 0, locals := 0 } : Room).cells ({ frames := 0, cells := 0, slots := 0, locals := 0 } : Room).slots) := by
  refine MetFree.of_bodySF (plainFor_of_name pn_8) hisR ?_
  intro p e s m args below meth c s₁ Bd hml0 hP hK
  obtain ⟨rfl, hZ, hh⟩ := hP
  have hx := Bd.exec
  have hby := Bd.bytes
  have hml : c.maxLocals = 2 := hml0
  have hown : s.vm.findClass "java/util/Objects" = some m.cls := findClass_of_methodNamed Bd.named
  have hnm := (name_of_methodNamed Bd.named Bd.method).1
  have X0 : Stand p l e ({ frames := 0, cells := 0, slots := 0, locals := 0 } : Room) s m #[(.ref a0), (.ref a1)] below meth c s₁ [] 0 0 := Stand.of_body Bd
  have e0 : s₁.heap = h0 := by rw [← hh, Bd.state]; rfl
  have N0 := Fr.nil n0
  have pre0 : ∀ t, Steps p.tables e below (s₁.setTop (mkF m 0 #[.val (.ref a0), .val (.ref a1)] [])) t → Steps p.tables e below (s₁.setTop (entryFrame m #[(.ref a0), (.ref a1)] 2)) t := fun t k => castTop (ef_6 m a0 a1) k
  obtain ⟨fs, hr, hrun, hended, hW, hsame⟩ := X0.leave (v := some (.ref a0)) (fun h => by rw [Bd.returns] at h; cases h)
  refine ⟨_, _, pre0 _ ?_, hrun, hended, _, _, rfl, ?_, ⟨_, rfl⟩, hW, hsame.mono (by decide) (by decide)⟩
  · show own_S p e below s₁ (mkF m 0 #[.val (.ref a0), .val (.ref a1)] []) _
    refine XS.aloadN X0.here hx rfl (hb hby d6_0) rfl rfl ?_
    show own_S p e below s₁ (mkF m 1 #[.val (.ref a0), .val (.ref a1)] [(.ref a0)]) _
    refine XS.ifnonnullYes X0.here hx rfl (pc0 := 1) (pc' := 13) rfl (hb hby d6_1) rfl (by decide) (by decide) ?_
    show own_S p e below s₁ (mkF m 13 #[.val (.ref a0), .val (.ref a1)] []) _
    refine XS.aloadN X0.here hx rfl (hb hby d6_13) rfl rfl ?_
    show own_S p e below s₁ (mkF m 14 #[.val (.ref a0), .val (.ref a1)] [(.ref a0)]) _
    exact Jvm.RoadKit.retOut X0 hx Bd.returns rfl (Or.inr (Or.inr (Or.inr (Or.inr ⟨rfl, rfl, rfl⟩)))) (hb hby d6_14) hr
  · show Q6 Z a0 a1 h0 n0 _ s₁.heap _
    rw [e0]
    exact ⟨rfl, N0, rfl⟩
theorem pn_6 : plainName "java/lang/String" = true := by first | (simp [plainName, overriddenIn]; done) | decide +kernel
theorem ef_7 (m : MethodId) (a0 : Addr) : entryFrame m #[(.ref a0)] 1 = mkF m 0 #[.val (.ref a0)] [] := by first | (simp [entryFrame, mkF, argsToLocals, Value.category]; done) | rfl
theorem d7_0 : decode jdk_42_method_55_code 0 = .ok (.aload_n 0, 1) := by decide +kernel
theorem d7_1 : decode jdk_42_method_55_code 1 = .ok (.getfield 9, 3) := by decide +kernel
theorem d7_4 : decode jdk_42_method_55_code 4 = .ok (.arraylength, 1) := by decide +kernel
theorem d7_5 : decode jdk_42_method_55_code 5 = .ok (.ifCond .ne 7, 3) := by decide +kernel
theorem d7_12 : decode jdk_42_method_55_code 12 = .ok (.iconst 0, 1) := by decide +kernel
theorem d7_13 : decode jdk_42_method_55_code 13 = .ok (.ireturn, 1) := by decide +kernel
def Q7 (Z : State) (a0 : Addr) (b : Addr) (kb : ClassId) (nb : Int32) (bs : List Value) (h0 : Heap) (n0 : Nat) (v : Option Value) (h : Heap) (L : List Loc) : Prop := v = some (.int (0 : Int32)) ∧ Fr n0 L ∧ h = h0
set_option maxRecDepth 65536 in
set_option maxHeartbeats 40000000 in
theorem rm7 (l : Launch) (Z : State) (ag : Array Value) (hw : ∀ d ∈ tables_1, d.before ag Z = true) (ws : List Jvm.Cond) (a0 : Addr) (b : Addr) (kb : ClassId) (nb : Int32) (bs : List Value) (h0 : Heap) (n0 : Nat) (Z0 : n0 ≤ h0.size) (F_value_a0 : Fld Z h0 a0 "java/lang/String" "value" "[B" (.ref b)) (V_b : Arv Z h0 b kb .byte nb bs (.int (0 : Int32))) (hne : ¬ nb = (0 : Int32)) :
    MetFree l (⟨"java/lang/String", "isEmpty", "()Z"⟩ : MethodName) (head1 (Jvm.Cond.code (⟨"java/lang/String", "isEmpty", "()Z"⟩ : MethodName) jdk_42_method_55_code 1 (some .boolean) :: ws) ({ frames := 0, cells := 0, slots := 0, locals := 0 } : Room)) (fun a U => a = #[(.ref a0)] ∧ Z.Warmed39 U.vm ∧ U.heap = h0) (fun _ _ _ _ _ => True) (fun _ U o U' => ∃ v L, o = .returned v ∧ Q7 Z a0 b kb nb bs h0 n0 v U'.heap L ∧ FrameEnd U o U' L ({ frames := 0, cells := 0, slots := 0, locals := 0 } : Room).cells ({ frames := 0, cells := 0, slots := 0, locals := 0 } : Room).slots) := by
  refine MetFree.of_bodySF (plainFor_of_name pn_6) hisR ?_
  intro p e s m args below meth c s₁ Bd hml0 hP hK
  obtain ⟨rfl, hZ, hh⟩ := hP
  have hx := Bd.exec
  have hby := Bd.bytes
  have hml : c.maxLocals = 1 := hml0
  have hown : s.vm.findClass "java/lang/String" = some m.cls := findClass_of_methodNamed Bd.named
  have hnm := (name_of_methodNamed Bd.named Bd.method).1
  have X0 : Stand p l e ({ frames := 0, cells := 0, slots := 0, locals := 0 } : Room) s m #[(.ref a0)] below meth c s₁ [] 0 0 := Stand.of_body Bd
  have e0 : s₁.heap = h0 := by rw [← hh, Bd.state]; rfl
  have N0 := Fr.nil n0
  have pre0 : ∀ t, Steps p.tables e below (s₁.setTop (mkF m 0 #[.val (.ref a0)] [])) t → Steps p.tables e below (s₁.setTop (entryFrame m #[(.ref a0)] 1)) t := fun t k => castTop (ef_7 m a0) k
  obtain ⟨T24, X24, e24, st24⟩ := getF X0 hx hZ hown (host := "") (Or.inl (hw _ (List.mem_of_getElem? (i := 40) rfl))) Via.refl e0 F_value_a0 (g := (mkF m 1 #[.val (.ref a0)] [(.ref a0)])) rfl rfl (hb hby d7_1)
  obtain ⟨cl25, Ar25, -, S25, M25, -, -⟩ := id V_b
  have ld25 := X24.arraylength hx (by rw [e24]; exact Ar25.1) (State.isArrayOf_alike hZ.alike Ar25.2.1) (g := (mkF m 4 #[.val (.ref a0)] [(.ref b)])) rfl rfl (hb hby d7_4)
  obtain ⟨fs, hr, hrun, hended, hW, hsame⟩ := X24.leave (v := some (.int (0 : Int32))) (fun h => by rw [Bd.returns] at h; cases h)
  refine ⟨_, _, pre0 _ ?_, hrun, hended, _, _, rfl, ?_, ⟨_, rfl⟩, hW, hsame.mono (by decide) (by decide)⟩
  · show own_S p e below s₁ (mkF m 0 #[.val (.ref a0)] []) _
    refine XS.aloadN X0.here hx rfl (hb hby d7_0) rfl rfl ?_
    show own_S p e below s₁ (mkF m 1 #[.val (.ref a0)] [(.ref a0)]) _
    refine st24 _ ?_
    show own_S p e below T24 (mkF m 4 #[.val (.ref a0)] [(.ref b)]) _
    refine ld25 _ ?_
    rw [len_of S25 M25]
    show own_S p e below T24 (mkF m 5 #[.val (.ref a0)] [(.int nb)]) _
    refine XS.ifYes X24.here hx rfl (pc0 := 5) (pc' := 12) rfl (hb hby d7_5) rfl ((if0 _ _).trans (feq (show ¬ (nb = (0 : Int32)) from hne)).2) (by decide) (by decide) ?_
    show own_S p e below T24 (mkF m 12 #[.val (.ref a0)] []) _
    refine XS.iconst X24.here hx rfl (hb hby d7_12) ?_
    show own_S p e below T24 (mkF m 13 #[.val (.ref a0)] [.int 0]) _
    exact retN X24 hx (t := .boolean) Bd.returns (by simp) (hb hby d7_13) hr
  · show Q7 Z a0 b kb nb bs h0 n0 _ T24.heap _
    rw [e24]
    exact ⟨rfl, N0, rfl⟩
theorem pn_7 : plainName "java/lang/StringLatin1" = true := by first | (simp [plainName, overriddenIn]; done) | decide +kernel
theorem ef_9 (m : MethodId) (a0 : Addr) (a1 : Addr) : entryFrame m #[(.ref a0), (.ref a1)] 3 = mkF m 0 #[.val (.ref a0), .val (.ref a1), .unset] [] := by first | (simp [entryFrame, mkF, argsToLocals, Value.category]; done) | rfl
theorem d9_0 : decode jdk_43_method_13_code 0 = .ok (.aload_n 0, 1) := by decide +kernel
theorem d9_1 : decode jdk_43_method_13_code 1 = .ok (.arraylength, 1) := by decide +kernel
theorem d9_2 : decode jdk_43_method_13_code 2 = .ok (.aload_n 1, 1) := by decide +kernel
theorem d9_3 : decode jdk_43_method_13_code 3 = .ok (.arraylength, 1) := by decide +kernel
theorem d9_4 : decode jdk_43_method_13_code 4 = .ok (.if_icmp .ne 30, 3) := by decide +kernel
theorem d9_7 : decode jdk_43_method_13_code 7 = .ok (.iconst 0, 1) := by decide +kernel
theorem d9_8 : decode jdk_43_method_13_code 8 = .ok (.istore_n 2, 1) := by decide +kernel
theorem d9_9 : decode jdk_43_method_13_code 9 = .ok (.iload_n 2, 1) := by decide +kernel
theorem d9_10 : decode jdk_43_method_13_code 10 = .ok (.aload_n 0, 1) := by decide +kernel
theorem d9_11 : decode jdk_43_method_13_code 11 = .ok (.arraylength, 1) := by decide +kernel
theorem d9_12 : decode jdk_43_method_13_code 12 = .ok (.if_icmp .ge 20, 3) := by decide +kernel
theorem d9_15 : decode jdk_43_method_13_code 15 = .ok (.aload_n 0, 1) := by decide +kernel
theorem d9_16 : decode jdk_43_method_13_code 16 = .ok (.iload_n 2, 1) := by decide +kernel
theorem d9_17 : decode jdk_43_method_13_code 17 = .ok (.baload, 1) := by decide +kernel
theorem d9_18 : decode jdk_43_method_13_code 18 = .ok (.aload_n 1, 1) := by decide +kernel
theorem d9_19 : decode jdk_43_method_13_code 19 = .ok (.iload_n 2, 1) := by decide +kernel
theorem d9_20 : decode jdk_43_method_13_code 20 = .ok (.baload, 1) := by decide +kernel
theorem d9_21 : decode jdk_43_method_13_code 21 = .ok (.if_icmp .eq 5, 3) := by decide +kernel
theorem d9_24 : decode jdk_43_method_13_code 24 = .ok (.iconst 0, 1) := by decide +kernel
theorem d9_25 : decode jdk_43_method_13_code 25 = .ok (.ireturn, 1) := by decide +kernel
def Q9 (Z : State) (a0 : Addr) (a1 : Addr) (k0 : ClassId) (k1 : ClassId) (h0 : Heap) (n0 : Nat) (v : Option Value) (h : Heap) (L : List Loc) : Prop := v = some (.int (0 : Int32)) ∧ Fr n0 L ∧ h = h0
set_option maxRecDepth 65536 in
set_option maxHeartbeats 40000000 in
theorem rm9 (l : Launch) (Z : State) (ag : Array Value) (hw : ∀ d ∈ tables_1, d.before ag Z = true) (ws : List Jvm.Cond) (a0 : Addr) (a1 : Addr) (k0 : ClassId) (k1 : ClassId) (h0 : Heap) (n0 : Nat) (Z0 : n0 ≤ h0.size) (V_a0 : Arv Z h0 a0 k0 .byte (1 : Int32) [(.int (97 : Int32))] (.int (0 : Int32))) (V_a1 : Arv Z h0 a1 k1 .byte (1 : Int32) [(.int (98 : Int32))] (.int (0 : Int32))) :
    MetFree l (⟨"java/lang/StringLatin1", "equals", "([B[B)Z"⟩ : MethodName) (head1 (Jvm.Cond.code (⟨"java/lang/StringLatin1", "equals", "([B[B)Z"⟩ : MethodName) jdk_43_method_13_code 3 (some .boolean) :: ws) ({ frames := 0, cells := 0, slots := 0, locals := 0 } : Room)) (fun a U => a = #[(.ref a0), (.ref a1)] ∧ Z.Warmed39 U.vm ∧ U.heap = h0) (fun _ _ _ _ _ => True) (fun _ U o U' => ∃ v L, o = .returned v ∧ Q9 Z a0 a1 k0 k1 h0 n0 v U'.heap L ∧ FrameEnd U o U' L ({ frames := 0, cells := 0, slots := 0, locals := 0 } : Room).cells ({ frames := 0, cells := 0, slots := 0, locals := 0 } : Room).slots) := by
  refine MetFree.of_bodySF (plainFor_of_name pn_7) hisR ?_
  intro p e s m args below meth c s₁ Bd hml0 hP hK
  obtain ⟨rfl, hZ, hh⟩ := hP
  have hx := Bd.exec
  have hby := Bd.bytes
  have hml : c.maxLocals = 3 := hml0
  have hown : s.vm.findClass "java/lang/StringLatin1" = some m.cls := findClass_of_methodNamed Bd.named
  have hnm := (name_of_methodNamed Bd.named Bd.method).1
  have X0 : Stand p l e ({ frames := 0, cells := 0, slots := 0, locals := 0 } : Room) s m #[(.ref a0), (.ref a1)] below meth c s₁ [] 0 0 := Stand.of_body Bd
  have e0 : s₁.heap = h0 := by rw [← hh, Bd.state]; rfl
  have N0 := Fr.nil n0
  have pre0 : ∀ t, Steps p.tables e below (s₁.setTop (mkF m 0 #[.val (.ref a0), .val (.ref a1), .unset] [])) t → Steps p.tables e below (s₁.setTop (entryFrame m #[(.ref a0), (.ref a1)] 3)) t := fun t k => castTop (ef_9 m a0 a1) k
  obtain ⟨cl26, Ar26, -, S26, M26, -, -⟩ := id V_a0
  have ld26 := X0.arraylength hx (by rw [e0]; exact Ar26.1) (State.isArrayOf_alike hZ.alike Ar26.2.1) (g := (mkF m 1 #[.val (.ref a0), .val (.ref a1), .unset] [(.ref a0)])) rfl rfl (hb hby d9_1)
  obtain ⟨cl27, Ar27, -, S27, M27, -, -⟩ := id V_a1
  have ld27 := X0.arraylength hx (by rw [e0]; exact Ar27.1) (State.isArrayOf_alike hZ.alike Ar27.2.1) (g := (mkF m 3 #[.val (.ref a0), .val (.ref a1), .unset] [(.ref a1), .int 1])) rfl rfl (hb hby d9_3)
  obtain ⟨cl28, Ar28, -, S28, M28, -, -⟩ := id V_a0
  have ld28 := X0.arraylength hx (by rw [e0]; exact Ar28.1) (State.isArrayOf_alike hZ.alike Ar28.2.1) (g := (mkF m 11 #[.val (.ref a0), .val (.ref a1), .val (.int 0)] [(.ref a0), .int 0])) rfl rfl (hb hby d9_11)
  obtain ⟨cl29, Ar29, q29, S29, M29, H29, G29⟩ := id V_a0
  have hin29 : ¬ ((0 : Int32) < 0 ∨ cl29.slots.size ≤ ((0 : Int32)).toNatClampNeg) := inb_of S29 ⟨(by decide : ¬ (0 : Int32) < 0), (by decide : (0 : Int32) < (1 : Int32))⟩
  have hat29 : cl29.slots[((0 : Int32)).toNatClampNeg]? = some (.int (97 : Int32)) := Has.at H29 hin29 rfl
  have ld29 := X0.baloadBytes hx (j := (0 : Int32)) (v := (.int (97 : Int32))) (by rw [e0]; exact Ar29.1) (State.isArrayOf_alike hZ.alike Ar29.2.1) Ar29.2.2 hin29 hat29 (g := (mkF m 17 #[.val (.ref a0), .val (.ref a1), .val (.int 0)] [.int 0, (.ref a0)])) rfl rfl (hb hby d9_17)
  obtain ⟨cl30, Ar30, q30, S30, M30, H30, G30⟩ := id V_a1
  have hin30 : ¬ ((0 : Int32) < 0 ∨ cl30.slots.size ≤ ((0 : Int32)).toNatClampNeg) := inb_of S30 ⟨(by decide : ¬ (0 : Int32) < 0), (by decide : (0 : Int32) < (1 : Int32))⟩
  have hat30 : cl30.slots[((0 : Int32)).toNatClampNeg]? = some (.int (98 : Int32)) := Has.at H30 hin30 rfl
  have ld30 := X0.baloadBytes hx (j := (0 : Int32)) (v := (.int (98 : Int32))) (by rw [e0]; exact Ar30.1) (State.isArrayOf_alike hZ.alike Ar30.2.1) Ar30.2.2 hin30 hat30 (g := (mkF m 20 #[.val (.ref a0), .val (.ref a1), .val (.int 0)] [.int 0, (.ref a1), .int 97])) rfl rfl (hb hby d9_20)
  obtain ⟨fs, hr, hrun, hended, hW, hsame⟩ := X0.leave (v := some (.int (0 : Int32))) (fun h => by rw [Bd.returns] at h; cases h)
  refine ⟨_, _, pre0 _ ?_, hrun, hended, _, _, rfl, ?_, ⟨_, rfl⟩, hW, hsame.mono (by decide) (by decide)⟩
  · show own_S p e below s₁ (mkF m 0 #[.val (.ref a0), .val (.ref a1), .unset] []) _
    refine XS.aloadN X0.here hx rfl (hb hby d9_0) rfl rfl ?_
    show own_S p e below s₁ (mkF m 1 #[.val (.ref a0), .val (.ref a1), .unset] [(.ref a0)]) _
    refine ld26 _ ?_
    rw [len_of S26 M26]
    show own_S p e below s₁ (mkF m 2 #[.val (.ref a0), .val (.ref a1), .unset] [.int 1]) _
    refine XS.aloadN X0.here hx rfl (hb hby d9_2) rfl rfl ?_
    show own_S p e below s₁ (mkF m 3 #[.val (.ref a0), .val (.ref a1), .unset] [(.ref a1), .int 1]) _
    refine ld27 _ ?_
    rw [len_of S27 M27]
    show own_S p e below s₁ (mkF m 4 #[.val (.ref a0), .val (.ref a1), .unset] [.int 1, .int 1]) _
    refine XS.icmpNo X0.here hx rfl (hb hby d9_4) rfl (teq (by decide : (1 : Int32) = (1 : Int32))).2 ?_
    show own_S p e below s₁ (mkF m 7 #[.val (.ref a0), .val (.ref a1), .unset] []) _
    refine XS.iconst X0.here hx rfl (hb hby d9_7) ?_
    show own_S p e below s₁ (mkF m 8 #[.val (.ref a0), .val (.ref a1), .unset] [.int 0]) _
    refine XS.istoreN X0.here hx rfl (hb hby d9_8) rfl (l' := #[.val (.ref a0), .val (.ref a1), .val (.int 0)]) rfl ?_
    show own_S p e below s₁ (mkF m 9 #[.val (.ref a0), .val (.ref a1), .val (.int 0)] []) _
    refine XS.iloadN X0.here hx rfl (hb hby d9_9) rfl ?_
    show own_S p e below s₁ (mkF m 10 #[.val (.ref a0), .val (.ref a1), .val (.int 0)] [.int 0]) _
    refine XS.aloadN X0.here hx rfl (hb hby d9_10) rfl rfl ?_
    show own_S p e below s₁ (mkF m 11 #[.val (.ref a0), .val (.ref a1), .val (.int 0)] [(.ref a0), .int 0]) _
    refine ld28 _ ?_
    rw [len_of S28 M28]
    show own_S p e below s₁ (mkF m 12 #[.val (.ref a0), .val (.ref a1), .val (.int 0)] [.int 1, .int 0]) _
    refine XS.icmpNo X0.here hx rfl (hb hby d9_12) rfl (tlt (by decide : (0 : Int32) < (1 : Int32))).2.1 ?_
    show own_S p e below s₁ (mkF m 15 #[.val (.ref a0), .val (.ref a1), .val (.int 0)] []) _
    refine XS.aloadN X0.here hx rfl (hb hby d9_15) rfl rfl ?_
    show own_S p e below s₁ (mkF m 16 #[.val (.ref a0), .val (.ref a1), .val (.int 0)] [(.ref a0)]) _
    refine XS.iloadN X0.here hx rfl (hb hby d9_16) rfl ?_
    show own_S p e below s₁ (mkF m 17 #[.val (.ref a0), .val (.ref a1), .val (.int 0)] [.int 0, (.ref a0)]) _
    refine ld29 _ ?_
    show own_S p e below s₁ (mkF m 18 #[.val (.ref a0), .val (.ref a1), .val (.int 0)] [.int 97]) _
    refine XS.aloadN X0.here hx rfl (hb hby d9_18) rfl rfl ?_
    show own_S p e below s₁ (mkF m 19 #[.val (.ref a0), .val (.ref a1), .val (.int 0)] [(.ref a1), .int 97]) _
    refine XS.iloadN X0.here hx rfl (hb hby d9_19) rfl ?_
    show own_S p e below s₁ (mkF m 20 #[.val (.ref a0), .val (.ref a1), .val (.int 0)] [.int 0, (.ref a1), .int 97]) _
    refine ld30 _ ?_
    show own_S p e below s₁ (mkF m 21 #[.val (.ref a0), .val (.ref a1), .val (.int 0)] [.int 98, .int 97]) _
    refine XS.icmpNo X0.here hx rfl (hb hby d9_21) rfl (feq (by decide : ¬ ((97 : Int32) = (98 : Int32)))).1 ?_
    show own_S p e below s₁ (mkF m 24 #[.val (.ref a0), .val (.ref a1), .val (.int 0)] []) _
    refine XS.iconst X0.here hx rfl (hb hby d9_24) ?_
    show own_S p e below s₁ (mkF m 25 #[.val (.ref a0), .val (.ref a1), .val (.int 0)] [.int 0]) _
    exact retN X0 hx (t := .boolean) Bd.returns (by simp) (hb hby d9_25) hr
  · show Q9 Z a0 a1 k0 k1 h0 n0 _ s₁.heap _
    rw [e0]
    exact ⟨rfl, N0, rfl⟩
theorem ef_8 (m : MethodId) (a0 : Addr) (a1 : Addr) : entryFrame m #[(.ref a0), (.ref a1)] 3 = mkF m 0 #[.val (.ref a0), .val (.ref a1), .unset] [] := by first | (simp [entryFrame, mkF, argsToLocals, Value.category]; done) | rfl
theorem d8_0 : decode jdk_42_method_66_code 0 = .ok (.aload_n 0, 1) := by decide +kernel
theorem d8_1 : decode jdk_42_method_66_code 1 = .ok (.aload_n 1, 1) := by decide +kernel
theorem d8_2 : decode jdk_42_method_66_code 2 = .ok (.if_acmp .ne 5, 3) := by decide +kernel
theorem d8_7 : decode jdk_42_method_66_code 7 = .ok (.aload_n 1, 1) := by decide +kernel
theorem d8_8 : decode jdk_42_method_66_code 8 = .ok (.instanceof 10, 3) := by decide +kernel
theorem d8_11 : decode jdk_42_method_66_code 11 = .ok (.ifCond .eq 43, 3) := by decide +kernel
theorem d8_14 : decode jdk_42_method_66_code 14 = .ok (.aload_n 1, 1) := by decide +kernel
theorem d8_15 : decode jdk_42_method_66_code 15 = .ok (.checkcast 10, 3) := by decide +kernel
theorem d8_18 : decode jdk_42_method_66_code 18 = .ok (.astore_n 2, 1) := by decide +kernel
theorem d8_19 : decode jdk_42_method_66_code 19 = .ok (.getstatic 38, 3) := by decide +kernel
theorem d8_22 : decode jdk_42_method_66_code 22 = .ok (.ifCond .eq 14, 3) := by decide +kernel
theorem d8_25 : decode jdk_42_method_66_code 25 = .ok (.aload_n 0, 1) := by decide +kernel
theorem d8_26 : decode jdk_42_method_66_code 26 = .ok (.getfield 15, 3) := by decide +kernel
theorem d8_29 : decode jdk_42_method_66_code 29 = .ok (.aload_n 2, 1) := by decide +kernel
theorem d8_30 : decode jdk_42_method_66_code 30 = .ok (.getfield 15, 3) := by decide +kernel
theorem d8_33 : decode jdk_42_method_66_code 33 = .ok (.if_icmp .ne 21, 3) := by decide +kernel
theorem d8_36 : decode jdk_42_method_66_code 36 = .ok (.aload_n 0, 1) := by decide +kernel
theorem d8_37 : decode jdk_42_method_66_code 37 = .ok (.getfield 9, 3) := by decide +kernel
theorem d8_40 : decode jdk_42_method_66_code 40 = .ok (.aload_n 2, 1) := by decide +kernel
theorem d8_41 : decode jdk_42_method_66_code 41 = .ok (.getfield 9, 3) := by decide +kernel
theorem pd_10 : parseMethodDescriptor "([B[B)Z" = some ⟨[(.array .byte), (.array .byte)], some .boolean⟩ := by decide +kernel
theorem d8_44 : decode jdk_42_method_66_code 44 = .ok (.invokestatic 541, 3) := by decide +kernel
theorem d8_47 : decode jdk_42_method_66_code 47 = .ok (.ifCond .eq 7, 3) := by decide +kernel
theorem d8_54 : decode jdk_42_method_66_code 54 = .ok (.iconst 0, 1) := by decide +kernel
theorem d8_55 : decode jdk_42_method_66_code 55 = .ok (.ireturn, 1) := by decide +kernel
def Q8 (Z : State) (a0 : Addr) (a1 : Addr) (b0 : Addr) (b1 : Addr) (k0 : ClassId) (k1 : ClassId) (cs : Int32) (h0 : Heap) (n0 : Nat) (v : Option Value) (h : Heap) (L : List Loc) : Prop := v = some (.int (0 : Int32)) ∧ Fr n0 L ∧ h = h0
set_option maxRecDepth 65536 in
set_option maxHeartbeats 40000000 in
theorem rm8 (l : Launch) (Z : State) (ag : Array Value) (hw : ∀ d ∈ tables_1, d.before ag Z = true) (ws : List Jvm.Cond) (a0 : Addr) (a1 : Addr) (b0 : Addr) (b1 : Addr) (k0 : ClassId) (k1 : ClassId) (cs : Int32) (h0 : Heap) (n0 : Nat) (Z0 : n0 ≤ h0.size) (E_a0 : Exa Z h0 a0 "java/lang/String") (F_value_a0 : Fld Z h0 a0 "java/lang/String" "value" "[B" (.ref b0)) (V_b0 : Arv Z h0 b0 k0 .byte (1 : Int32) [(.int (97 : Int32))] (.int (0 : Int32))) (F_coder_a0 : Fld Z h0 a0 "java/lang/String" "coder" "B" (.int (0 : Int32))) (E_a1 : Exa Z h0 a1 "java/lang/String") (F_value_a1 : Fld Z h0 a1 "java/lang/String" "value" "[B" (.ref b1)) (V_b1 : Arv Z h0 b1 k1 .byte (1 : Int32) [(.int (98 : Int32))] (.int (0 : Int32))) (F_coder_a1 : Fld Z h0 a1 "java/lang/String" "coder" "B" (.int (0 : Int32))) (ne_a0_a1 : a0 ≠ a1) (O_ : Old Z n0 h0) (S_cs : Sta Z Z.heap "java/lang/String" "COMPACT_STRINGS" "Z" (.int cs)) (hcs : ¬ cs = (0 : Int32)) :
    MetFree l (⟨"java/lang/String", "equals", "(Ljava/lang/Object;)Z"⟩ : MethodName) (head1 (Jvm.Cond.code (⟨"java/lang/String", "equals", "(Ljava/lang/Object;)Z"⟩ : MethodName) jdk_42_method_66_code 3 (some .boolean) :: ws) ({ frames := 1, cells := 0, slots := 0, locals := 14 } : Room)) (fun a U => a = #[(.ref a0), (.ref a1)] ∧ Z.Warmed39 U.vm ∧ U.heap = h0) (fun _ _ _ _ _ => True) (fun _ U o U' => ∃ v L, o = .returned v ∧ Q8 Z a0 a1 b0 b1 k0 k1 cs h0 n0 v U'.heap L ∧ FrameEnd U o U' L ({ frames := 1, cells := 0, slots := 0, locals := 14 } : Room).cells ({ frames := 1, cells := 0, slots := 0, locals := 14 } : Room).slots) := by
  refine MetFree.of_bodySF (plainFor_of_name pn_6) hisR ?_
  intro p e s m args below meth c s₁ Bd hml0 hP hK
  obtain ⟨rfl, hZ, hh⟩ := hP
  have hx := Bd.exec
  have hby := Bd.bytes
  have hml : c.maxLocals = 3 := hml0
  have hown : s.vm.findClass "java/lang/String" = some m.cls := findClass_of_methodNamed Bd.named
  have hnm := (name_of_methodNamed Bd.named Bd.method).1
  have X0 : Stand p l e ({ frames := 1, cells := 0, slots := 0, locals := 14 } : Room) s m #[(.ref a0), (.ref a1)] below meth c s₁ [] 0 0 := Stand.of_body Bd
  have e0 : s₁.heap = h0 := by rw [← hh, Bd.state]; rfl
  have N0 := Fr.nil n0
  have pre0 : ∀ t, Steps p.tables e below (s₁.setTop (mkF m 0 #[.val (.ref a0), .val (.ref a1), .unset] [])) t → Steps p.tables e below (s₁.setTop (entryFrame m #[(.ref a0), (.ref a1)] 3)) t := fun t k => castTop (ef_8 m a0 a1) k
  obtain ⟨T31, X31, e31, st31⟩ := instY X0 hx hZ hown (hw _ (List.mem_of_getElem? (i := 46) rfl)) e0 (Ins.self E_a1) (g := (mkF m 8 #[.val (.ref a0), .val (.ref a1), .unset] [(.ref a1)])) rfl rfl (hb hby d8_8)
  obtain ⟨T32, X32, e32, st32⟩ := castY X31 hx hZ hown (hw _ (List.mem_of_getElem? (i := 46) rfl)) e31 (Ins.self E_a1) (g := (mkF m 15 #[.val (.ref a0), .val (.ref a1), .unset] [(.ref a1)])) rfl rfl (hb hby d8_15)
  obtain ⟨T33, X33, e33, st33⟩ := getS2 X32 hx hZ hown (host := "") (Or.inl (hw _ (List.mem_of_getElem? (i := 48) rfl))) Via.refl e32 (Sta.ext O_.2 S_cs) (g := (mkF m 19 #[.val (.ref a0), .val (.ref a1), .val (.ref a1)] [])) rfl (hb hby d8_19)
  obtain ⟨T34, X34, e34, st34⟩ := getF X33 hx hZ hown (host := "") (Or.inl (hw _ (List.mem_of_getElem? (i := 49) rfl))) Via.refl e33 F_coder_a0 (g := (mkF m 26 #[.val (.ref a0), .val (.ref a1), .val (.ref a1)] [(.ref a0)])) rfl rfl (hb hby d8_26)
  obtain ⟨T35, X35, e35, st35⟩ := getF X34 hx hZ hown (host := "") (Or.inl (hw _ (List.mem_of_getElem? (i := 49) rfl))) Via.refl e34 F_coder_a1 (g := (mkF m 30 #[.val (.ref a0), .val (.ref a1), .val (.ref a1)] [(.ref a1), .int 0])) rfl rfl (hb hby d8_30)
  obtain ⟨T36, X36, e36, st36⟩ := getF X35 hx hZ hown (host := "") (Or.inl (hw _ (List.mem_of_getElem? (i := 40) rfl))) Via.refl e35 F_value_a0 (g := (mkF m 37 #[.val (.ref a0), .val (.ref a1), .val (.ref a1)] [(.ref a0)])) rfl rfl (hb hby d8_37)
  obtain ⟨T37, X37, e37, st37⟩ := getF X36 hx hZ hown (host := "") (Or.inl (hw _ (List.mem_of_getElem? (i := 40) rfl))) Via.refl e36 F_value_a1 (g := (mkF m 41 #[.val (.ref a0), .val (.ref a1), .val (.ref a1)] [(.ref a1), (.ref b0)])) rfl rfl (hb hby d8_41)
  have cp38 : ∀ target, own_S p e below T37 (mkF m 44 #[.val (.ref a0), .val (.ref a1), .val (.ref a1)] [(.ref b1), (.ref b0)]) target → own_S p e below s₁ (mkF m 0 #[.val (.ref a0), .val (.ref a1), .unset] []) target := by
    intro target kt
    show own_S p e below s₁ (mkF m 0 #[.val (.ref a0), .val (.ref a1), .unset] []) _
    refine XS.aloadN X0.here hx rfl (hb hby d8_0) rfl rfl ?_
    show own_S p e below s₁ (mkF m 1 #[.val (.ref a0), .val (.ref a1), .unset] [(.ref a0)]) _
    refine XS.aloadN X0.here hx rfl (hb hby d8_1) rfl rfl ?_
    show own_S p e below s₁ (mkF m 2 #[.val (.ref a0), .val (.ref a1), .unset] [(.ref a1), (.ref a0)]) _
    refine Jvm.RoadKit.acmp (g := (mkF m 2 #[.val (.ref a0), .val (.ref a1), .unset] [(.ref a1), (.ref a0)])) X0 hx rfl rfl rfl (pc0 := 2) (pc' := 7) (same := false) rfl (hb hby d8_2) rfl (decide_eq_false fun q => ne_a0_a1 (Value.ref.inj q)) (by decide) (by decide) ?_
    show own_S p e below s₁ (mkF m 7 #[.val (.ref a0), .val (.ref a1), .unset] []) _
    refine XS.aloadN X0.here hx rfl (hb hby d8_7) rfl rfl ?_
    show own_S p e below s₁ (mkF m 8 #[.val (.ref a0), .val (.ref a1), .unset] [(.ref a1)]) _
    refine st31 _ ?_
    show own_S p e below T31 (mkF m 11 #[.val (.ref a0), .val (.ref a1), .unset] [.int 1]) _
    refine XS.ifNo X31.here hx rfl (hb hby d8_11) rfl ((if0 _ _).trans (feq (by decide : ¬ ((1 : Int32) = (0 : Int32)))).1) ?_
    show own_S p e below T31 (mkF m 14 #[.val (.ref a0), .val (.ref a1), .unset] []) _
    refine XS.aloadN X31.here hx rfl (hb hby d8_14) rfl rfl ?_
    show own_S p e below T31 (mkF m 15 #[.val (.ref a0), .val (.ref a1), .unset] [(.ref a1)]) _
    refine st32 _ ?_
    show own_S p e below T32 (mkF m 18 #[.val (.ref a0), .val (.ref a1), .unset] [(.ref a1)]) _
    refine XS.astoreN X32.here hx rfl (hb hby d8_18) rfl rfl (l' := #[.val (.ref a0), .val (.ref a1), .val (.ref a1)]) rfl ?_
    show own_S p e below T32 (mkF m 19 #[.val (.ref a0), .val (.ref a1), .val (.ref a1)] []) _
    refine st33 _ ?_
    show own_S p e below T33 (mkF m 22 #[.val (.ref a0), .val (.ref a1), .val (.ref a1)] [(.int cs)]) _
    refine XS.ifNo X33.here hx rfl (hb hby d8_22) rfl ((if0 _ _).trans (feq (show ¬ (cs = (0 : Int32)) from hcs)).1) ?_
    show own_S p e below T33 (mkF m 25 #[.val (.ref a0), .val (.ref a1), .val (.ref a1)] []) _
    refine XS.aloadN X33.here hx rfl (hb hby d8_25) rfl rfl ?_
    show own_S p e below T33 (mkF m 26 #[.val (.ref a0), .val (.ref a1), .val (.ref a1)] [(.ref a0)]) _
    refine st34 _ ?_
    show own_S p e below T34 (mkF m 29 #[.val (.ref a0), .val (.ref a1), .val (.ref a1)] [.int 0]) _
    refine XS.aloadN X34.here hx rfl (hb hby d8_29) rfl rfl ?_
    show own_S p e below T34 (mkF m 30 #[.val (.ref a0), .val (.ref a1), .val (.ref a1)] [(.ref a1), .int 0]) _
    refine st35 _ ?_
    show own_S p e below T35 (mkF m 33 #[.val (.ref a0), .val (.ref a1), .val (.ref a1)] [.int 0, .int 0]) _
    refine XS.icmpNo X35.here hx rfl (hb hby d8_33) rfl (teq (by decide : (0 : Int32) = (0 : Int32))).2 ?_
    show own_S p e below T35 (mkF m 36 #[.val (.ref a0), .val (.ref a1), .val (.ref a1)] []) _
    refine XS.aloadN X35.here hx rfl (hb hby d8_36) rfl rfl ?_
    show own_S p e below T35 (mkF m 37 #[.val (.ref a0), .val (.ref a1), .val (.ref a1)] [(.ref a0)]) _
    refine st36 _ ?_
    show own_S p e below T36 (mkF m 40 #[.val (.ref a0), .val (.ref a1), .val (.ref a1)] [(.ref b0)]) _
    refine XS.aloadN X36.here hx rfl (hb hby d8_40) rfl rfl ?_
    show own_S p e below T36 (mkF m 41 #[.val (.ref a0), .val (.ref a1), .val (.ref a1)] [(.ref a1), (.ref b0)]) _
    refine st37 _ ?_
    exact kt
  obtain ⟨_, _, ⟨T39, L39, k39, n39⟩, -, X39, ⟨Lc39, hQ39, l39, y39, z39⟩, st39⟩ := Jvm.LawKit.callS X37 hx (y := (⟨"java/lang/StringLatin1", "equals", "([B[B)Z"⟩ : MethodName)) hown (mvT hZ (hw _ (List.mem_of_getElem? (i := 50) rfl))) (mvT hZ (hw _ (List.mem_of_getElem? (i := 51) rfl))) (mvT hZ (hw _ (List.mem_of_getElem? (i := 52) rfl))) (mvT hZ (hw _ (List.mem_of_getElem? (i := 53) rfl))) (by decide) (backOf (W := 0) (rm9 l Z ag hw [] b0 b1 k0 k1 h0 n0 Z0 V_b0 V_b1) hZ (hw _ (List.mem_of_getElem? (i := 53) rfl)) (hw _ (List.mem_of_getElem? (i := 52) rfl)) (by decide) (by decide)) (g := (mkF m 44 #[.val (.ref a0), .val (.ref a1), .val (.ref a1)] [(.ref b1), (.ref b0)])) rfl (by rw [hml]; rfl) (argsL := [(.ref b0), (.ref b1)]) (rest := []) (lenOf pd_10 rfl) rfl (by show 2 * 0 + _ ≤ _; exact Nat.le_of_eq rfl) (hb hby d8_44) (fun _ _ => ⟨rfl, e37, (by decide : 0 + 0 ≤ _), (by decide : 0 + 0 ≤ _)⟩)
  dsimp only [Pt.U, Pt.locs, Pt.cells, Pt.slots] at X39 l39 y39 z39 st39 hQ39
  subst l39 y39 z39
  obtain ⟨rfl, N39q, e39⟩ := hQ39
  have N39 := Fr.app N0 N39q
  obtain ⟨fs, hr, hrun, hended, hW, hsame⟩ := X39.leave (v := some (.int (0 : Int32))) (fun h => by rw [Bd.returns] at h; cases h)
  refine ⟨_, _, pre0 _ ?_, hrun, hended, _, _, rfl, ?_, ⟨_, rfl⟩, hW, hsame.mono (by decide) (by decide)⟩
  · show own_S p e below s₁ (mkF m 0 #[.val (.ref a0), .val (.ref a1), .unset] []) _
    refine cp38 _ ?_
    show own_S p e below T37 (mkF m 44 #[.val (.ref a0), .val (.ref a1), .val (.ref a1)] [(.ref b1), (.ref b0)]) _
    refine st39 _ ?_
    show own_S p e below T39 (mkF m 47 #[.val (.ref a0), .val (.ref a1), .val (.ref a1)] [.int 0]) _
    refine XS.ifYes X39.here hx rfl (pc0 := 47) (pc' := 54) rfl (hb hby d8_47) rfl ((if0 _ _).trans (teq (by decide : (0 : Int32) = (0 : Int32))).1) (by decide) (by decide) ?_
    show own_S p e below T39 (mkF m 54 #[.val (.ref a0), .val (.ref a1), .val (.ref a1)] []) _
    refine XS.iconst X39.here hx rfl (hb hby d8_54) ?_
    show own_S p e below T39 (mkF m 55 #[.val (.ref a0), .val (.ref a1), .val (.ref a1)] [.int 0]) _
    exact retN X39 hx (t := .boolean) Bd.returns (by simp) (hb hby d8_55) hr
  · show Q8 Z a0 a1 b0 b1 k0 k1 cs h0 n0 _ T39.heap _
    rw [e39]
    exact ⟨rfl, N39, rfl⟩
theorem pn_0 : plainName "com/example/eraztun/eraztun/MemberNames" = true := by first | (simp [plainName, overriddenIn]; done) | decide +kernel
theorem ef_5 (m : MethodId) (a0 : Addr) : entryFrame m #[(.ref a0)] 1 = mkF m 0 #[.val (.ref a0)] [] := by first | (simp [entryFrame, mkF, argsToLocals, Value.category]; done) | rfl
theorem d5_0 : decode prog_4_method_2_code 0 = .ok (.aload_n 0, 1) := by decide +kernel
theorem d5_1 : decode prog_4_method_2_code 1 = .ok (.ldc 7, 2) := by decide +kernel
theorem pd_7 : parseMethodDescriptor "(Ljava/lang/Object;Ljava/lang/String;)Ljava/lang/Object;" = some ⟨[(.object "java/lang/Object"), (.object "java/lang/String")], some (.object "java/lang/Object")⟩ := by decide +kernel
theorem d5_3 : decode prog_4_method_2_code 3 = .ok (.invokestatic 9, 3) := by decide +kernel
theorem d5_6 : decode prog_4_method_2_code 6 = .ok (.pop, 1) := by decide +kernel
theorem d5_7 : decode prog_4_method_2_code 7 = .ok (.aload_n 0, 1) := by decide +kernel
theorem pd_1 : parseMethodDescriptor "()Z" = some ⟨[], some .boolean⟩ := by decide +kernel
theorem d5_8 : decode prog_4_method_2_code 8 = .ok (.invokevirtual 15, 3) := by decide +kernel
theorem d5_11 : decode prog_4_method_2_code 11 = .ok (.ifCond .eq 13, 3) := by decide +kernel
theorem d5_24 : decode prog_4_method_2_code 24 = .ok (.return_, 1) := by decide +kernel
def Q5 (Z : State) (a0 : Addr) (b : Addr) (kb : ClassId) (bs : List Value) (h0 : Heap) (n0 : Nat) (v : Option Value) (h : Heap) (L : List Loc) : Prop := v = none ∧ Fr n0 L ∧ Keep h0 h []
set_option maxRecDepth 65536 in
set_option maxHeartbeats 40000000 in
theorem rm5 (l : Launch) (Z : State) (ag : Array Value) (hw : ∀ d ∈ tables_1, d.before ag Z = true) (ws : List Jvm.Cond) (a0 : Addr) (b : Addr) (kb : ClassId) (bs : List Value) (h0 : Heap) (n0 : Nat) (Z0 : n0 ≤ h0.size) (E_a0 : Exa Z h0 a0 "java/lang/String") (F_value_a0 : Fld Z h0 a0 "java/lang/String" "value" "[B" (.ref b)) (V_b : Arv Z h0 b kb .byte (1 : Int32) bs (.int (0 : Int32))) :
    MetFree l (⟨"com/example/eraztun/eraztun/MemberNames", "check", "(Ljava/lang/String;)V"⟩ : MethodName) (head1 (Jvm.Cond.code (⟨"com/example/eraztun/eraztun/MemberNames", "check", "(Ljava/lang/String;)V"⟩ : MethodName) prog_4_method_2_code 1 none :: ws) ({ frames := 1, cells := 2, slots := 88, locals := 13 } : Room)) (fun a U => a = #[(.ref a0)] ∧ Z.Warmed39 U.vm ∧ U.heap = h0) (fun _ _ _ _ _ => True) (fun _ U o U' => ∃ v L, o = .returned v ∧ Q5 Z a0 b kb bs h0 n0 v U'.heap L ∧ ReturnedEndW U o U' L ({ frames := 1, cells := 2, slots := 88, locals := 13 } : Room).cells ({ frames := 1, cells := 2, slots := 88, locals := 13 } : Room).slots) := by
  refine MetFree.of_bodySF (plainFor_of_name pn_0) hisR ?_
  intro p e s m args below meth c s₁ Bd hml0 hP hK
  obtain ⟨rfl, hZ, hh⟩ := hP
  have hx := Bd.exec
  have hby := Bd.bytes
  have hml : c.maxLocals = 1 := hml0
  have hown : s.vm.findClass "com/example/eraztun/eraztun/MemberNames" = some m.cls := findClass_of_methodNamed Bd.named
  have hnm := (name_of_methodNamed Bd.named Bd.method).1
  have X0 : Stand p l e ({ frames := 1, cells := 2, slots := 88, locals := 13 } : Room) s m #[(.ref a0)] below meth c s₁ [] 0 0 := Stand.of_body Bd
  have e0 : s₁.heap = h0 := by rw [← hh, Bd.state]; rfl
  have N0 := Fr.nil n0
  have pre0 : ∀ t, Steps p.tables e below (s₁.setTop (mkF m 0 #[.val (.ref a0)] [])) t → Steps p.tables e below (s₁.setTop (entryFrame m #[(.ref a0)] 1)) t := fun t k => castTop (ef_5 m a0) k
  have X0 : Stand p l e ({ frames := 1, cells := 2, slots := 88, locals := 13 } : Room) (s.setVm s.vm) m #[(.ref a0)] below meth c s₁ [] 0 0 := X0
  have hS : s.Since s.vm 0 := (State.WarmedH.refl s).since 0
  have hkS : 0 ≤ h0.size := Nat.zero_le _
  have hwS : ∀ d ∈ Bundle.stringAtoms, d.before ag Z = true := fun d hd => hw d ((by decide +kernel : ∀ d ∈ Bundle.stringAtoms, d ∈ tables_1) d hd)
  obtain ⟨sa40, T40, h40, kS40, X40, e40, E40, hS, hkS40, hZ, hown, st40⟩ := ldcS X0 hx hZ hown (hw _ (List.mem_of_getElem? (i := 30) rfl)) hwS e0 hS hkS (g := (mkF m 1 #[.val (.ref a0)] [(.ref a0)])) rfl (hb hby d5_1) (n := 84) (by decide) (by decide) (by decide) (by decide)
  have x41 := E_a0.ext E40
  have x42 := F_value_a0.ext E40
  have x43 := V_b.ext E40
  have sz44 : n0 ≤ h40.size := Nat.le_trans Z0 E40.1
  have hkS := Nat.le_trans hkS E40.1
  have kp45 : Keep h0 h40 [] := (Keep.refl h0 []).ext E40
  have hkS := hkS40
  obtain ⟨_, _, ⟨T46, L46, k46, n46⟩, -, X46, ⟨Lc46, hQ46, l46, y46, z46⟩, st46⟩ := Jvm.LawKit.callS X40 hx (y := (⟨"java/util/Objects", "requireNonNull", "(Ljava/lang/Object;Ljava/lang/String;)Ljava/lang/Object;"⟩ : MethodName)) hown (mvT hZ (hw _ (List.mem_of_getElem? (i := 31) rfl))) (mvT hZ (hw _ (List.mem_of_getElem? (i := 32) rfl))) (mvT hZ (hw _ (List.mem_of_getElem? (i := 33) rfl))) (mvT hZ (hw _ (List.mem_of_getElem? (i := 34) rfl))) (by decide) (backOf (W := 0) (rm6 l Z ag hw [] a0 sa40  h40 n0 sz44 ) hZ (hw _ (List.mem_of_getElem? (i := 34) rfl)) (hw _ (List.mem_of_getElem? (i := 33) rfl)) (by decide) (by decide)) (g := (mkF m 3 #[.val (.ref a0)] [(.ref sa40), (.ref a0)])) rfl (by rw [hml]; rfl) (argsL := [(.ref a0), (.ref sa40)]) (rest := []) (lenOf pd_7 rfl) rfl (by show 2 * 0 + _ ≤ _; exact Nat.le_of_eq rfl) (hb hby d5_3) (fun _ _ => ⟨rfl, e40, (by decide : 2 + 0 ≤ _), (by decide : 88 + 0 ≤ _)⟩)
  dsimp only [Pt.U, Pt.locs, Pt.cells, Pt.slots] at X46 l46 y46 z46 st46 hQ46
  subst l46 y46 z46
  obtain ⟨rfl, N46q, e46⟩ := hQ46
  have N46 := Fr.app N0 N46q
  obtain ⟨cq47, kq47, q47a, q47b, q47c⟩ := isOf hZ e46 x41
  obtain ⟨_, _, ⟨T47, L47, k47, n47⟩, -, X47, ⟨Lc47, hQ47, l47, y47, z47⟩, st47⟩ := X46.virtualBack hx (y := (⟨"java/lang/String", "isEmpty", "()Z"⟩ : MethodName)) (z := (⟨"java/lang/String", "isEmpty", "()Z"⟩ : MethodName)) hown (mvT hZ (hw _ (List.mem_of_getElem? (i := 35) rfl))) (mvT hZ (hw _ (List.mem_of_getElem? (i := 36) rfl))) (notFace_of_selects (args := #[]) (mvT hZ (hw _ (List.mem_of_getElem? (i := 38) rfl)))) (mvT hZ (hw _ (List.mem_of_getElem? (i := 38) rfl))) (mvT hZ (hw _ (List.mem_of_getElem? (i := 37) rfl))) (by decide) (backOf (W := 0) (rm7 l Z ag hw [] a0 b kb (1 : Int32) bs h40 n0 sz44 x42 x43 (by decide)) hZ (hw _ (List.mem_of_getElem? (i := 39) rfl)) (hw _ (List.mem_of_getElem? (i := 4) rfl)) (by decide) (by decide)) q47a q47c (g := (mkF m 8 #[.val (.ref a0)] [(.ref a0)])) rfl (by rw [hml]; rfl) (Steps.refl _) (argsL := []) (rest := []) (lenOf pd_1 rfl) rfl (by show 2 * 0 + _ ≤ _; exact Nat.le_of_eq rfl) (hb hby d5_8) (fun _ _ => ⟨rfl, e46, (by decide : 2 + 0 ≤ _), (by decide : 88 + 0 ≤ _)⟩)
  dsimp only [Pt.U, Pt.locs, Pt.cells, Pt.slots] at X47 l47 y47 z47 st47 hQ47
  subst l47 y47 z47
  obtain ⟨rfl, N47q, e47⟩ := hQ47
  have N47 := Fr.app N46 N47q
  obtain ⟨fs, hr, hrun, hended, hEnd⟩ := X47.leaveW hS (by rw [e47]; exact hkS) (v := none) (fun _ => rfl)
  refine ⟨_, _, pre0 _ ?_, hrun, hended, _, _, rfl, ?_, hEnd.1, hEnd.2.1, hEnd.2.2.1, hEnd.2.2.2.mono (by decide) (by decide)⟩
  · show own_S p e below s₁ (mkF m 0 #[.val (.ref a0)] []) _
    refine XS.aloadN X0.here hx rfl (hb hby d5_0) rfl rfl ?_
    show own_S p e below s₁ (mkF m 1 #[.val (.ref a0)] [(.ref a0)]) _
    refine st40 _ ?_
    show own_S p e below T40 (mkF m 3 #[.val (.ref a0)] [(.ref sa40), (.ref a0)]) _
    refine st46 _ ?_
    show own_S p e below T46 (mkF m 6 #[.val (.ref a0)] [(.ref a0)]) _
    refine XS.pop X46.here hx rfl (hb hby d5_6) rfl rfl ?_
    show own_S p e below T46 (mkF m 7 #[.val (.ref a0)] []) _
    refine XS.aloadN X46.here hx rfl (hb hby d5_7) rfl rfl ?_
    show own_S p e below T46 (mkF m 8 #[.val (.ref a0)] [(.ref a0)]) _
    refine st47.trans ?_
    show own_S p e below T47 (mkF m 11 #[.val (.ref a0)] [.int 0]) _
    refine XS.ifYes X47.here hx rfl (pc0 := 11) (pc' := 24) rfl (hb hby d5_11) rfl ((if0 _ _).trans (teq (by decide : (0 : Int32) = (0 : Int32))).1) (by decide) (by decide) ?_
    show own_S p e below T47 (mkF m 24 #[.val (.ref a0)] []) _
    exact X47.returnOut hx Bd.returns (hb hby d5_24) hr
  · show Q5 Z a0 b kb bs h0 n0 _ T47.heap _
    rw [e47]
    exact ⟨rfl, N47, kp45⟩
theorem ef_4 (m : MethodId) (a0 : Addr) (a1 : Addr) : entryFrame m #[(.ref a0), (.ref a1)] 2 = mkF m 0 #[.val (.ref a0), .val (.ref a1)] [] := by first | (simp [entryFrame, mkF, argsToLocals, Value.category]; done) | rfl
theorem d4_0 : decode prog_4_method_3_code 0 = .ok (.aload_n 0, 1) := by decide +kernel
theorem pd_8 : parseMethodDescriptor "(Ljava/lang/String;)V" = some ⟨[(.object "java/lang/String")], none⟩ := by decide +kernel
theorem d4_1 : decode prog_4_method_3_code 1 = .ok (.invokestatic 28, 3) := by decide +kernel
theorem d4_4 : decode prog_4_method_3_code 4 = .ok (.aload_n 1, 1) := by decide +kernel
theorem d4_5 : decode prog_4_method_3_code 5 = .ok (.invokestatic 28, 3) := by decide +kernel
theorem d4_8 : decode prog_4_method_3_code 8 = .ok (.aload_n 0, 1) := by decide +kernel
theorem d4_9 : decode prog_4_method_3_code 9 = .ok (.aload_n 1, 1) := by decide +kernel
theorem pd_6 : parseMethodDescriptor "(Ljava/lang/Object;)Z" = some ⟨[(.object "java/lang/Object")], some .boolean⟩ := by decide +kernel
theorem d4_10 : decode prog_4_method_3_code 10 = .ok (.invokevirtual 33, 3) := by decide +kernel
theorem d4_13 : decode prog_4_method_3_code 13 = .ok (.ifCond .eq 17, 3) := by decide +kernel
theorem d4_30 : decode prog_4_method_3_code 30 = .ok (.return_, 1) := by decide +kernel
def Q4 (Z : State) (a0 : Addr) (a1 : Addr) (b0 : Addr) (b1 : Addr) (k0 : ClassId) (k1 : ClassId) (cs : Int32) (h0 : Heap) (n0 : Nat) (v : Option Value) (h : Heap) (L : List Loc) : Prop := v = none ∧ Fr n0 L ∧ Keep h0 h []
set_option maxRecDepth 65536 in
set_option maxHeartbeats 40000000 in
theorem rm4 (l : Launch) (Z : State) (ag : Array Value) (hw : ∀ d ∈ tables_1, d.before ag Z = true) (ws : List Jvm.Cond) (a0 : Addr) (a1 : Addr) (b0 : Addr) (b1 : Addr) (k0 : ClassId) (k1 : ClassId) (cs : Int32) (h0 : Heap) (n0 : Nat) (Z0 : n0 ≤ h0.size) (E_a0 : Exa Z h0 a0 "java/lang/String") (F_value_a0 : Fld Z h0 a0 "java/lang/String" "value" "[B" (.ref b0)) (V_b0 : Arv Z h0 b0 k0 .byte (1 : Int32) [(.int (97 : Int32))] (.int (0 : Int32))) (F_coder_a0 : Fld Z h0 a0 "java/lang/String" "coder" "B" (.int (0 : Int32))) (E_a1 : Exa Z h0 a1 "java/lang/String") (F_value_a1 : Fld Z h0 a1 "java/lang/String" "value" "[B" (.ref b1)) (V_b1 : Arv Z h0 b1 k1 .byte (1 : Int32) [(.int (98 : Int32))] (.int (0 : Int32))) (F_coder_a1 : Fld Z h0 a1 "java/lang/String" "coder" "B" (.int (0 : Int32))) (ne_a0_a1 : a0 ≠ a1) (O_ : Old Z n0 h0) (S_cs : Sta Z Z.heap "java/lang/String" "COMPACT_STRINGS" "Z" (.int cs)) (hcs : ¬ cs = (0 : Int32)) :
    MetFree l (⟨"com/example/eraztun/eraztun/MemberNames", "checkHandedOver", "(Ljava/lang/String;Ljava/lang/String;)V"⟩ : MethodName) (head1 (Jvm.Cond.code (⟨"com/example/eraztun/eraztun/MemberNames", "checkHandedOver", "(Ljava/lang/String;Ljava/lang/String;)V"⟩ : MethodName) prog_4_method_3_code 2 none :: ws) ({ frames := 2, cells := 4, slots := 176, locals := 28 } : Room)) (fun a U => a = #[(.ref a0), (.ref a1)] ∧ Z.Warmed39 U.vm ∧ U.heap = h0) (fun _ _ _ _ _ => True) (fun _ U o U' => ∃ v L, o = .returned v ∧ Q4 Z a0 a1 b0 b1 k0 k1 cs h0 n0 v U'.heap L ∧ ReturnedEndW U o U' L ({ frames := 2, cells := 4, slots := 176, locals := 28 } : Room).cells ({ frames := 2, cells := 4, slots := 176, locals := 28 } : Room).slots) := by
  refine MetFree.of_bodySF (plainFor_of_name pn_0) hisR ?_
  intro p e s m args below meth c s₁ Bd hml0 hP hK
  obtain ⟨rfl, hZ, hh⟩ := hP
  have hx := Bd.exec
  have hby := Bd.bytes
  have hml : c.maxLocals = 2 := hml0
  have hown : s.vm.findClass "com/example/eraztun/eraztun/MemberNames" = some m.cls := findClass_of_methodNamed Bd.named
  have hnm := (name_of_methodNamed Bd.named Bd.method).1
  have X0 : Stand p l e ({ frames := 2, cells := 4, slots := 176, locals := 28 } : Room) s m #[(.ref a0), (.ref a1)] below meth c s₁ [] 0 0 := Stand.of_body Bd
  have e0 : s₁.heap = h0 := by rw [← hh, Bd.state]; rfl
  have N0 := Fr.nil n0
  have pre0 : ∀ t, Steps p.tables e below (s₁.setTop (mkF m 0 #[.val (.ref a0), .val (.ref a1)] [])) t → Steps p.tables e below (s₁.setTop (entryFrame m #[(.ref a0), (.ref a1)] 2)) t := fun t k => castTop (ef_4 m a0 a1) k
  have X0 : Stand p l e ({ frames := 2, cells := 4, slots := 176, locals := 28 } : Room) (s.setVm s.vm) m #[(.ref a0), (.ref a1)] below meth c s₁ [] 0 0 := X0
  have hS : s.Since s.vm 0 := (State.WarmedH.refl s).since 0
  have hkS : 0 ≤ h0.size := Nat.zero_le _
  have hwS : ∀ d ∈ Bundle.stringAtoms, d.before ag Z = true := fun d hd => hw d ((by decide +kernel : ∀ d ∈ Bundle.stringAtoms, d ∈ tables_1) d hd)
  obtain ⟨_, _, ⟨T48, L48, k48, n48⟩, -, X48, hS2_48, hg2_48, ⟨Lc48, hQ48, l48, y48, z48⟩, st48⟩ := callSS X0 hx (y := (⟨"com/example/eraztun/eraztun/MemberNames", "check", "(Ljava/lang/String;)V"⟩ : MethodName)) hown (mvT hZ (hw _ (List.mem_of_getElem? (i := 27) rfl))) (mvT hZ (hw _ (List.mem_of_getElem? (i := 28) rfl))) (mvT hZ (hw _ (List.mem_of_getElem? (i := 25) rfl))) (mvT hZ (hw _ (List.mem_of_getElem? (i := 29) rfl))) (by decide) (backOfS (W := 0) (rm5 l Z ag hw [] a0 b0 k0 [(.int (97 : Int32))] h0 n0 Z0 E_a0 F_value_a0 V_b0) hZ (hw _ (List.mem_of_getElem? (i := 29) rfl)) (hw _ (List.mem_of_getElem? (i := 25) rfl)) (by decide) (by decide)) (g := (mkF m 1 #[.val (.ref a0), .val (.ref a1)] [(.ref a0)])) rfl (by rw [hml]; rfl) (argsL := [(.ref a0)]) (rest := []) (lenOf pd_8 rfl) rfl (by show 2 * 0 + _ ≤ _; exact Nat.le_of_eq rfl) (hb hby d4_1) (fun _ _ => ⟨rfl, e0, (by decide : 0 + 2 ≤ _), (by decide : 0 + 88 ≤ _)⟩)
  dsimp only [Pt.U, Pt.locs, Pt.cells, Pt.slots] at X48 l48 y48 z48 st48 hQ48 hS2_48 hg2_48
  subst l48 y48 z48
  obtain ⟨X48, hS, hZ, hown⟩ := rebS hS (by rw [e0]; exact hkS) X48 hS2_48 hg2_48 hZ hown
  obtain ⟨rfl, N48q, K48⟩ := hQ48
  have N48 := Fr.app N0 N48q
  have x49 := E_a0.keep K48
  have x50 := F_value_a0.keep K48 nin0
  have x51 := V_b0.keep K48 nin0
  have x52 := F_coder_a0.keep K48 nin0
  have x53 := E_a1.keep K48
  have x54 := F_value_a1.keep K48 nin0
  have x55 := V_b1.keep K48 nin0
  have x56 := F_coder_a1.keep K48 nin0
  have x57 := O_.keep K48 all0
  have sz58 : n0 ≤ T48.heap.size := Nat.le_trans Z0 K48.1
  have hkS := Nat.le_trans hkS K48.1
  have kp59 : Keep h0 T48.heap [] := (Keep.refl h0 []).trans K48 all0
  have hkS : T48.heap.size ≤ T48.heap.size := Nat.le_refl _
  obtain ⟨_, _, ⟨T60, L60, k60, n60⟩, -, X60, hS2_60, hg2_60, ⟨Lc60, hQ60, l60, y60, z60⟩, st60⟩ := callSS X48 hx (y := (⟨"com/example/eraztun/eraztun/MemberNames", "check", "(Ljava/lang/String;)V"⟩ : MethodName)) hown (mvT hZ (hw _ (List.mem_of_getElem? (i := 27) rfl))) (mvT hZ (hw _ (List.mem_of_getElem? (i := 28) rfl))) (mvT hZ (hw _ (List.mem_of_getElem? (i := 25) rfl))) (mvT hZ (hw _ (List.mem_of_getElem? (i := 29) rfl))) (by decide) (backOfS (W := 0) (rm5 l Z ag hw [] a1 b1 k1 [(.int (98 : Int32))] T48.heap n0 sz58 x53 x54 x55) hZ (hw _ (List.mem_of_getElem? (i := 29) rfl)) (hw _ (List.mem_of_getElem? (i := 25) rfl)) (by decide) (by decide)) (g := (mkF m 5 #[.val (.ref a0), .val (.ref a1)] [(.ref a1)])) rfl (by rw [hml]; rfl) (argsL := [(.ref a1)]) (rest := []) (lenOf pd_8 rfl) rfl (by show 2 * 0 + _ ≤ _; exact Nat.le_of_eq rfl) (hb hby d4_5) (fun _ _ => ⟨rfl, rfl, (by decide : 2 + 2 ≤ _), (by decide : 88 + 88 ≤ _)⟩)
  dsimp only [Pt.U, Pt.locs, Pt.cells, Pt.slots] at X60 l60 y60 z60 st60 hQ60 hS2_60 hg2_60
  subst l60 y60 z60
  obtain ⟨X60, hS, hZ, hown⟩ := rebS hS hkS X60 hS2_60 hg2_60 hZ hown
  obtain ⟨rfl, N60q, K60⟩ := hQ60
  have N60 := Fr.app N48 N60q
  have x61 := x49.keep K60
  have x62 := x50.keep K60 nin0
  have x63 := x51.keep K60 nin0
  have x64 := x52.keep K60 nin0
  have x65 := x53.keep K60
  have x66 := x54.keep K60 nin0
  have x67 := x55.keep K60 nin0
  have x68 := x56.keep K60 nin0
  have x69 := x57.keep K60 all0
  have sz70 : n0 ≤ T60.heap.size := Nat.le_trans sz58 K60.1
  have hkS := Nat.le_trans hkS K60.1
  have kp71 : Keep h0 T60.heap [] := kp59.trans K60 all0
  have hkS : T60.heap.size ≤ T60.heap.size := Nat.le_refl _
  obtain ⟨cq72, kq72, q72a, q72b, q72c⟩ := isOf hZ rfl x61
  obtain ⟨_, _, ⟨T72, L72, k72, n72⟩, -, X72, ⟨Lc72, hQ72, l72, y72, z72⟩, st72⟩ := X60.virtualBack hx (y := (⟨"java/lang/String", "equals", "(Ljava/lang/Object;)Z"⟩ : MethodName)) (z := (⟨"java/lang/String", "equals", "(Ljava/lang/Object;)Z"⟩ : MethodName)) hown (mvT hZ (hw _ (List.mem_of_getElem? (i := 41) rfl))) (mvT hZ (hw _ (List.mem_of_getElem? (i := 42) rfl))) (notFace_of_selects (args := #[]) (mvT hZ (hw _ (List.mem_of_getElem? (i := 44) rfl)))) (mvT hZ (hw _ (List.mem_of_getElem? (i := 44) rfl))) (mvT hZ (hw _ (List.mem_of_getElem? (i := 43) rfl))) (by decide) (backOf (W := 0) (rm8 l Z ag hw [] a0 a1 b0 b1 k0 k1 cs T60.heap n0 sz70 x61 x62 x63 x64 x65 x66 x67 x68 ne_a0_a1 x69 S_cs hcs) hZ (hw _ (List.mem_of_getElem? (i := 45) rfl)) (hw _ (List.mem_of_getElem? (i := 4) rfl)) (by decide) (by decide)) q72a q72c (g := (mkF m 10 #[.val (.ref a0), .val (.ref a1)] [(.ref a1), (.ref a0)])) rfl (by rw [hml]; rfl) (Steps.refl _) (argsL := [(.ref a1)]) (rest := []) (lenOf pd_6 rfl) rfl (by show 2 * 0 + _ ≤ _; exact Nat.le_of_eq rfl) (hb hby d4_10) (fun _ _ => ⟨rfl, rfl, (by decide : 4 + 0 ≤ _), (by decide : 176 + 0 ≤ _)⟩)
  dsimp only [Pt.U, Pt.locs, Pt.cells, Pt.slots] at X72 l72 y72 z72 st72 hQ72
  subst l72 y72 z72
  obtain ⟨rfl, N72q, e72⟩ := hQ72
  have N72 := Fr.app N60 N72q
  obtain ⟨fs, hr, hrun, hended, hEnd⟩ := X72.leaveW hS (by rw [e72]; exact hkS) (v := none) (fun _ => rfl)
  refine ⟨_, _, pre0 _ ?_, hrun, hended, _, _, rfl, ?_, hEnd.1, hEnd.2.1, hEnd.2.2.1, hEnd.2.2.2.mono (by decide) (by decide)⟩
  · show own_S p e below s₁ (mkF m 0 #[.val (.ref a0), .val (.ref a1)] []) _
    refine XS.aloadN X0.here hx rfl (hb hby d4_0) rfl rfl ?_
    show own_S p e below s₁ (mkF m 1 #[.val (.ref a0), .val (.ref a1)] [(.ref a0)]) _
    refine st48.trans ?_
    show own_S p e below T48 (mkF m 4 #[.val (.ref a0), .val (.ref a1)] []) _
    refine XS.aloadN X48.here hx rfl (hb hby d4_4) rfl rfl ?_
    show own_S p e below T48 (mkF m 5 #[.val (.ref a0), .val (.ref a1)] [(.ref a1)]) _
    refine st60.trans ?_
    show own_S p e below T60 (mkF m 8 #[.val (.ref a0), .val (.ref a1)] []) _
    refine XS.aloadN X60.here hx rfl (hb hby d4_8) rfl rfl ?_
    show own_S p e below T60 (mkF m 9 #[.val (.ref a0), .val (.ref a1)] [(.ref a0)]) _
    refine XS.aloadN X60.here hx rfl (hb hby d4_9) rfl rfl ?_
    show own_S p e below T60 (mkF m 10 #[.val (.ref a0), .val (.ref a1)] [(.ref a1), (.ref a0)]) _
    refine st72.trans ?_
    show own_S p e below T72 (mkF m 13 #[.val (.ref a0), .val (.ref a1)] [.int 0]) _
    refine XS.ifYes X72.here hx rfl (pc0 := 13) (pc' := 30) rfl (hb hby d4_13) rfl ((if0 _ _).trans (teq (by decide : (0 : Int32) = (0 : Int32))).1) (by decide) (by decide) ?_
    show own_S p e below T72 (mkF m 30 #[.val (.ref a0), .val (.ref a1)] []) _
    exact X72.returnOut hx Bd.returns (hb hby d4_30) hr
  · show Q4 Z a0 a1 b0 b1 k0 k1 cs h0 n0 _ T72.heap _
    rw [e72]
    exact ⟨rfl, N72, kp71⟩
theorem ef_1 (m : MethodId) (a0 : Addr) (q1 : Int64) (q2 : Int64) (a3 : Addr) (a4 : Addr) : entryFrame m #[(.ref a0), (.long q1), (.long q2), (.ref a3), (.ref a4)] 7 = mkF m 0 #[.val (.ref a0), .val (.long q1), .second, .val (.long q2), .second, .val (.ref a3), .val (.ref a4)] [] := by first | (simp [entryFrame, mkF, argsToLocals, Value.category]; done) | rfl
abbrev own_loc2 (a0 : Addr) (q1 : Int64) (q2 : Int64) (a3 : Addr) (a4 : Addr) : Array Slot := #[.val (.ref a0), .val (.long q1), .second, .val (.long q2), .second, .val (.ref a3), .val (.ref a4)]
theorem d1_0 : decode prog_12_method_1_code 0 = .ok (.aload_n 0, 1) := by decide +kernel
theorem pd_0 : parseMethodDescriptor "()V" = some ⟨[], none⟩ := by decide +kernel
theorem d1_1 : decode prog_12_method_1_code 1 = .ok (.invokespecial 1, 3) := by decide +kernel
theorem d1_4 : decode prog_12_method_1_code 4 = .ok (.aload 5, 2) := by decide +kernel
theorem d1_6 : decode prog_12_method_1_code 6 = .ok (.aload 6, 2) := by decide +kernel
theorem pd_9 : parseMethodDescriptor "(Ljava/lang/String;Ljava/lang/String;)V" = some ⟨[(.object "java/lang/String"), (.object "java/lang/String")], none⟩ := by decide +kernel
theorem d1_8 : decode prog_12_method_1_code 8 = .ok (.invokestatic 7, 3) := by decide +kernel
theorem d1_11 : decode prog_12_method_1_code 11 = .ok (.aload_n 0, 1) := by decide +kernel
theorem d1_12 : decode prog_12_method_1_code 12 = .ok (.lload_n 1, 1) := by decide +kernel
theorem d1_13 : decode prog_12_method_1_code 13 = .ok (.putfield 13, 3) := by decide +kernel
theorem d1_16 : decode prog_12_method_1_code 16 = .ok (.aload_n 0, 1) := by decide +kernel
theorem d1_17 : decode prog_12_method_1_code 17 = .ok (.lload_n 3, 1) := by decide +kernel
theorem d1_18 : decode prog_12_method_1_code 18 = .ok (.putfield 19, 3) := by decide +kernel
theorem d1_21 : decode prog_12_method_1_code 21 = .ok (.aload_n 0, 1) := by decide +kernel
theorem d1_22 : decode prog_12_method_1_code 22 = .ok (.aload 5, 2) := by decide +kernel
theorem d1_24 : decode prog_12_method_1_code 24 = .ok (.putfield 22, 3) := by decide +kernel
theorem d1_27 : decode prog_12_method_1_code 27 = .ok (.aload_n 0, 1) := by decide +kernel
theorem d1_28 : decode prog_12_method_1_code 28 = .ok (.aload 6, 2) := by decide +kernel
theorem d1_30 : decode prog_12_method_1_code 30 = .ok (.putfield 26, 3) := by decide +kernel
theorem d1_33 : decode prog_12_method_1_code 33 = .ok (.return_, 1) := by decide +kernel
def Q1 (Z : State) (a0 : Addr) (q1 : Int64) (q2 : Int64) (a3 : Addr) (a4 : Addr) (b0 : Addr) (b1 : Addr) (k0 : ClassId) (k1 : ClassId) (cs : Int32) (h0 : Heap) (n0 : Nat) (v : Option Value) (h : Heap) (L : List Loc) : Prop := v = none ∧ Fr n0 L ∧ Keep h0 h [a0] ∧ Exa Z h a0 "com/example/eraztun/eraztun/Ring$Stretch" ∧ Fld Z h a0 "com/example/eraztun/eraztun/Ring$Stretch" "start" "J" (.long q1) ∧ Fld Z h a0 "com/example/eraztun/eraztun/Ring$Stretch" "end" "J" (.long q2)
set_option maxRecDepth 65536 in
set_option maxHeartbeats 40000000 in
theorem rm1 (l : Launch) (Z : State) (ag : Array Value) (hw : ∀ d ∈ tables_1, d.before ag Z = true) (ws : List Jvm.Cond) (a0 : Addr) (q1 : Int64) (q2 : Int64) (a3 : Addr) (a4 : Addr) (b0 : Addr) (b1 : Addr) (k0 : ClassId) (k1 : ClassId) (cs : Int32) (h0 : Heap) (n0 : Nat) (Z0 : n0 ≤ h0.size) (E_a3 : Exa Z h0 a3 "java/lang/String") (F_value_a3 : Fld Z h0 a3 "java/lang/String" "value" "[B" (.ref b0)) (V_b0 : Arv Z h0 b0 k0 .byte (1 : Int32) [(.int (97 : Int32))] (.int (0 : Int32))) (F_coder_a3 : Fld Z h0 a3 "java/lang/String" "coder" "B" (.int (0 : Int32))) (E_a4 : Exa Z h0 a4 "java/lang/String") (F_value_a4 : Fld Z h0 a4 "java/lang/String" "value" "[B" (.ref b1)) (V_b1 : Arv Z h0 b1 k1 .byte (1 : Int32) [(.int (98 : Int32))] (.int (0 : Int32))) (F_coder_a4 : Fld Z h0 a4 "java/lang/String" "coder" "B" (.int (0 : Int32))) (ne_a3_a4 : a3 ≠ a4) (O_ : Old Z n0 h0) (S_cs : Sta Z Z.heap "java/lang/String" "COMPACT_STRINGS" "Z" (.int cs)) (hcs : ¬ cs = (0 : Int32)) (E_a0 : Exa Z h0 a0 "com/example/eraztun/eraztun/Ring$Stretch") (ge_a0 : n0 ≤ a0) (F_start_a0 : Fld Z h0 a0 "com/example/eraztun/eraztun/Ring$Stretch" "start" "J" (.long (0 : Int64))) (F_end_a0 : Fld Z h0 a0 "com/example/eraztun/eraztun/Ring$Stretch" "end" "J" (.long (0 : Int64))) (F_from_a0 : Fld Z h0 a0 "com/example/eraztun/eraztun/Ring$Stretch" "from" "Ljava/lang/String;" .null) (F_to_a0 : Fld Z h0 a0 "com/example/eraztun/eraztun/Ring$Stretch" "to" "Ljava/lang/String;" .null) :
    MetFree l (⟨"com/example/eraztun/eraztun/Ring$Stretch", "<init>", "(JJLjava/lang/String;Ljava/lang/String;)V"⟩ : MethodName) (head1 (Jvm.Cond.code (⟨"com/example/eraztun/eraztun/Ring$Stretch", "<init>", "(JJLjava/lang/String;Ljava/lang/String;)V"⟩ : MethodName) prog_12_method_1_code 7 none :: ws) ({ frames := 3, cells := 4, slots := 176, locals := 41 } : Room)) (fun a U => a = #[(.ref a0), (.long q1), (.long q2), (.ref a3), (.ref a4)] ∧ Z.Warmed39 U.vm ∧ U.heap = h0) (fun _ _ _ _ _ => True) (fun _ U o U' => ∃ v L, o = .returned v ∧ Q1 Z a0 q1 q2 a3 a4 b0 b1 k0 k1 cs h0 n0 v U'.heap L ∧ ReturnedEndW U o U' L ({ frames := 3, cells := 4, slots := 176, locals := 41 } : Room).cells ({ frames := 3, cells := 4, slots := 176, locals := 41 } : Room).slots) := by
  refine MetFree.of_bodySF (plainFor_of_name pn_1) hisR ?_
  intro p e s m args below meth c s₁ Bd hml0 hP hK
  obtain ⟨rfl, hZ, hh⟩ := hP
  have hx := Bd.exec
  have hby := Bd.bytes
  have hml : c.maxLocals = 7 := hml0
  have hown : s.vm.findClass "com/example/eraztun/eraztun/Ring$Stretch" = some m.cls := findClass_of_methodNamed Bd.named
  have hnm := (name_of_methodNamed Bd.named Bd.method).1
  have X0 : Stand p l e ({ frames := 3, cells := 4, slots := 176, locals := 41 } : Room) s m #[(.ref a0), (.long q1), (.long q2), (.ref a3), (.ref a4)] below meth c s₁ [] 0 0 := Stand.of_body Bd
  have e0 : s₁.heap = h0 := by rw [← hh, Bd.state]; rfl
  have N0 := Fr.nil n0
  have pre0 : ∀ t, Steps p.tables e below (s₁.setTop (mkF m 0 #[.val (.ref a0), .val (.long q1), .second, .val (.long q2), .second, .val (.ref a3), .val (.ref a4)] [])) t → Steps p.tables e below (s₁.setTop (entryFrame m #[(.ref a0), (.long q1), (.long q2), (.ref a3), (.ref a4)] 7)) t := fun t k => castTop (ef_1 m a0 q1 q2 a3 a4) k
  have X0 : Stand p l e ({ frames := 3, cells := 4, slots := 176, locals := 41 } : Room) (s.setVm s.vm) m #[(.ref a0), (.long q1), (.long q2), (.ref a3), (.ref a4)] below meth c s₁ [] 0 0 := X0
  have hS : s.Since s.vm 0 := (State.WarmedH.refl s).since 0
  have hkS : 0 ≤ h0.size := Nat.zero_le _
  have hwS : ∀ d ∈ Bundle.stringAtoms, d.before ag Z = true := fun d hd => hw d ((by decide +kernel : ∀ d ∈ Bundle.stringAtoms, d ∈ tables_1) d hd)
  obtain ⟨_, _, ⟨T73, L73, k73, n73⟩, -, X73, ⟨Lc73, hQ73, l73, y73, z73⟩, st73⟩ := X0.specialBack hx (y := (⟨"java/lang/Record", "<init>", "()V"⟩ : MethodName)) rfl hown (mvT hZ (hw _ (List.mem_of_getElem? (i := 15) rfl))) (mvT hZ (hw _ (List.mem_of_getElem? (i := 16) rfl))) (mvT hZ (hw _ (List.mem_of_getElem? (i := 19) rfl))) (by decide) (backOf (W := 0) (rm2 l Z ag hw [] a0  h0 n0 Z0 ) hZ (hw _ (List.mem_of_getElem? (i := 19) rfl)) (hw _ (List.mem_of_getElem? (i := 18) rfl)) (by decide) (by decide)) (g := (mkF m 1 (own_loc2 a0 q1 q2 a3 a4) [(.ref a0)])) rfl (by rw [hml]; rfl) (Steps.refl _) (a := a0) (argsL := []) (rest := []) (lenOf pd_0 rfl) rfl (by show 2 * 0 + _ ≤ _; exact Nat.le_of_eq rfl) (hb hby d1_1) (fun _ _ => ⟨rfl, e0, (by decide : 0 + 0 ≤ _), (by decide : 0 + 0 ≤ _)⟩)
  dsimp only [Pt.U, Pt.locs, Pt.cells, Pt.slots] at X73 l73 y73 z73 st73 hQ73
  subst l73 y73 z73
  obtain ⟨rfl, N73q, e73⟩ := hQ73
  have N73 := Fr.app N0 N73q
  obtain ⟨_, _, ⟨T74, L74, k74, n74⟩, -, X74, hS2_74, hg2_74, ⟨Lc74, hQ74, l74, y74, z74⟩, st74⟩ := callSS X73 hx (y := (⟨"com/example/eraztun/eraztun/MemberNames", "checkHandedOver", "(Ljava/lang/String;Ljava/lang/String;)V"⟩ : MethodName)) hown (mvT hZ (hw _ (List.mem_of_getElem? (i := 23) rfl))) (mvT hZ (hw _ (List.mem_of_getElem? (i := 24) rfl))) (mvT hZ (hw _ (List.mem_of_getElem? (i := 25) rfl))) (mvT hZ (hw _ (List.mem_of_getElem? (i := 26) rfl))) (by decide) (backOfS (W := 0) (rm4 l Z ag hw [] a3 a4 b0 b1 k0 k1 cs h0 n0 Z0 E_a3 F_value_a3 V_b0 F_coder_a3 E_a4 F_value_a4 V_b1 F_coder_a4 ne_a3_a4 O_ S_cs hcs) hZ (hw _ (List.mem_of_getElem? (i := 26) rfl)) (hw _ (List.mem_of_getElem? (i := 25) rfl)) (by decide) (by decide)) (g := (mkF m 8 (own_loc2 a0 q1 q2 a3 a4) [(.ref a4), (.ref a3)])) rfl (by rw [hml]; rfl) (argsL := [(.ref a3), (.ref a4)]) (rest := []) (lenOf pd_9 rfl) rfl (by show 2 * 0 + _ ≤ _; exact Nat.le_of_eq rfl) (hb hby d1_8) (fun _ _ => ⟨rfl, e73, (by decide : 0 + 4 ≤ _), (by decide : 0 + 176 ≤ _)⟩)
  dsimp only [Pt.U, Pt.locs, Pt.cells, Pt.slots] at X74 l74 y74 z74 st74 hQ74 hS2_74 hg2_74
  subst l74 y74 z74
  obtain ⟨X74, hS, hZ, hown⟩ := rebS hS (by rw [e73]; exact hkS) X74 hS2_74 hg2_74 hZ hown
  obtain ⟨rfl, N74q, K74⟩ := hQ74
  have N74 := Fr.app N73 N74q
  have x75 := E_a3.keep K74
  have x76 := F_value_a3.keep K74 nin0
  have x77 := V_b0.keep K74 nin0
  have x78 := F_coder_a3.keep K74 nin0
  have x79 := E_a4.keep K74
  have x80 := F_value_a4.keep K74 nin0
  have x81 := V_b1.keep K74 nin0
  have x82 := F_coder_a4.keep K74 nin0
  have x83 := O_.keep K74 all0
  have x84 := E_a0.keep K74
  have x85 := F_start_a0.keep K74 nin0
  have x86 := F_end_a0.keep K74 nin0
  have x87 := F_from_a0.keep K74 nin0
  have x88 := F_to_a0.keep K74 nin0
  have sz89 : n0 ≤ T74.heap.size := Nat.le_trans Z0 K74.1
  have hkS := Nat.le_trans hkS K74.1
  have kp90 : Keep h0 T74.heap [a0] := (Keep.refl h0 [a0]).trans K74 all0
  have hkS : T74.heap.size ≤ T74.heap.size := Nat.le_refl _
  obtain ⟨T91, h91, X91, e91, W91, st91⟩ := putF X74 hx hZ hown (host := "") (Or.inl (hw _ (List.mem_of_getElem? (i := 54) rfl))) Via.refl rfl x85 x84 (Or.inr ⟨(hw _ (List.mem_of_getElem? (i := 55) rfl)), rfl, hnm⟩) (hw _ (List.mem_of_getElem? (i := 1) rfl)) (ty := .long) (by decide) rfl rfl (g := (mkF m 13 (own_loc2 a0 q1 q2 a3 a4) [(.long q1), (.ref a0)])) rfl rfl (hb hby d1_13)
  have Fw91 := x85.same W91
  have x92 := x83.wr W91 ge_a0
  have x93 := x84.wr W91
  have x94 := x86.other W91 (Or.inr (slot_ne (Or.inr (hw _ (List.mem_of_getElem? (i := 57) rfl))) (Or.inr (hw _ (List.mem_of_getElem? (i := 55) rfl))) (by decide) (t := .long) (t' := .long) (by decide) (by decide)))
  have x95 := x87.other W91 (Or.inr (slot_ne (Or.inr (hw _ (List.mem_of_getElem? (i := 59) rfl))) (Or.inr (hw _ (List.mem_of_getElem? (i := 55) rfl))) (by decide) (t := (.object "java/lang/String")) (t' := .long) (by decide) (by decide)))
  have x96 := x88.other W91 (Or.inr (slot_ne (Or.inr (hw _ (List.mem_of_getElem? (i := 61) rfl))) (Or.inr (hw _ (List.mem_of_getElem? (i := 55) rfl))) (by decide) (t := (.object "java/lang/String")) (t' := .long) (by decide) (by decide)))
  have sz97 : n0 ≤ h91.size := Nat.le_trans sz89 (Keep.of_wr W91).1
  have hkS := Nat.le_trans hkS (Keep.of_wr W91).1
  have kp98 : Keep h0 h91 [a0] := kp90.wr W91 (Or.inl (List.mem_of_getElem? (i := 0) rfl))
  have N91 := Fr.snoc X91 N74 ge_a0
  obtain ⟨T99, h99, X99, e99, W99, st99⟩ := putF X91 hx hZ hown (host := "") (Or.inl (hw _ (List.mem_of_getElem? (i := 56) rfl))) Via.refl e91 x94 x93 (Or.inr ⟨(hw _ (List.mem_of_getElem? (i := 57) rfl)), rfl, hnm⟩) (hw _ (List.mem_of_getElem? (i := 1) rfl)) (ty := .long) (by decide) rfl rfl (g := (mkF m 18 (own_loc2 a0 q1 q2 a3 a4) [(.long q2), (.ref a0)])) rfl rfl (hb hby d1_18)
  have Fw99 := x94.same W99
  have x100 := x92.wr W99 ge_a0
  have x101 := x93.wr W99
  have x102 := x95.other W99 (Or.inr (slot_ne (Or.inr (hw _ (List.mem_of_getElem? (i := 59) rfl))) (Or.inr (hw _ (List.mem_of_getElem? (i := 57) rfl))) (by decide) (t := (.object "java/lang/String")) (t' := .long) (by decide) (by decide)))
  have x103 := x96.other W99 (Or.inr (slot_ne (Or.inr (hw _ (List.mem_of_getElem? (i := 61) rfl))) (Or.inr (hw _ (List.mem_of_getElem? (i := 57) rfl))) (by decide) (t := (.object "java/lang/String")) (t' := .long) (by decide) (by decide)))
  have x104 := Fw91.other W99 (Or.inr (slot_ne (Or.inr (hw _ (List.mem_of_getElem? (i := 55) rfl))) (Or.inr (hw _ (List.mem_of_getElem? (i := 57) rfl))) (by decide) (t := .long) (t' := .long) (by decide) (by decide)))
  have sz105 : n0 ≤ h99.size := Nat.le_trans sz97 (Keep.of_wr W99).1
  have hkS := Nat.le_trans hkS (Keep.of_wr W99).1
  have kp106 : Keep h0 h99 [a0] := kp98.wr W99 (Or.inl (List.mem_of_getElem? (i := 0) rfl))
  have N99 := Fr.snoc X99 N91 ge_a0
  obtain ⟨T107, h107, X107, e107, W107, st107⟩ := putF X99 hx hZ hown (host := "") (Or.inl (hw _ (List.mem_of_getElem? (i := 58) rfl))) Via.refl e99 x102 x101 (Or.inr ⟨(hw _ (List.mem_of_getElem? (i := 59) rfl)), rfl, hnm⟩) (hw _ (List.mem_of_getElem? (i := 1) rfl)) (ty := (.object "java/lang/String")) (by decide) rfl rfl (g := (mkF m 24 (own_loc2 a0 q1 q2 a3 a4) [(.ref a3), (.ref a0)])) rfl rfl (hb hby d1_24)
  have Fw107 := x102.same W107
  have x108 := x100.wr W107 ge_a0
  have x109 := x101.wr W107
  have x110 := x103.other W107 (Or.inr (slot_ne (Or.inr (hw _ (List.mem_of_getElem? (i := 61) rfl))) (Or.inr (hw _ (List.mem_of_getElem? (i := 59) rfl))) (by decide) (t := (.object "java/lang/String")) (t' := (.object "java/lang/String")) (by decide) (by decide)))
  have x111 := x104.other W107 (Or.inr (slot_ne (Or.inr (hw _ (List.mem_of_getElem? (i := 55) rfl))) (Or.inr (hw _ (List.mem_of_getElem? (i := 59) rfl))) (by decide) (t := .long) (t' := (.object "java/lang/String")) (by decide) (by decide)))
  have x112 := Fw99.other W107 (Or.inr (slot_ne (Or.inr (hw _ (List.mem_of_getElem? (i := 57) rfl))) (Or.inr (hw _ (List.mem_of_getElem? (i := 59) rfl))) (by decide) (t := .long) (t' := (.object "java/lang/String")) (by decide) (by decide)))
  have sz113 : n0 ≤ h107.size := Nat.le_trans sz105 (Keep.of_wr W107).1
  have hkS := Nat.le_trans hkS (Keep.of_wr W107).1
  have kp114 : Keep h0 h107 [a0] := kp106.wr W107 (Or.inl (List.mem_of_getElem? (i := 0) rfl))
  have N107 := Fr.snoc X107 N99 ge_a0
  obtain ⟨T115, h115, X115, e115, W115, st115⟩ := putF X107 hx hZ hown (host := "") (Or.inl (hw _ (List.mem_of_getElem? (i := 60) rfl))) Via.refl e107 x110 x109 (Or.inr ⟨(hw _ (List.mem_of_getElem? (i := 61) rfl)), rfl, hnm⟩) (hw _ (List.mem_of_getElem? (i := 1) rfl)) (ty := (.object "java/lang/String")) (by decide) rfl rfl (g := (mkF m 30 (own_loc2 a0 q1 q2 a3 a4) [(.ref a4), (.ref a0)])) rfl rfl (hb hby d1_30)
  have Fw115 := x110.same W115
  have x116 := x108.wr W115 ge_a0
  have x117 := x109.wr W115
  have x118 := x111.other W115 (Or.inr (slot_ne (Or.inr (hw _ (List.mem_of_getElem? (i := 55) rfl))) (Or.inr (hw _ (List.mem_of_getElem? (i := 61) rfl))) (by decide) (t := .long) (t' := (.object "java/lang/String")) (by decide) (by decide)))
  have x119 := x112.other W115 (Or.inr (slot_ne (Or.inr (hw _ (List.mem_of_getElem? (i := 57) rfl))) (Or.inr (hw _ (List.mem_of_getElem? (i := 61) rfl))) (by decide) (t := .long) (t' := (.object "java/lang/String")) (by decide) (by decide)))
  have x120 := Fw107.other W115 (Or.inr (slot_ne (Or.inr (hw _ (List.mem_of_getElem? (i := 59) rfl))) (Or.inr (hw _ (List.mem_of_getElem? (i := 61) rfl))) (by decide) (t := (.object "java/lang/String")) (t' := (.object "java/lang/String")) (by decide) (by decide)))
  have sz121 : n0 ≤ h115.size := Nat.le_trans sz113 (Keep.of_wr W115).1
  have hkS := Nat.le_trans hkS (Keep.of_wr W115).1
  have kp122 : Keep h0 h115 [a0] := kp114.wr W115 (Or.inl (List.mem_of_getElem? (i := 0) rfl))
  have N115 := Fr.snoc X115 N107 ge_a0
  obtain ⟨fs, hr, hrun, hended, hEnd⟩ := X115.leaveW hS (by rw [e115]; exact hkS) (v := none) (fun _ => rfl)
  refine ⟨_, _, pre0 _ ?_, hrun, hended, _, _, rfl, ?_, hEnd.1, hEnd.2.1, hEnd.2.2.1, hEnd.2.2.2.mono (by decide) (by decide)⟩
  · show own_S p e below s₁ (mkF m 0 (own_loc2 a0 q1 q2 a3 a4) []) _
    refine XS.aloadN X0.here hx rfl (hb hby d1_0) rfl rfl ?_
    show own_S p e below s₁ (mkF m 1 (own_loc2 a0 q1 q2 a3 a4) [(.ref a0)]) _
    refine st73.trans ?_
    show own_S p e below T73 (mkF m 4 (own_loc2 a0 q1 q2 a3 a4) []) _
    refine XS.aload X73.here hx rfl (hb hby d1_4) rfl rfl ?_
    show own_S p e below T73 (mkF m 6 (own_loc2 a0 q1 q2 a3 a4) [(.ref a3)]) _
    refine XS.aload X73.here hx rfl (hb hby d1_6) rfl rfl ?_
    show own_S p e below T73 (mkF m 8 (own_loc2 a0 q1 q2 a3 a4) [(.ref a4), (.ref a3)]) _
    refine st74.trans ?_
    show own_S p e below T74 (mkF m 11 (own_loc2 a0 q1 q2 a3 a4) []) _
    refine XS.aloadN X74.here hx rfl (hb hby d1_11) rfl rfl ?_
    show own_S p e below T74 (mkF m 12 (own_loc2 a0 q1 q2 a3 a4) [(.ref a0)]) _
    refine XS.lloadN X74.here hx rfl (hb hby d1_12) rfl ?_
    show own_S p e below T74 (mkF m 13 (own_loc2 a0 q1 q2 a3 a4) [(.long q1), (.ref a0)]) _
    refine st91 _ ?_
    show own_S p e below T91 (mkF m 16 (own_loc2 a0 q1 q2 a3 a4) []) _
    refine XS.aloadN X91.here hx rfl (hb hby d1_16) rfl rfl ?_
    show own_S p e below T91 (mkF m 17 (own_loc2 a0 q1 q2 a3 a4) [(.ref a0)]) _
    refine XS.lloadN X91.here hx rfl (hb hby d1_17) rfl ?_
    show own_S p e below T91 (mkF m 18 (own_loc2 a0 q1 q2 a3 a4) [(.long q2), (.ref a0)]) _
    refine st99 _ ?_
    show own_S p e below T99 (mkF m 21 (own_loc2 a0 q1 q2 a3 a4) []) _
    refine XS.aloadN X99.here hx rfl (hb hby d1_21) rfl rfl ?_
    show own_S p e below T99 (mkF m 22 (own_loc2 a0 q1 q2 a3 a4) [(.ref a0)]) _
    refine XS.aload X99.here hx rfl (hb hby d1_22) rfl rfl ?_
    show own_S p e below T99 (mkF m 24 (own_loc2 a0 q1 q2 a3 a4) [(.ref a3), (.ref a0)]) _
    refine st107 _ ?_
    show own_S p e below T107 (mkF m 27 (own_loc2 a0 q1 q2 a3 a4) []) _
    refine XS.aloadN X107.here hx rfl (hb hby d1_27) rfl rfl ?_
    show own_S p e below T107 (mkF m 28 (own_loc2 a0 q1 q2 a3 a4) [(.ref a0)]) _
    refine XS.aload X107.here hx rfl (hb hby d1_28) rfl rfl ?_
    show own_S p e below T107 (mkF m 30 (own_loc2 a0 q1 q2 a3 a4) [(.ref a4), (.ref a0)]) _
    refine st115 _ ?_
    show own_S p e below T115 (mkF m 33 (own_loc2 a0 q1 q2 a3 a4) []) _
    exact X115.returnOut hx Bd.returns (hb hby d1_33) hr
  · show Q1 Z a0 q1 q2 a3 a4 b0 b1 k0 k1 cs h0 n0 _ T115.heap _
    rw [e115]
    exact ⟨rfl, N115, kp122, x117, x118, x119⟩
theorem own_arv_ne {Z : State} {h : Heap} {a b : Addr} {k k' : ClassId} (F : Arv Z h a k .byte (1 : Int32) [(.int (97 : Int32))] (.int (0 : Int32))) (G : Arv Z h b k' .byte (1 : Int32) [(.int (98 : Int32))] (.int (0 : Int32))) : a ≠ b := by
  rintro rfl
  obtain ⟨c, A, -, S, -, H, -⟩ := F
  obtain ⟨c', A', -, S', -, H', -⟩ := G
  cases A.1.symm.trans A'.1
  have q : 0 < c.slots.size := by rw [S]; decide
  have e := (H 0 q).symm.trans (H' 0 q)
  cases e
/-- a long as an unsigned number -/
def own_u (x : Int64) : Int := x.toInt % 18446744073709551616
theorem own_u_rng (x : Int64) : 0 ≤ own_u x ∧ own_u x < 18446744073709551616 := by unfold own_u; omega
theorem own_u_sub (x y : Int64) : own_u (x - y) = (own_u x - own_u y) % 18446744073709551616 := by
  have := c_lsub x y; unfold own_u; omega
theorem own_u_flip (x : Int64) : (x + (-9223372036854775808 : Int64)).toInt = own_u x - 9223372036854775808 := by
  have h := c_ladd x (-9223372036854775808); have r := rng64 (x + (-9223372036854775808)); have r' := rng64 x
  have e : (-9223372036854775808 : Int64).toInt = -9223372036854775808 := by decide
  unfold own_u; omega
theorem own_xor_top (X : Nat) (h : X < 2 ^ 64) : X ^^^ 2 ^ 63 = (X + 2 ^ 63) % 2 ^ 64 := by
  have d : X = 2 ^ 63 * (X / 2 ^ 63) + X % 2 ^ 63 := by omega
  have l : X % 2 ^ 63 < 2 ^ 63 := Nat.mod_lt _ (by decide)
  have t : X / 2 ^ 63 = 0 ∨ X / 2 ^ 63 = 1 := by omega
  have e : X ^^^ 2 ^ 63 = 2 ^ 63 * (X / 2 ^ 63 ^^^ 1) + X % 2 ^ 63 := by
    apply Nat.eq_of_testBit_eq; intro i
    conv => lhs; rw [d]
    rw [Nat.testBit_xor, Nat.testBit_two_pow_mul_add _ l, Nat.testBit_two_pow_mul_add _ l, Nat.testBit_two_pow]
    by_cases q : i < 63
    · simp [q, Nat.ne_of_gt q]
    · rw [if_neg q, if_neg q, Nat.testBit_xor]
      congr 1
      have : Nat.testBit 1 (i - 63) = decide (i - 63 = 0) := by
        rw [show (1 : Nat) = 2 ^ 0 from rfl, Nat.testBit_two_pow]; congr 1; exact propext ⟨Eq.symm, Eq.symm⟩
      rw [this]; congr 1; apply propext; constructor <;> intro <;> omega
  rw [e]
  rcases t with t | t <;> rw [t]
  · rw [show (0 ^^^ 1 : Nat) = 1 from rfl]; omega
  · rw [show (1 ^^^ 1 : Nat) = 0 from rfl]; omega
theorem own_xor_flip (x : Int64) : x ^^^ (-9223372036854775808 : Int64) = x + (-9223372036854775808 : Int64) := by
  apply Int64.toBitVec_inj.mp; apply BitVec.eq_of_toNat_eq
  have e : (-9223372036854775808 : Int64).toBitVec.toNat = 2 ^ 63 := by decide
  rw [Int64.toBitVec_xor, BitVec.toNat_xor, Int64.toBitVec_add, BitVec.toNat_add, e]
  exact own_xor_top _ x.toBitVec.isLt
theorem own_cu_lt (x y : Int64) : own_cu x y < 0 ↔ own_u x < own_u y := by
  unfold own_cu own_cmp
  have a := own_u_flip x; have b := own_u_flip y
  split
  · rename_i h; rw [Int64.lt_iff_toInt_lt] at h; constructor
    · intro; omega
    · intro; decide
  · rename_i h; rw [Int64.lt_iff_toInt_lt] at h
    split
    · constructor
      · intro q; exact absurd q (by decide)
      · intro; omega
    · constructor
      · intro q; exact absurd q (by decide)
      · intro; omega
theorem own_cu_gt (x y : Int64) : 0 < own_cu x y ↔ own_u y < own_u x := by
  unfold own_cu own_cmp
  have a := own_u_flip x; have b := own_u_flip y
  split
  · rename_i h; rw [Int64.lt_iff_toInt_lt] at h; constructor
    · intro q; exact absurd q (by decide)
    · intro; omega
  · rename_i h; rw [Int64.lt_iff_toInt_lt] at h
    split
    · rename_i k; rw [← Int64.toInt_inj] at k; constructor
      · intro q; exact absurd q (by decide)
      · intro; omega
    · rename_i k; rw [← Int64.toInt_inj] at k; constructor
      · intro; omega
      · intro; decide
theorem own_ul_eq (x y : Int64) : own_ul x y = 0 ↔ ¬ own_u x < own_u y := by
  unfold own_ul
  rw [own_xor_flip, own_xor_flip]
  have a := own_u_flip x; have b := own_u_flip y
  split
  · rename_i h; rw [Int64.lt_iff_toInt_lt] at h; constructor
    · intro q; exact absurd q (by decide)
    · intro; omega
  · rename_i h; rw [Int64.lt_iff_toInt_lt] at h; constructor
    · intro; omega
    · intro; rfl
theorem own_cont_eq (st en pt : Int64) : own_cont st en pt = if own_u st < own_u en then (if own_u st < own_u pt ∧ ¬ own_u en < own_u pt then 1 else 0) else (if own_u st < own_u pt ∨ ¬ own_u en < own_u pt then 1 else 0) := by
  unfold own_cont own_g11_46 own_g11_8 own_g11_25
  simp only [own_cu_lt, own_cu_gt]
  by_cases a : own_u st < own_u en <;> by_cases b : own_u st < own_u pt <;> by_cases c : own_u en < own_u pt <;> simp only [a, b, c, if_true, if_false, true_and, false_and, true_or, false_or, not_true, not_false_iff] <;> decide
theorem own_one_u : own_u 1 = 1 := by decide
theorem own_zero_u (x : Int64) : x = 0 ↔ own_u x = 0 := by
  have r := rng64 x; unfold own_u; rw [← Int64.toInt_inj, show (0 : Int64).toInt = 0 from rfl]; omega
theorem own_c1 (st en pt : Int64) (h : (en - st) = (0 : Int64)) : own_cont st en pt = (1 : Int32) := by
  rw [own_zero_u, own_u_sub] at h
  have a := own_u_rng st; have b := own_u_rng en; have c := own_u_rng pt
  rw [own_cont_eq, if_neg (by omega), if_pos (by omega)]
theorem own_c2 (st en pt : Int64) (h : ¬ ((en - st) = (0 : Int64))) (k : ¬ (own_ul ((pt - st) - (1 : Int64)) (en - st) = (0 : Int32))) : own_cont st en pt = (1 : Int32) := by
  rw [own_zero_u, own_u_sub] at h
  rw [own_ul_eq, own_u_sub, own_u_sub, own_u_sub, own_one_u] at k
  have a := own_u_rng st; have b := own_u_rng en; have c := own_u_rng pt
  rw [own_cont_eq]
  split
  · rw [if_pos (by omega)]
  · rw [if_pos (by omega)]
theorem own_c3 (st en pt : Int64) (h : ¬ ((en - st) = (0 : Int64))) (k : own_ul ((pt - st) - (1 : Int64)) (en - st) = (0 : Int32)) : own_cont st en pt = (0 : Int32) := by
  rw [own_zero_u, own_u_sub] at h
  rw [own_ul_eq, own_u_sub, own_u_sub, own_u_sub, own_one_u] at k
  have a := own_u_rng st; have b := own_u_rng en; have c := own_u_rng pt
  rw [own_cont_eq]
  split
  · rw [if_neg (by omega)]
  · rw [if_neg (by omega)]
theorem ef_0 (m : MethodId) (q0 : Int64) (q1 : Int64) (q2 : Int64) (p3 : Int32) : entryFrame m #[(.long q0), (.long q1), (.long q2), (.int p3)] maxLocals = mkF m 0 #[.val (.long q0), .second, .val (.long q1), .second, .val (.long q2), .second, .val (.int p3), .unset, .unset, .unset, .unset, .unset, .unset, .unset, .unset, .unset, .unset, .unset] [] := by first | (simp [entryFrame, mkF, argsToLocals, Value.category, maxLocals]; done) | rfl
abbrev own_loc3 (q0 : Int64) (q1 : Int64) (q2 : Int64) (p3 : Int32) : Array Slot := #[.val (.long q0), .second, .val (.long q1), .second, .val (.long q2), .second, .val (.int p3), .unset, .unset, .unset, .unset, .unset, .unset, .unset, .unset, .unset, .unset, .unset]
def own_end (q0 : Int64) (q1 : Int64) (p3 : Int32) : Int64 := (if ((own_ushr p3 (3 : Int32)) &&& (1 : Int32)) = (0 : Int32) then q1 else q0)
abbrev own_loc4 (q0 : Int64) (q1 : Int64) (q2 : Int64) (p3 : Int32) : Array Slot := #[.val (.long q0), .second, .val (.long q1), .second, .val (.long q2), .second, .val (.int p3), .val (.long (own_end q0 q1 p3)), .second, .unset, .unset, .unset, .unset, .unset, .unset, .unset, .unset, .unset]
abbrev own_loc5 (q0 : Int64) (q1 : Int64) (q2 : Int64) (p3 : Int32) : Array Slot := #[.val (.long q0), .second, .val (.long q1), .second, .val (.long q2), .second, .val (.int p3), .val (.long (own_end q0 q1 p3)), .second, .val (.int (p3 &&& (7 : Int32))), .unset, .unset, .unset, .unset, .unset, .unset, .unset, .unset]
abbrev own_loc6 (q0 : Int64) (q1 : Int64) (q2 : Int64) (p3 : Int32) : Array Slot := #[.val (.long q0), .second, .val (.long q1), .second, .val (.long q2), .second, .val (.int p3), .val (.long (own_end q0 q1 p3)), .second, .val (.int (p3 &&& (7 : Int32))), .val (.long q2), .second, .unset, .unset, .unset, .unset, .unset, .unset]
abbrev own_loc7 (q0 : Int64) (q1 : Int64) (q2 : Int64) (p3 : Int32) : Array Slot := #[.val (.long q0), .second, .val (.long q1), .second, .val (.long q2), .second, .val (.int p3), .val (.long (own_end q0 q1 p3)), .second, .val (.int (p3 &&& (7 : Int32))), .val (.long q0), .second, .unset, .unset, .unset, .unset, .unset, .unset]
abbrev own_loc8 (q0 : Int64) (q1 : Int64) (q2 : Int64) (p3 : Int32) : Array Slot := #[.val (.long q0), .second, .val (.long q1), .second, .val (.long q2), .second, .val (.int p3), .val (.long (own_end q0 q1 p3)), .second, .val (.int (p3 &&& (7 : Int32))), .val (.long (own_end q0 q1 p3)), .second, .unset, .unset, .unset, .unset, .unset, .unset]
abbrev own_loc9 (q0 : Int64) (q1 : Int64) (q2 : Int64) (p3 : Int32) : Array Slot := #[.val (.long q0), .second, .val (.long q1), .second, .val (.long q2), .second, .val (.int p3), .val (.long (own_end q0 q1 p3)), .second, .val (.int (p3 &&& (7 : Int32))), .val (.long (q0 + (1 : Int64))), .second, .unset, .unset, .unset, .unset, .unset, .unset]
abbrev own_loc10 (q0 : Int64) (q1 : Int64) (q2 : Int64) (p3 : Int32) : Array Slot := #[.val (.long q0), .second, .val (.long q1), .second, .val (.long q2), .second, .val (.int p3), .val (.long (own_end q0 q1 p3)), .second, .val (.int (p3 &&& (7 : Int32))), .val (.long ((own_end q0 q1 p3) + (1 : Int64))), .second, .unset, .unset, .unset, .unset, .unset, .unset]
abbrev own_loc11 (q0 : Int64) (q1 : Int64) (q2 : Int64) (p3 : Int32) : Array Slot := #[.val (.long q0), .second, .val (.long q1), .second, .val (.long q2), .second, .val (.int p3), .val (.long (own_end q0 q1 p3)), .second, .val (.int (p3 &&& (7 : Int32))), .val (.long (q0 - (1 : Int64))), .second, .unset, .unset, .unset, .unset, .unset, .unset]
abbrev own_loc12 (q0 : Int64) (q1 : Int64) (q2 : Int64) (p3 : Int32) : Array Slot := #[.val (.long q0), .second, .val (.long q1), .second, .val (.long q2), .second, .val (.int p3), .val (.long (own_end q0 q1 p3)), .second, .val (.int (p3 &&& (7 : Int32))), .val (.long ((own_end q0 q1 p3) - (1 : Int64))), .second, .unset, .unset, .unset, .unset, .unset, .unset]
def own_point (q0 : Int64) (q1 : Int64) (q2 : Int64) (p3 : Int32) : Int64 := (if (p3 &&& (7 : Int32)) = (1 : Int32) then q0 else (if (p3 &&& (7 : Int32)) = (2 : Int32) then (own_end q0 q1 p3) else (if (p3 &&& (7 : Int32)) = (3 : Int32) then (q0 + (1 : Int64)) else (if (p3 &&& (7 : Int32)) = (4 : Int32) then ((own_end q0 q1 p3) + (1 : Int64)) else (if (p3 &&& (7 : Int32)) = (5 : Int32) then (q0 - (1 : Int64)) else (if (p3 &&& (7 : Int32)) = (6 : Int32) then ((own_end q0 q1 p3) - (1 : Int64)) else q2))))))
abbrev own_loc13 (q0 : Int64) (q1 : Int64) (q2 : Int64) (p3 : Int32) : Array Slot := #[.val (.long q0), .second, .val (.long q1), .second, .val (.long q2), .second, .val (.int p3), .val (.long (own_end q0 q1 p3)), .second, .val (.int (p3 &&& (7 : Int32))), .val (.long (own_point q0 q1 q2 p3)), .second, .unset, .unset, .unset, .unset, .unset, .unset]
theorem pd_5 : parseMethodDescriptor "(JJLjava/lang/String;Ljava/lang/String;)V" = some ⟨[.long, .long, (.object "java/lang/String"), (.object "java/lang/String")], none⟩ := by decide +kernel
abbrev own_loc14 (q0 : Int64) (q1 : Int64) (q2 : Int64) (p3 : Int32) (b132 : Addr) : Array Slot := #[.val (.long q0), .second, .val (.long q1), .second, .val (.long q2), .second, .val (.int p3), .val (.long (own_end q0 q1 p3)), .second, .val (.int (p3 &&& (7 : Int32))), .val (.long (own_point q0 q1 q2 p3)), .second, .val (.ref b132), .unset, .unset, .unset, .unset, .unset]
abbrev own_loc15 (q0 : Int64) (q1 : Int64) (q2 : Int64) (p3 : Int32) (b132 : Addr) : Array Slot := #[.val (.long q0), .second, .val (.long q1), .second, .val (.long q2), .second, .val (.int p3), .val (.long (own_end q0 q1 p3)), .second, .val (.int (p3 &&& (7 : Int32))), .val (.long (own_point q0 q1 q2 p3)), .second, .val (.ref b132), .val (.long ((own_end q0 q1 p3) - q0)), .second, .unset, .unset, .unset]
abbrev own_loc16 (q0 : Int64) (q1 : Int64) (q2 : Int64) (p3 : Int32) (b132 : Addr) : Array Slot := #[.val (.long q0), .second, .val (.long q1), .second, .val (.long q2), .second, .val (.int p3), .val (.long (own_end q0 q1 p3)), .second, .val (.int (p3 &&& (7 : Int32))), .val (.long (own_point q0 q1 q2 p3)), .second, .val (.ref b132), .val (.long ((own_end q0 q1 p3) - q0)), .second, .val (.long ((own_point q0 q1 q2 p3) - q0)), .second, .unset]
abbrev own_loc17 (q0 : Int64) (q1 : Int64) (q2 : Int64) (p3 : Int32) (b132 : Addr) : Array Slot := #[.val (.long q0), .second, .val (.long q1), .second, .val (.long q2), .second, .val (.int p3), .val (.long (own_end q0 q1 p3)), .second, .val (.int (p3 &&& (7 : Int32))), .val (.long (own_point q0 q1 q2 p3)), .second, .val (.ref b132), .val (.long ((own_end q0 q1 p3) - q0)), .second, .val (.long ((own_point q0 q1 q2 p3) - q0)), .second, .val (.int 1)]
theorem pd_2 : parseMethodDescriptor "(J)Z" = some ⟨[.long], some .boolean⟩ := by decide +kernel
theorem pd_4 : parseMethodDescriptor "(JJ)Z" = some ⟨[.long, .long], some .boolean⟩ := by decide +kernel
abbrev own_loc18 (q0 : Int64) (q1 : Int64) (q2 : Int64) (p3 : Int32) (b132 : Addr) : Array Slot := #[.val (.long q0), .second, .val (.long q1), .second, .val (.long q2), .second, .val (.int p3), .val (.long (own_end q0 q1 p3)), .second, .val (.int (p3 &&& (7 : Int32))), .val (.long (own_point q0 q1 q2 p3)), .second, .val (.ref b132), .val (.long ((own_end q0 q1 p3) - q0)), .second, .val (.long ((own_point q0 q1 q2 p3) - q0)), .second, .val (.int 0)]
def Q0 (n0 : Nat) (v : Option Value) (h : Heap) (L : List Loc) : Prop := v = some (.int 1) ∧ Fr n0 L
set_option maxRecDepth 65536 in
set_option maxHeartbeats 40000000 in
theorem rm0 (l : Launch) (Z : State) (ag : Array Value) (hw : ∀ d ∈ tables_1, d.before ag Z = true) (ws : List Jvm.Cond) (q0 : Int64) (q1 : Int64) (q2 : Int64) (p3 : Int32) (cs : Int32) (h0 : Heap) (n0 : Nat) (Z0 : n0 ≤ h0.size) (O_ : Old Z n0 h0) (S_cs : Sta Z Z.heap "java/lang/String" "COMPACT_STRINGS" "Z" (.int cs)) (hcs : ¬ cs = (0 : Int32)) (hn0 : h0.size = n0) (hcw : Jvm.Lit.compactW.before ag Z = true) (hch_13_StretchContainsPinLaw : Jvm.Lit.constHeld Z "com/example/eraztun/eraztun/StretchContainsPinLaw" 13) (hch_15_StretchContainsPinLaw : Jvm.Lit.constHeld Z "com/example/eraztun/eraztun/StretchContainsPinLaw" 15) :
    MetFree l x (head1 (Jvm.Cond.code x code maxLocals ret :: ws) room_1) (fun a U => a = #[(.long q0), (.long q1), (.long q2), (.int p3)] ∧ Z.Warmed39 U.vm ∧ U.heap = h0 ∧ IB Z U.vm []) (fun _ _ _ _ _ => True) (fun _ U o U' => ∃ v L, o = .returned v ∧ Q0 n0 v U'.heap L ∧ ReturnedEndW U o U' L 9 196) := by
  refine MetFree.of_bodySF (plainFor_of_name pn_2) hisR ?_
  intro p e s m args below meth c s₁ Bd hml0 hP hK
  obtain ⟨rfl, hZ, hh, hI⟩ := hP
  have hx := Bd.exec
  have hby := Bd.bytes
  have hml : c.maxLocals = 18 := hml0
  have hown : s.vm.findClass "com/example/eraztun/eraztun/StretchContainsPinLaw" = some m.cls := findClass_of_methodNamed Bd.named
  have hnm := (name_of_methodNamed Bd.named Bd.method).1
  have X0 : Stand p l e room_1 s m #[(.long q0), (.long q1), (.long q2), (.int p3)] below meth c s₁ [] 0 0 := Stand.of_body Bd
  have e0 : s₁.heap = h0 := by rw [← hh, Bd.state]; rfl
  have N0 := Fr.nil n0
  have pre0 : ∀ t, Steps p.tables e below (s₁.setTop (mkF m 0 #[.val (.long q0), .second, .val (.long q1), .second, .val (.long q2), .second, .val (.int p3), .unset, .unset, .unset, .unset, .unset, .unset, .unset, .unset, .unset, .unset, .unset] [])) t → Steps p.tables e below (s₁.setTop (entryFrame m #[(.long q0), (.long q1), (.long q2), (.int p3)] maxLocals)) t := fun t k => castTop (ef_0 m q0 q1 q2 p3) k
  have X0 : Stand p l e room_1 (s.setVm s.vm) m #[(.long q0), (.long q1), (.long q2), (.int p3)] below meth c s₁ [] 0 0 := X0
  have hS : s.Since s.vm 0 := (State.WarmedH.refl s).since 0
  have hkS : 0 ≤ h0.size := Nat.zero_le _
  have hkeepS : ∀ (b : Addr) (cl : Cell), Z.heap[b]? = some cl → s.heap[b]? = some cl := fun b cl q => by rw [hh]; exact O_.2.2 b cl q
  have hwS : ∀ d ∈ Bundle.stringAtoms, d.before ag Z = true := fun d hd => hw d ((by decide +kernel : ∀ d ∈ Bundle.stringAtoms, d ∈ tables_1) d hd)
  have sg124 : ∀ target, Steps p.tables e below (s₁.setTop (mkF m 14 (own_loc3 q0 q1 q2 p3) [(.long (own_end q0 q1 p3))])) target → Steps p.tables e below (s₁.setTop (mkF m 0 (own_loc3 q0 q1 q2 p3) [])) target := by
    intro target kt
    show own_S p e below s₁ (mkF m 0 (own_loc3 q0 q1 q2 p3) []) _
    refine XS.iload X0.here hx rfl (hb hby at_0) rfl ?_
    show own_S p e below s₁ (mkF m 2 (own_loc3 q0 q1 q2 p3) [(.int p3)]) _
    refine XS.iconst X0.here hx rfl (hb hby at_2) ?_
    show own_S p e below s₁ (mkF m 3 (own_loc3 q0 q1 q2 p3) [.int 3, (.int p3)]) _
    refine XS.iushr X0.here hx rfl (hb hby at_3) rfl ?_
    show own_S p e below s₁ (mkF m 4 (own_loc3 q0 q1 q2 p3) [(.int (own_ushr p3 (3 : Int32)))]) _
    refine XS.iconst X0.here hx rfl (hb hby at_4) ?_
    show own_S p e below s₁ (mkF m 5 (own_loc3 q0 q1 q2 p3) [.int 1, (.int (own_ushr p3 (3 : Int32)))]) _
    refine XS.iand X0.here hx rfl (hb hby at_5) rfl ?_
    by_cases hc123 : ((own_ushr p3 (3 : Int32)) &&& (1 : Int32)) = (0 : Int32)
    · show own_S p e below s₁ (mkF m 6 (own_loc3 q0 q1 q2 p3) [(.int ((own_ushr p3 (3 : Int32)) &&& (1 : Int32)))]) _
      refine XS.ifYes X0.here hx rfl (pc0 := 6) (pc' := 13) rfl (hb hby at_6) rfl ((if0 _ _).trans (teq hc123).1) (by decide) (by decide) ?_
      show own_S p e below s₁ (mkF m 13 (own_loc3 q0 q1 q2 p3) []) _
      refine XS.lloadN X0.here hx rfl (hb hby at_13) rfl ?_
      show own_S p e below s₁ (mkF m 14 (own_loc3 q0 q1 q2 p3) [(.long q1)]) _
      have kt := own_cast (P := fun z => Steps p.tables e below (s₁.setTop (mkF m 14 (own_loc3 q0 q1 q2 p3) [(.long z)])) target) (show (own_end q0 q1 p3) = q1 from (by unfold own_end; rw [if_pos hc123])) kt
      exact kt
    · show own_S p e below s₁ (mkF m 6 (own_loc3 q0 q1 q2 p3) [(.int ((own_ushr p3 (3 : Int32)) &&& (1 : Int32)))]) _
      refine XS.ifNo X0.here hx rfl (hb hby at_6) rfl ((if0 _ _).trans (feq hc123).1) ?_
      show own_S p e below s₁ (mkF m 9 (own_loc3 q0 q1 q2 p3) []) _
      refine XS.lloadN X0.here hx rfl (hb hby at_9) rfl ?_
      show own_S p e below s₁ (mkF m 10 (own_loc3 q0 q1 q2 p3) [(.long q0)]) _
      refine XS.goto X0.here hx rfl (pc0 := 10) (pc' := 14) rfl (hb hby at_10) (by decide) (by decide) ?_
      show own_S p e below s₁ (mkF m 14 (own_loc3 q0 q1 q2 p3) [(.long q0)]) _
      have kt := own_cast (P := fun z => Steps p.tables e below (s₁.setTop (mkF m 14 (own_loc3 q0 q1 q2 p3) [(.long z)])) target) (show (own_end q0 q1 p3) = q0 from (by unfold own_end; rw [if_neg hc123])) kt
      exact kt
  have sg131 : ∀ target, Steps p.tables e below (s₁.setTop (mkF m 108 (own_loc13 q0 q1 q2 p3) [])) target → Steps p.tables e below (s₁.setTop (mkF m 27 (own_loc6 q0 q1 q2 p3) [])) target := by
    intro target kt
    show own_S p e below s₁ (mkF m 27 (own_loc6 q0 q1 q2 p3) []) _
    refine XS.iload X0.here hx rfl (hb hby at_27) rfl ?_
    show own_S p e below s₁ (mkF m 29 (own_loc6 q0 q1 q2 p3) [(.int (p3 &&& (7 : Int32)))]) _
    refine XS.iconst X0.here hx rfl (hb hby at_29) ?_
    by_cases hc125 : (p3 &&& (7 : Int32)) = (1 : Int32)
    · show own_S p e below s₁ (mkF m 30 (own_loc6 q0 q1 q2 p3) [.int 1, (.int (p3 &&& (7 : Int32)))]) _
      refine XS.icmpNo X0.here hx rfl (hb hby at_30) rfl (teq hc125).2 ?_
      show own_S p e below s₁ (mkF m 33 (own_loc6 q0 q1 q2 p3) []) _
      refine XS.lloadN X0.here hx rfl (hb hby at_33) rfl ?_
      show own_S p e below s₁ (mkF m 34 (own_loc6 q0 q1 q2 p3) [(.long q0)]) _
      refine XS.lstore X0.here hx rfl (hb hby at_34) rfl (l' := (own_loc7 q0 q1 q2 p3)) rfl ?_
      show own_S p e below s₁ (mkF m 36 (own_loc7 q0 q1 q2 p3) []) _
      refine XS.goto X0.here hx rfl (pc0 := 36) (pc' := 108) rfl (hb hby at_36) (by decide) (by decide) ?_
      show own_S p e below s₁ (mkF m 108 (own_loc7 q0 q1 q2 p3) []) _
      have kt := own_cast (P := fun z => Steps p.tables e below (s₁.setTop (mkF m 108 #[.val (.long q0), .second, .val (.long q1), .second, .val (.long q2), .second, .val (.int p3), .val (.long (own_end q0 q1 p3)), .second, .val (.int (p3 &&& (7 : Int32))), .val (.long z), .second, .unset, .unset, .unset, .unset, .unset, .unset] [])) target) (show (own_point q0 q1 q2 p3) = q0 from (by unfold own_point; rw [if_pos hc125])) kt
      exact kt
    · show own_S p e below s₁ (mkF m 30 (own_loc6 q0 q1 q2 p3) [.int 1, (.int (p3 &&& (7 : Int32)))]) _
      refine XS.icmpYes X0.here hx rfl (pc0 := 30) (pc' := 39) rfl (hb hby at_30) rfl (feq hc125).2 (by decide) (by decide) ?_
      show own_S p e below s₁ (mkF m 39 (own_loc6 q0 q1 q2 p3) []) _
      refine XS.iload X0.here hx rfl (hb hby at_39) rfl ?_
      show own_S p e below s₁ (mkF m 41 (own_loc6 q0 q1 q2 p3) [(.int (p3 &&& (7 : Int32)))]) _
      refine XS.iconst X0.here hx rfl (hb hby at_41) ?_
      by_cases hc126 : (p3 &&& (7 : Int32)) = (2 : Int32)
      · show own_S p e below s₁ (mkF m 42 (own_loc6 q0 q1 q2 p3) [.int 2, (.int (p3 &&& (7 : Int32)))]) _
        refine XS.icmpNo X0.here hx rfl (hb hby at_42) rfl (teq hc126).2 ?_
        show own_S p e below s₁ (mkF m 45 (own_loc6 q0 q1 q2 p3) []) _
        refine XS.lload X0.here hx rfl (hb hby at_45) rfl ?_
        show own_S p e below s₁ (mkF m 47 (own_loc6 q0 q1 q2 p3) [(.long (own_end q0 q1 p3))]) _
        refine XS.lstore X0.here hx rfl (hb hby at_47) rfl (l' := (own_loc8 q0 q1 q2 p3)) rfl ?_
        show own_S p e below s₁ (mkF m 49 (own_loc8 q0 q1 q2 p3) []) _
        refine XS.goto X0.here hx rfl (pc0 := 49) (pc' := 108) rfl (hb hby at_49) (by decide) (by decide) ?_
        show own_S p e below s₁ (mkF m 108 (own_loc8 q0 q1 q2 p3) []) _
        have kt := own_cast (P := fun z => Steps p.tables e below (s₁.setTop (mkF m 108 #[.val (.long q0), .second, .val (.long q1), .second, .val (.long q2), .second, .val (.int p3), .val (.long (own_end q0 q1 p3)), .second, .val (.int (p3 &&& (7 : Int32))), .val (.long z), .second, .unset, .unset, .unset, .unset, .unset, .unset] [])) target) (show (own_point q0 q1 q2 p3) = (own_end q0 q1 p3) from (by unfold own_point; rw [if_neg hc125, if_pos hc126])) kt
        exact kt
      · show own_S p e below s₁ (mkF m 42 (own_loc6 q0 q1 q2 p3) [.int 2, (.int (p3 &&& (7 : Int32)))]) _
        refine XS.icmpYes X0.here hx rfl (pc0 := 42) (pc' := 52) rfl (hb hby at_42) rfl (feq hc126).2 (by decide) (by decide) ?_
        show own_S p e below s₁ (mkF m 52 (own_loc6 q0 q1 q2 p3) []) _
        refine XS.iload X0.here hx rfl (hb hby at_52) rfl ?_
        show own_S p e below s₁ (mkF m 54 (own_loc6 q0 q1 q2 p3) [(.int (p3 &&& (7 : Int32)))]) _
        refine XS.iconst X0.here hx rfl (hb hby at_54) ?_
        by_cases hc127 : (p3 &&& (7 : Int32)) = (3 : Int32)
        · show own_S p e below s₁ (mkF m 55 (own_loc6 q0 q1 q2 p3) [.int 3, (.int (p3 &&& (7 : Int32)))]) _
          refine XS.icmpNo X0.here hx rfl (hb hby at_55) rfl (teq hc127).2 ?_
          show own_S p e below s₁ (mkF m 58 (own_loc6 q0 q1 q2 p3) []) _
          refine XS.lloadN X0.here hx rfl (hb hby at_58) rfl ?_
          show own_S p e below s₁ (mkF m 59 (own_loc6 q0 q1 q2 p3) [(.long q0)]) _
          refine XS.lconst X0.here hx rfl (hb hby at_59) ?_
          show own_S p e below s₁ (mkF m 60 (own_loc6 q0 q1 q2 p3) [.long 1, (.long q0)]) _
          refine XS.ladd X0.here hx rfl (hb hby at_60) rfl ?_
          show own_S p e below s₁ (mkF m 61 (own_loc6 q0 q1 q2 p3) [(.long (q0 + (1 : Int64)))]) _
          refine XS.lstore X0.here hx rfl (hb hby at_61) rfl (l' := (own_loc9 q0 q1 q2 p3)) rfl ?_
          show own_S p e below s₁ (mkF m 63 (own_loc9 q0 q1 q2 p3) []) _
          refine XS.goto X0.here hx rfl (pc0 := 63) (pc' := 108) rfl (hb hby at_63) (by decide) (by decide) ?_
          show own_S p e below s₁ (mkF m 108 (own_loc9 q0 q1 q2 p3) []) _
          have kt := own_cast (P := fun z => Steps p.tables e below (s₁.setTop (mkF m 108 #[.val (.long q0), .second, .val (.long q1), .second, .val (.long q2), .second, .val (.int p3), .val (.long (own_end q0 q1 p3)), .second, .val (.int (p3 &&& (7 : Int32))), .val (.long z), .second, .unset, .unset, .unset, .unset, .unset, .unset] [])) target) (show (own_point q0 q1 q2 p3) = (q0 + (1 : Int64)) from (by unfold own_point; rw [if_neg hc125, if_neg hc126, if_pos hc127])) kt
          exact kt
        · show own_S p e below s₁ (mkF m 55 (own_loc6 q0 q1 q2 p3) [.int 3, (.int (p3 &&& (7 : Int32)))]) _
          refine XS.icmpYes X0.here hx rfl (pc0 := 55) (pc' := 66) rfl (hb hby at_55) rfl (feq hc127).2 (by decide) (by decide) ?_
          show own_S p e below s₁ (mkF m 66 (own_loc6 q0 q1 q2 p3) []) _
          refine XS.iload X0.here hx rfl (hb hby at_66) rfl ?_
          show own_S p e below s₁ (mkF m 68 (own_loc6 q0 q1 q2 p3) [(.int (p3 &&& (7 : Int32)))]) _
          refine XS.iconst X0.here hx rfl (hb hby at_68) ?_
          by_cases hc128 : (p3 &&& (7 : Int32)) = (4 : Int32)
          · show own_S p e below s₁ (mkF m 69 (own_loc6 q0 q1 q2 p3) [.int 4, (.int (p3 &&& (7 : Int32)))]) _
            refine XS.icmpNo X0.here hx rfl (hb hby at_69) rfl (teq hc128).2 ?_
            show own_S p e below s₁ (mkF m 72 (own_loc6 q0 q1 q2 p3) []) _
            refine XS.lload X0.here hx rfl (hb hby at_72) rfl ?_
            show own_S p e below s₁ (mkF m 74 (own_loc6 q0 q1 q2 p3) [(.long (own_end q0 q1 p3))]) _
            refine XS.lconst X0.here hx rfl (hb hby at_74) ?_
            show own_S p e below s₁ (mkF m 75 (own_loc6 q0 q1 q2 p3) [.long 1, (.long (own_end q0 q1 p3))]) _
            refine XS.ladd X0.here hx rfl (hb hby at_75) rfl ?_
            show own_S p e below s₁ (mkF m 76 (own_loc6 q0 q1 q2 p3) [(.long ((own_end q0 q1 p3) + (1 : Int64)))]) _
            refine XS.lstore X0.here hx rfl (hb hby at_76) rfl (l' := (own_loc10 q0 q1 q2 p3)) rfl ?_
            show own_S p e below s₁ (mkF m 78 (own_loc10 q0 q1 q2 p3) []) _
            refine XS.goto X0.here hx rfl (pc0 := 78) (pc' := 108) rfl (hb hby at_78) (by decide) (by decide) ?_
            show own_S p e below s₁ (mkF m 108 (own_loc10 q0 q1 q2 p3) []) _
            have kt := own_cast (P := fun z => Steps p.tables e below (s₁.setTop (mkF m 108 #[.val (.long q0), .second, .val (.long q1), .second, .val (.long q2), .second, .val (.int p3), .val (.long (own_end q0 q1 p3)), .second, .val (.int (p3 &&& (7 : Int32))), .val (.long z), .second, .unset, .unset, .unset, .unset, .unset, .unset] [])) target) (show (own_point q0 q1 q2 p3) = ((own_end q0 q1 p3) + (1 : Int64)) from (by unfold own_point; rw [if_neg hc125, if_neg hc126, if_neg hc127, if_pos hc128])) kt
            exact kt
          · show own_S p e below s₁ (mkF m 69 (own_loc6 q0 q1 q2 p3) [.int 4, (.int (p3 &&& (7 : Int32)))]) _
            refine XS.icmpYes X0.here hx rfl (pc0 := 69) (pc' := 81) rfl (hb hby at_69) rfl (feq hc128).2 (by decide) (by decide) ?_
            show own_S p e below s₁ (mkF m 81 (own_loc6 q0 q1 q2 p3) []) _
            refine XS.iload X0.here hx rfl (hb hby at_81) rfl ?_
            show own_S p e below s₁ (mkF m 83 (own_loc6 q0 q1 q2 p3) [(.int (p3 &&& (7 : Int32)))]) _
            refine XS.iconst X0.here hx rfl (hb hby at_83) ?_
            by_cases hc129 : (p3 &&& (7 : Int32)) = (5 : Int32)
            · show own_S p e below s₁ (mkF m 84 (own_loc6 q0 q1 q2 p3) [.int 5, (.int (p3 &&& (7 : Int32)))]) _
              refine XS.icmpNo X0.here hx rfl (hb hby at_84) rfl (teq hc129).2 ?_
              show own_S p e below s₁ (mkF m 87 (own_loc6 q0 q1 q2 p3) []) _
              refine XS.lloadN X0.here hx rfl (hb hby at_87) rfl ?_
              show own_S p e below s₁ (mkF m 88 (own_loc6 q0 q1 q2 p3) [(.long q0)]) _
              refine XS.lconst X0.here hx rfl (hb hby at_88) ?_
              show own_S p e below s₁ (mkF m 89 (own_loc6 q0 q1 q2 p3) [.long 1, (.long q0)]) _
              refine XS.lsub X0.here hx rfl (hb hby at_89) rfl ?_
              show own_S p e below s₁ (mkF m 90 (own_loc6 q0 q1 q2 p3) [(.long (q0 - (1 : Int64)))]) _
              refine XS.lstore X0.here hx rfl (hb hby at_90) rfl (l' := (own_loc11 q0 q1 q2 p3)) rfl ?_
              show own_S p e below s₁ (mkF m 92 (own_loc11 q0 q1 q2 p3) []) _
              refine XS.goto X0.here hx rfl (pc0 := 92) (pc' := 108) rfl (hb hby at_92) (by decide) (by decide) ?_
              show own_S p e below s₁ (mkF m 108 (own_loc11 q0 q1 q2 p3) []) _
              have kt := own_cast (P := fun z => Steps p.tables e below (s₁.setTop (mkF m 108 #[.val (.long q0), .second, .val (.long q1), .second, .val (.long q2), .second, .val (.int p3), .val (.long (own_end q0 q1 p3)), .second, .val (.int (p3 &&& (7 : Int32))), .val (.long z), .second, .unset, .unset, .unset, .unset, .unset, .unset] [])) target) (show (own_point q0 q1 q2 p3) = (q0 - (1 : Int64)) from (by unfold own_point; rw [if_neg hc125, if_neg hc126, if_neg hc127, if_neg hc128, if_pos hc129])) kt
              exact kt
            · show own_S p e below s₁ (mkF m 84 (own_loc6 q0 q1 q2 p3) [.int 5, (.int (p3 &&& (7 : Int32)))]) _
              refine XS.icmpYes X0.here hx rfl (pc0 := 84) (pc' := 95) rfl (hb hby at_84) rfl (feq hc129).2 (by decide) (by decide) ?_
              show own_S p e below s₁ (mkF m 95 (own_loc6 q0 q1 q2 p3) []) _
              refine XS.iload X0.here hx rfl (hb hby at_95) rfl ?_
              show own_S p e below s₁ (mkF m 97 (own_loc6 q0 q1 q2 p3) [(.int (p3 &&& (7 : Int32)))]) _
              refine XS.bipush X0.here hx rfl (hb hby at_97) ?_
              by_cases hc130 : (p3 &&& (7 : Int32)) = (6 : Int32)
              · show own_S p e below s₁ (mkF m 99 (own_loc6 q0 q1 q2 p3) [.int 6, (.int (p3 &&& (7 : Int32)))]) _
                refine XS.icmpNo X0.here hx rfl (hb hby at_99) rfl (teq hc130).2 ?_
                show own_S p e below s₁ (mkF m 102 (own_loc6 q0 q1 q2 p3) []) _
                refine XS.lload X0.here hx rfl (hb hby at_102) rfl ?_
                show own_S p e below s₁ (mkF m 104 (own_loc6 q0 q1 q2 p3) [(.long (own_end q0 q1 p3))]) _
                refine XS.lconst X0.here hx rfl (hb hby at_104) ?_
                show own_S p e below s₁ (mkF m 105 (own_loc6 q0 q1 q2 p3) [.long 1, (.long (own_end q0 q1 p3))]) _
                refine XS.lsub X0.here hx rfl (hb hby at_105) rfl ?_
                show own_S p e below s₁ (mkF m 106 (own_loc6 q0 q1 q2 p3) [(.long ((own_end q0 q1 p3) - (1 : Int64)))]) _
                refine XS.lstore X0.here hx rfl (hb hby at_106) rfl (l' := (own_loc12 q0 q1 q2 p3)) rfl ?_
                show own_S p e below s₁ (mkF m 108 (own_loc12 q0 q1 q2 p3) []) _
                have kt := own_cast (P := fun z => Steps p.tables e below (s₁.setTop (mkF m 108 #[.val (.long q0), .second, .val (.long q1), .second, .val (.long q2), .second, .val (.int p3), .val (.long (own_end q0 q1 p3)), .second, .val (.int (p3 &&& (7 : Int32))), .val (.long z), .second, .unset, .unset, .unset, .unset, .unset, .unset] [])) target) (show (own_point q0 q1 q2 p3) = ((own_end q0 q1 p3) - (1 : Int64)) from (by unfold own_point; rw [if_neg hc125, if_neg hc126, if_neg hc127, if_neg hc128, if_neg hc129, if_pos hc130])) kt
                exact kt
              · show own_S p e below s₁ (mkF m 99 (own_loc6 q0 q1 q2 p3) [.int 6, (.int (p3 &&& (7 : Int32)))]) _
                refine XS.icmpYes X0.here hx rfl (pc0 := 99) (pc' := 108) rfl (hb hby at_99) rfl (feq hc130).2 (by decide) (by decide) ?_
                show own_S p e below s₁ (mkF m 108 (own_loc6 q0 q1 q2 p3) []) _
                have kt := own_cast (P := fun z => Steps p.tables e below (s₁.setTop (mkF m 108 #[.val (.long q0), .second, .val (.long q1), .second, .val (.long q2), .second, .val (.int p3), .val (.long (own_end q0 q1 p3)), .second, .val (.int (p3 &&& (7 : Int32))), .val (.long z), .second, .unset, .unset, .unset, .unset, .unset, .unset] [])) target) (show (own_point q0 q1 q2 p3) = q2 from (by unfold own_point; rw [if_neg hc125, if_neg hc126, if_neg hc127, if_neg hc128, if_neg hc129, if_neg hc130])) kt
                exact kt
  obtain ⟨T132, h132, X132, e132, E132, A132, D132, -, st132⟩ := newO X0 hx hZ hown (hw _ (List.mem_of_getElem? (i := 0) rfl)) (hw _ (List.mem_of_getElem? (i := 1) rfl)) (hw _ (List.mem_of_getElem? (i := 2) rfl)) e0 (g := (mkF m 108 (own_loc13 q0 q1 q2 p3) [])) rfl (hb hby at_108) (by decide) (by decide)
  obtain ⟨b132, g132⟩ : ∃ z, z = h0.size := ⟨_, rfl⟩
  have ge_b132 : n0 ≤ b132 := Nat.le_trans Z0 (Nat.le_of_eq g132.symm)
  rw [← g132] at A132 D132 st132
  have x133 := O_.ext E132
  have sz134 : n0 ≤ h132.size := Nat.le_trans Z0 E132.1
  have hkS := Nat.le_trans hkS E132.1
  have F132_start : Fld Z h132 b132 "com/example/eraztun/eraztun/Ring$Stretch" "start" "J" (.long (0 : Int64)) := D132 (Or.inr (hw _ (List.mem_of_getElem? (i := 55) rfl))) (ty := .long) (by decide)
  have F132_end : Fld Z h132 b132 "com/example/eraztun/eraztun/Ring$Stretch" "end" "J" (.long (0 : Int64)) := D132 (Or.inr (hw _ (List.mem_of_getElem? (i := 57) rfl))) (ty := .long) (by decide)
  have F132_from : Fld Z h132 b132 "com/example/eraztun/eraztun/Ring$Stretch" "from" "Ljava/lang/String;" .null := D132 (Or.inr (hw _ (List.mem_of_getElem? (i := 59) rfl))) (ty := (.object "java/lang/String")) (by decide)
  have F132_to : Fld Z h132 b132 "com/example/eraztun/eraztun/Ring$Stretch" "to" "Ljava/lang/String;" .null := D132 (Or.inr (hw _ (List.mem_of_getElem? (i := 61) rfl))) (ty := (.object "java/lang/String")) (by decide)
  obtain ⟨sa135, T135, h135, kS135, sb135, kb135, X135, e135, E135, hS, hkS135, hZ, hown, Es135, Fc135, Fv135, Vs135, lta135, ltb135, hI, st135⟩ := ldcSV X132 hx hZ hown (hw _ (List.mem_of_getElem? (i := 3) rfl)) hwS e132 hS hkS (by rw [hh, hn0]; exact N0) hkeepS hI (by decide) hch_13_StretchContainsPinLaw hcw (vs := [(.int (97 : Int32))]) (z := (1 : Int32)) ⟨by decide, rfl⟩ (by decide) (by decide) (g := (mkF m 115 (own_loc13 q0 q1 q2 p3) [(.long (own_end q0 q1 p3)), (.long q0), (.ref b132), (.ref b132)])) rfl (hb hby at_115) (n := 4) (by decide) (by decide) (by decide) (by decide)
  have x136 := x133.ext E135
  have x137 := A132.ext E135
  have x138 := F132_start.ext E135
  have x139 := F132_end.ext E135
  have x140 := F132_from.ext E135
  have x141 := F132_to.ext E135
  have sz142 : n0 ≤ h135.size := Nat.le_trans sz134 E135.1
  have hkS := Nat.le_trans hkS E135.1
  have hkS := hkS135
  obtain ⟨sa143, T143, h143, kS143, sb143, kb143, X143, e143, E143, hS, hkS143, hZ, hown, Es143, Fc143, Fv143, Vs143, lta143, ltb143, hI, st143⟩ := ldcSV X135 hx hZ hown (hw _ (List.mem_of_getElem? (i := 11) rfl)) hwS e135 hS hkS (by rw [hh, hn0]; exact N0) hkeepS hI (by decide) hch_15_StretchContainsPinLaw hcw (vs := [(.int (98 : Int32))]) (z := (1 : Int32)) ⟨by decide, rfl⟩ (by decide) (by decide) (g := (mkF m 117 (own_loc13 q0 q1 q2 p3) [(.ref sa135), (.long (own_end q0 q1 p3)), (.long q0), (.ref b132), (.ref b132)])) rfl (hb hby at_117) (n := 4) (by decide) (by decide) (by decide) (by decide)
  have x144 := x136.ext E143
  have x145 := x137.ext E143
  have x146 := x138.ext E143
  have x147 := x139.ext E143
  have x148 := x140.ext E143
  have x149 := x141.ext E143
  have x150 := Es135.ext E143
  have x151 := Fc135.ext E143
  have x152 := Fv135.ext E143
  have x153 := Vs135.ext E143
  have sz154 : n0 ≤ h143.size := Nat.le_trans sz142 E143.1
  have hkS := Nat.le_trans hkS E143.1
  have hkS := hkS143
  have neab : sa135 ≠ sa143 := Fld.ne x152 Fv143 (fun q => own_arv_ne x153 Vs143 (Value.ref.inj q))
  have cp155 : ∀ target, own_S p e below T143 (mkF m 119 (own_loc13 q0 q1 q2 p3) [(.ref sa143), (.ref sa135), (.long (own_end q0 q1 p3)), (.long q0), (.ref b132), (.ref b132)]) target → own_S p e below s₁ (mkF m 0 (own_loc3 q0 q1 q2 p3) []) target := by
    intro target kt
    show own_S p e below s₁ (mkF m 0 (own_loc3 q0 q1 q2 p3) []) _
    refine sg124 _ ?_
    show own_S p e below s₁ (mkF m 14 (own_loc3 q0 q1 q2 p3) [(.long (own_end q0 q1 p3))]) _
    refine XS.lstore X0.here hx rfl (hb hby at_14) rfl (l' := (own_loc4 q0 q1 q2 p3)) rfl ?_
    show own_S p e below s₁ (mkF m 16 (own_loc4 q0 q1 q2 p3) []) _
    refine XS.iload X0.here hx rfl (hb hby at_16) rfl ?_
    show own_S p e below s₁ (mkF m 18 (own_loc4 q0 q1 q2 p3) [(.int p3)]) _
    refine XS.bipush X0.here hx rfl (hb hby at_18) ?_
    show own_S p e below s₁ (mkF m 20 (own_loc4 q0 q1 q2 p3) [.int 7, (.int p3)]) _
    refine XS.iand X0.here hx rfl (hb hby at_20) rfl ?_
    show own_S p e below s₁ (mkF m 21 (own_loc4 q0 q1 q2 p3) [(.int (p3 &&& (7 : Int32)))]) _
    refine XS.istore X0.here hx rfl (hb hby at_21) rfl (l' := (own_loc5 q0 q1 q2 p3)) rfl ?_
    show own_S p e below s₁ (mkF m 23 (own_loc5 q0 q1 q2 p3) []) _
    refine XS.lload X0.here hx rfl (hb hby at_23) rfl ?_
    show own_S p e below s₁ (mkF m 25 (own_loc5 q0 q1 q2 p3) [(.long q2)]) _
    refine XS.lstore X0.here hx rfl (hb hby at_25) rfl (l' := (own_loc6 q0 q1 q2 p3)) rfl ?_
    show own_S p e below s₁ (mkF m 27 (own_loc6 q0 q1 q2 p3) []) _
    refine sg131 _ ?_
    show own_S p e below s₁ (mkF m 108 (own_loc13 q0 q1 q2 p3) []) _
    refine st132 _ ?_
    show own_S p e below T132 (mkF m 111 (own_loc13 q0 q1 q2 p3) [(.ref b132)]) _
    refine XS.dup X132.here hx rfl (hb hby at_111) rfl rfl ?_
    show own_S p e below T132 (mkF m 112 (own_loc13 q0 q1 q2 p3) [(.ref b132), (.ref b132)]) _
    refine XS.lloadN X132.here hx rfl (hb hby at_112) rfl ?_
    show own_S p e below T132 (mkF m 113 (own_loc13 q0 q1 q2 p3) [(.long q0), (.ref b132), (.ref b132)]) _
    refine XS.lload X132.here hx rfl (hb hby at_113) rfl ?_
    show own_S p e below T132 (mkF m 115 (own_loc13 q0 q1 q2 p3) [(.long (own_end q0 q1 p3)), (.long q0), (.ref b132), (.ref b132)]) _
    refine st135 _ ?_
    show own_S p e below T135 (mkF m 117 (own_loc13 q0 q1 q2 p3) [(.ref sa135), (.long (own_end q0 q1 p3)), (.long q0), (.ref b132), (.ref b132)]) _
    refine st143 _ ?_
    exact kt
  obtain ⟨_, _, ⟨T156, L156, k156, n156⟩, -, X156, hS2_156, hg2_156, ⟨Lc156, hQ156, l156, y156, z156⟩, st156⟩ := X143.specialBackS hx (y := (⟨"com/example/eraztun/eraztun/Ring$Stretch", "<init>", "(JJLjava/lang/String;Ljava/lang/String;)V"⟩ : MethodName)) rfl hown (mvT hZ (hw _ (List.mem_of_getElem? (i := 12) rfl))) (mvT hZ (hw _ (List.mem_of_getElem? (i := 13) rfl))) (mvT hZ (hw _ (List.mem_of_getElem? (i := 14) rfl))) (by decide) (backOfS (W := 1) (rm1 l Z ag hw [] b132 q0 (own_end q0 q1 p3) sa135 sa143 sb135 sb143 kb135 kb143 cs h143 n0 sz154 x150 x152 x153 x151 Es143 Fv143 Vs143 Fc143 neab x144 S_cs hcs x145 ge_b132 x146 x147 x148 x149) hZ (hw _ (List.mem_of_getElem? (i := 14) rfl)) (hw _ (List.mem_of_getElem? (i := 2) rfl)) (by decide) (by decide)) (g := (mkF m 119 (own_loc13 q0 q1 q2 p3) [(.ref sa143), (.ref sa135), (.long (own_end q0 q1 p3)), (.long q0), (.ref b132), (.ref b132)])) rfl (by rw [hml]; rfl) (Steps.refl _) (a := b132) (argsL := [(.long q0), (.long (own_end q0 q1 p3)), (.ref sa135), (.ref sa143)]) (rest := [(.ref b132)]) (lenOf pd_5 rfl) rfl (by show 2 * 0 + _ ≤ _; exact Nat.le_of_eq rfl) (hb hby at_119) (fun _ _ => ⟨rfl, e143, (by decide : 5 + 4 ≤ _), (by decide : 20 + 176 ≤ _)⟩)
  dsimp only [Pt.U, Pt.locs, Pt.cells, Pt.slots] at X156 l156 y156 z156 st156 hQ156 hS2_156 hg2_156
  subst l156 y156 z156
  obtain ⟨X156, hS, hZ, hown⟩ := rebS hS (by rw [e143]; exact hkS) X156 hS2_156 hg2_156 hZ hown
  obtain ⟨rfl, N156q, K156, Ee156, F1156, F2156⟩ := hQ156
  have N156 := Fr.app N0 N156q
  have x157 := x144.keep K156 (allS ge_b132 all0)
  have x158 := x145.keep K156
  have sz159 : n0 ≤ T156.heap.size := Nat.le_trans sz154 K156.1
  have hkS := Nat.le_trans hkS K156.1
  have hkS : T156.heap.size ≤ T156.heap.size := Nat.le_refl _
  have cp161 : ∀ target, own_S p e below T156 (mkF m 140 (own_loc16 q0 q1 q2 p3 b132) [(.int (lcmpW ((own_end q0 q1 p3) - q0) (0 : Int64)))]) target → own_S p e below s₁ (mkF m 0 (own_loc3 q0 q1 q2 p3) []) target := by
    intro target kt
    show own_S p e below s₁ (mkF m 0 (own_loc3 q0 q1 q2 p3) []) _
    refine cp155 _ ?_
    show own_S p e below T143 (mkF m 119 (own_loc13 q0 q1 q2 p3) [(.ref sa143), (.ref sa135), (.long (own_end q0 q1 p3)), (.long q0), (.ref b132), (.ref b132)]) _
    refine st156.trans ?_
    show own_S p e below T156 (mkF m 122 (own_loc13 q0 q1 q2 p3) [(.ref b132)]) _
    refine XS.astore X156.here hx rfl (hb hby at_122) rfl rfl (l' := (own_loc14 q0 q1 q2 p3 b132)) rfl ?_
    show own_S p e below T156 (mkF m 124 (own_loc14 q0 q1 q2 p3 b132) []) _
    refine XS.lload X156.here hx rfl (hb hby at_124) rfl ?_
    show own_S p e below T156 (mkF m 126 (own_loc14 q0 q1 q2 p3 b132) [(.long (own_end q0 q1 p3))]) _
    refine XS.lloadN X156.here hx rfl (hb hby at_126) rfl ?_
    show own_S p e below T156 (mkF m 127 (own_loc14 q0 q1 q2 p3 b132) [(.long q0), (.long (own_end q0 q1 p3))]) _
    refine XS.lsub X156.here hx rfl (hb hby at_127) rfl ?_
    show own_S p e below T156 (mkF m 128 (own_loc14 q0 q1 q2 p3 b132) [(.long ((own_end q0 q1 p3) - q0))]) _
    refine XS.lstore X156.here hx rfl (hb hby at_128) rfl (l' := (own_loc15 q0 q1 q2 p3 b132)) rfl ?_
    show own_S p e below T156 (mkF m 130 (own_loc15 q0 q1 q2 p3 b132) []) _
    refine XS.lload X156.here hx rfl (hb hby at_130) rfl ?_
    show own_S p e below T156 (mkF m 132 (own_loc15 q0 q1 q2 p3 b132) [(.long (own_point q0 q1 q2 p3))]) _
    refine XS.lloadN X156.here hx rfl (hb hby at_132) rfl ?_
    show own_S p e below T156 (mkF m 133 (own_loc15 q0 q1 q2 p3 b132) [(.long q0), (.long (own_point q0 q1 q2 p3))]) _
    refine XS.lsub X156.here hx rfl (hb hby at_133) rfl ?_
    show own_S p e below T156 (mkF m 134 (own_loc15 q0 q1 q2 p3 b132) [(.long ((own_point q0 q1 q2 p3) - q0))]) _
    refine XS.lstore X156.here hx rfl (hb hby at_134) rfl (l' := (own_loc16 q0 q1 q2 p3 b132)) rfl ?_
    show own_S p e below T156 (mkF m 136 (own_loc16 q0 q1 q2 p3 b132) []) _
    refine XS.lload X156.here hx rfl (hb hby at_136) rfl ?_
    show own_S p e below T156 (mkF m 138 (own_loc16 q0 q1 q2 p3 b132) [(.long ((own_end q0 q1 p3) - q0))]) _
    refine XS.lconst X156.here hx rfl (hb hby at_138) ?_
    show own_S p e below T156 (mkF m 139 (own_loc16 q0 q1 q2 p3 b132) [.long 0, (.long ((own_end q0 q1 p3) - q0))]) _
    refine XS.lcmp X156.here hx rfl (hb hby at_139) rfl ?_
    exact kt
  by_cases hc160 : ((own_end q0 q1 p3) - q0) = (0 : Int64)
  · obtain ⟨cq162, kq162, q162a, q162b, q162c⟩ := isOf hZ rfl x158
    obtain ⟨_, _, ⟨T162, L162, k162, n162⟩, -, X162, ⟨Lc162, hQ162, l162, y162, z162⟩, st162⟩ := X156.virtualBack hx (y := (⟨"com/example/eraztun/eraztun/Ring$Stretch", "contains", "(J)Z"⟩ : MethodName)) (z := (⟨"com/example/eraztun/eraztun/Ring$Stretch", "contains", "(J)Z"⟩ : MethodName)) hown (mvT hZ (hw _ (List.mem_of_getElem? (i := 67) rfl))) (mvT hZ (hw _ (List.mem_of_getElem? (i := 68) rfl))) (notFace_of_selects (args := #[]) (mvT hZ (hw _ (List.mem_of_getElem? (i := 70) rfl)))) (mvT hZ (hw _ (List.mem_of_getElem? (i := 70) rfl))) (mvT hZ (hw _ (List.mem_of_getElem? (i := 69) rfl))) (by decide) (backOf (W := 0) (rm11 l Z ag hw [] b132 (own_point q0 q1 q2 p3) q0 (own_end q0 q1 p3) T156.heap n0 sz159 F1156 F2156) hZ (hw _ (List.mem_of_getElem? (i := 71) rfl)) (hw _ (List.mem_of_getElem? (i := 2) rfl)) (by decide) (by decide)) q162a q162c (g := (mkF m 166 (own_loc17 q0 q1 q2 p3 b132) [(.long (own_point q0 q1 q2 p3)), (.ref b132)])) rfl (by rw [hml]; rfl) (Steps.refl _) (argsL := [(.long (own_point q0 q1 q2 p3))]) (rest := []) (lenOf pd_2 rfl) rfl (by show 2 * 0 + _ ≤ _; exact Nat.le_of_eq rfl) (hb hby at_166) (fun _ _ => ⟨rfl, rfl, (by decide : 9 + 0 ≤ _), (by decide : 196 + 0 ≤ _)⟩)
    dsimp only [Pt.U, Pt.locs, Pt.cells, Pt.slots] at X162 l162 y162 z162 st162 hQ162
    subst l162 y162 z162
    obtain ⟨rfl, N162q, e162⟩ := hQ162
    have N162 := Fr.app N156 N162q
    obtain ⟨fs, hr, hrun, hended, hEnd⟩ := X162.leaveW hS (by rw [e162]; exact hkS) (v := some (.int (1 : Int32))) (fun h => by rw [Bd.returns] at h; cases h)
    refine ⟨_, _, pre0 _ ?_, hrun, hended, _, _, rfl, ?_, hEnd.1, hEnd.2.1, hEnd.2.2.1, hEnd.2.2.2.mono (by decide) (by decide)⟩
    · show own_S p e below s₁ (mkF m 0 (own_loc3 q0 q1 q2 p3) []) _
      refine cp161 _ ?_
      show own_S p e below T156 (mkF m 140 (own_loc16 q0 q1 q2 p3 b132) [(.int (lcmpW ((own_end q0 q1 p3) - q0) (0 : Int64)))]) _
      refine XS.ifYes X156.here hx rfl (pc0 := 140) (pc' := 155) rfl (hb hby at_140) rfl ((if0 _ _).trans (teq ((lw_eq ((own_end q0 q1 p3) - q0) (0 : Int64)).mpr hc160)).1) (by decide) (by decide) ?_
      show own_S p e below T156 (mkF m 155 (own_loc16 q0 q1 q2 p3 b132) []) _
      refine XS.iconst X156.here hx rfl (hb hby at_155) ?_
      show own_S p e below T156 (mkF m 156 (own_loc16 q0 q1 q2 p3 b132) [.int 1]) _
      refine XS.goto X156.here hx rfl (pc0 := 156) (pc' := 160) rfl (hb hby at_156) (by decide) (by decide) ?_
      show own_S p e below T156 (mkF m 160 (own_loc16 q0 q1 q2 p3 b132) [.int 1]) _
      refine XS.istore X156.here hx rfl (hb hby at_160) rfl (l' := (own_loc17 q0 q1 q2 p3 b132)) rfl ?_
      show own_S p e below T156 (mkF m 162 (own_loc17 q0 q1 q2 p3 b132) []) _
      refine XS.aload X156.here hx rfl (hb hby at_162) rfl rfl ?_
      show own_S p e below T156 (mkF m 164 (own_loc17 q0 q1 q2 p3 b132) [(.ref b132)]) _
      refine XS.lload X156.here hx rfl (hb hby at_164) rfl ?_
      show own_S p e below T156 (mkF m 166 (own_loc17 q0 q1 q2 p3 b132) [(.long (own_point q0 q1 q2 p3)), (.ref b132)]) _
      refine st162.trans ?_
      show own_S p e below T162 (mkF m 169 (own_loc17 q0 q1 q2 p3 b132) [(.int (own_cont q0 (own_end q0 q1 p3) (own_point q0 q1 q2 p3)))]) _
      refine XS.iload X162.here hx rfl (hb hby at_169) rfl ?_
      show own_S p e below T162 (mkF m 171 (own_loc17 q0 q1 q2 p3 b132) [.int 1, (.int (own_cont q0 (own_end q0 q1 p3) (own_point q0 q1 q2 p3)))]) _
      refine XS.icmpNo X162.here hx rfl (hb hby at_171) rfl (teq (show (own_cont q0 (own_end q0 q1 p3) (own_point q0 q1 q2 p3)) = (1 : Int32) from (own_c1 _ _ _ hc160))).2 ?_
      show own_S p e below T162 (mkF m 174 (own_loc17 q0 q1 q2 p3 b132) []) _
      refine XS.iconst X162.here hx rfl (hb hby at_174) ?_
      show own_S p e below T162 (mkF m 175 (own_loc17 q0 q1 q2 p3 b132) [.int 1]) _
      refine XS.goto X162.here hx rfl (pc0 := 175) (pc' := 179) rfl (hb hby at_175) (by decide) (by decide) ?_
      show own_S p e below T162 (mkF m 179 (own_loc17 q0 q1 q2 p3 b132) [.int 1]) _
      exact retN X162 hx (t := .boolean) Bd.returns (by simp) (hb hby at_179) hr
    · exact ⟨rfl, N162⟩
  · obtain ⟨_, _, ⟨T163, L163, k163, n163⟩, -, X163, ⟨Lc163, hQ163, l163, y163, z163⟩, st163⟩ := Jvm.LawKit.callS X156 hx (y := (⟨"com/example/eraztun/eraztun/StretchContainsPinLaw", "unsignedLess", "(JJ)Z"⟩ : MethodName)) hown (mvT hZ (hw _ (List.mem_of_getElem? (i := 62) rfl))) (mvT hZ (hw _ (List.mem_of_getElem? (i := 63) rfl))) (mvT hZ (hw _ (List.mem_of_getElem? (i := 64) rfl))) (mvT hZ (hw _ (List.mem_of_getElem? (i := 65) rfl))) (by decide) (backOf (W := 0) (rm10 l Z ag hw [] (((own_point q0 q1 q2 p3) - q0) - (1 : Int64)) ((own_end q0 q1 p3) - q0)  T156.heap n0 sz159 ) hZ (hw _ (List.mem_of_getElem? (i := 65) rfl)) (hw _ (List.mem_of_getElem? (i := 64) rfl)) (by decide) (by decide)) (g := (mkF m 149 (own_loc16 q0 q1 q2 p3 b132) [(.long ((own_end q0 q1 p3) - q0)), (.long (((own_point q0 q1 q2 p3) - q0) - (1 : Int64)))])) rfl (by rw [hml]; rfl) (argsL := [(.long (((own_point q0 q1 q2 p3) - q0) - (1 : Int64))), (.long ((own_end q0 q1 p3) - q0))]) (rest := []) (lenOf pd_4 rfl) rfl (by show 2 * 0 + _ ≤ _; exact Nat.le_of_eq rfl) (hb hby at_149) (fun _ _ => ⟨rfl, rfl, (by decide : 9 + 0 ≤ _), (by decide : 196 + 0 ≤ _)⟩)
    dsimp only [Pt.U, Pt.locs, Pt.cells, Pt.slots] at X163 l163 y163 z163 st163 hQ163
    subst l163 y163 z163
    obtain ⟨rfl, N163q, e163⟩ := hQ163
    have N163 := Fr.app N156 N163q
    have cp165 : ∀ target, own_S p e below T163 (mkF m 152 (own_loc16 q0 q1 q2 p3 b132) [(.int (own_ul (((own_point q0 q1 q2 p3) - q0) - (1 : Int64)) ((own_end q0 q1 p3) - q0)))]) target → own_S p e below s₁ (mkF m 0 (own_loc3 q0 q1 q2 p3) []) target := by
      intro target kt
      show own_S p e below s₁ (mkF m 0 (own_loc3 q0 q1 q2 p3) []) _
      refine cp161 _ ?_
      show own_S p e below T156 (mkF m 140 (own_loc16 q0 q1 q2 p3 b132) [(.int (lcmpW ((own_end q0 q1 p3) - q0) (0 : Int64)))]) _
      refine XS.ifNo X156.here hx rfl (hb hby at_140) rfl ((if0 _ _).trans (feq (fun q => hc160 ((lw_eq ((own_end q0 q1 p3) - q0) (0 : Int64)).mp q))).1) ?_
      show own_S p e below T156 (mkF m 143 (own_loc16 q0 q1 q2 p3 b132) []) _
      refine XS.lload X156.here hx rfl (hb hby at_143) rfl ?_
      show own_S p e below T156 (mkF m 145 (own_loc16 q0 q1 q2 p3 b132) [(.long ((own_point q0 q1 q2 p3) - q0))]) _
      refine XS.lconst X156.here hx rfl (hb hby at_145) ?_
      show own_S p e below T156 (mkF m 146 (own_loc16 q0 q1 q2 p3 b132) [.long 1, (.long ((own_point q0 q1 q2 p3) - q0))]) _
      refine XS.lsub X156.here hx rfl (hb hby at_146) rfl ?_
      show own_S p e below T156 (mkF m 147 (own_loc16 q0 q1 q2 p3 b132) [(.long (((own_point q0 q1 q2 p3) - q0) - (1 : Int64)))]) _
      refine XS.lload X156.here hx rfl (hb hby at_147) rfl ?_
      show own_S p e below T156 (mkF m 149 (own_loc16 q0 q1 q2 p3 b132) [(.long ((own_end q0 q1 p3) - q0)), (.long (((own_point q0 q1 q2 p3) - q0) - (1 : Int64)))]) _
      refine st163 _ ?_
      exact kt
    by_cases hc164 : (own_ul (((own_point q0 q1 q2 p3) - q0) - (1 : Int64)) ((own_end q0 q1 p3) - q0)) = (0 : Int32)
    · obtain ⟨cq166, kq166, q166a, q166b, q166c⟩ := isOf hZ e163 x158
      obtain ⟨_, _, ⟨T166, L166, k166, n166⟩, -, X166, ⟨Lc166, hQ166, l166, y166, z166⟩, st166⟩ := X163.virtualBack hx (y := (⟨"com/example/eraztun/eraztun/Ring$Stretch", "contains", "(J)Z"⟩ : MethodName)) (z := (⟨"com/example/eraztun/eraztun/Ring$Stretch", "contains", "(J)Z"⟩ : MethodName)) hown (mvT hZ (hw _ (List.mem_of_getElem? (i := 67) rfl))) (mvT hZ (hw _ (List.mem_of_getElem? (i := 68) rfl))) (notFace_of_selects (args := #[]) (mvT hZ (hw _ (List.mem_of_getElem? (i := 70) rfl)))) (mvT hZ (hw _ (List.mem_of_getElem? (i := 70) rfl))) (mvT hZ (hw _ (List.mem_of_getElem? (i := 69) rfl))) (by decide) (backOf (W := 0) (rm11 l Z ag hw [] b132 (own_point q0 q1 q2 p3) q0 (own_end q0 q1 p3) T156.heap n0 sz159 F1156 F2156) hZ (hw _ (List.mem_of_getElem? (i := 71) rfl)) (hw _ (List.mem_of_getElem? (i := 2) rfl)) (by decide) (by decide)) q166a q166c (g := (mkF m 166 (own_loc18 q0 q1 q2 p3 b132) [(.long (own_point q0 q1 q2 p3)), (.ref b132)])) rfl (by rw [hml]; rfl) (Steps.refl _) (argsL := [(.long (own_point q0 q1 q2 p3))]) (rest := []) (lenOf pd_2 rfl) rfl (by show 2 * 0 + _ ≤ _; exact Nat.le_of_eq rfl) (hb hby at_166) (fun _ _ => ⟨rfl, e163, (by decide : 9 + 0 ≤ _), (by decide : 196 + 0 ≤ _)⟩)
      dsimp only [Pt.U, Pt.locs, Pt.cells, Pt.slots] at X166 l166 y166 z166 st166 hQ166
      subst l166 y166 z166
      obtain ⟨rfl, N166q, e166⟩ := hQ166
      have N166 := Fr.app N163 N166q
      obtain ⟨fs, hr, hrun, hended, hEnd⟩ := X166.leaveW hS (by rw [e166]; exact hkS) (v := some (.int (1 : Int32))) (fun h => by rw [Bd.returns] at h; cases h)
      refine ⟨_, _, pre0 _ ?_, hrun, hended, _, _, rfl, ?_, hEnd.1, hEnd.2.1, hEnd.2.2.1, hEnd.2.2.2.mono (by decide) (by decide)⟩
      · show own_S p e below s₁ (mkF m 0 (own_loc3 q0 q1 q2 p3) []) _
        refine cp165 _ ?_
        show own_S p e below T163 (mkF m 152 (own_loc16 q0 q1 q2 p3 b132) [(.int (own_ul (((own_point q0 q1 q2 p3) - q0) - (1 : Int64)) ((own_end q0 q1 p3) - q0)))]) _
        refine XS.ifYes X163.here hx rfl (pc0 := 152) (pc' := 159) rfl (hb hby at_152) rfl ((if0 _ _).trans (teq hc164).1) (by decide) (by decide) ?_
        show own_S p e below T163 (mkF m 159 (own_loc16 q0 q1 q2 p3 b132) []) _
        refine XS.iconst X163.here hx rfl (hb hby at_159) ?_
        show own_S p e below T163 (mkF m 160 (own_loc16 q0 q1 q2 p3 b132) [.int 0]) _
        refine XS.istore X163.here hx rfl (hb hby at_160) rfl (l' := (own_loc18 q0 q1 q2 p3 b132)) rfl ?_
        show own_S p e below T163 (mkF m 162 (own_loc18 q0 q1 q2 p3 b132) []) _
        refine XS.aload X163.here hx rfl (hb hby at_162) rfl rfl ?_
        show own_S p e below T163 (mkF m 164 (own_loc18 q0 q1 q2 p3 b132) [(.ref b132)]) _
        refine XS.lload X163.here hx rfl (hb hby at_164) rfl ?_
        show own_S p e below T163 (mkF m 166 (own_loc18 q0 q1 q2 p3 b132) [(.long (own_point q0 q1 q2 p3)), (.ref b132)]) _
        refine st166.trans ?_
        show own_S p e below T166 (mkF m 169 (own_loc18 q0 q1 q2 p3 b132) [(.int (own_cont q0 (own_end q0 q1 p3) (own_point q0 q1 q2 p3)))]) _
        refine XS.iload X166.here hx rfl (hb hby at_169) rfl ?_
        show own_S p e below T166 (mkF m 171 (own_loc18 q0 q1 q2 p3 b132) [.int 0, (.int (own_cont q0 (own_end q0 q1 p3) (own_point q0 q1 q2 p3)))]) _
        refine XS.icmpNo X166.here hx rfl (hb hby at_171) rfl (teq (show (own_cont q0 (own_end q0 q1 p3) (own_point q0 q1 q2 p3)) = (0 : Int32) from (own_c3 _ _ _ hc160 hc164))).2 ?_
        show own_S p e below T166 (mkF m 174 (own_loc18 q0 q1 q2 p3 b132) []) _
        refine XS.iconst X166.here hx rfl (hb hby at_174) ?_
        show own_S p e below T166 (mkF m 175 (own_loc18 q0 q1 q2 p3 b132) [.int 1]) _
        refine XS.goto X166.here hx rfl (pc0 := 175) (pc' := 179) rfl (hb hby at_175) (by decide) (by decide) ?_
        show own_S p e below T166 (mkF m 179 (own_loc18 q0 q1 q2 p3 b132) [.int 1]) _
        exact retN X166 hx (t := .boolean) Bd.returns (by simp) (hb hby at_179) hr
      · exact ⟨rfl, N166⟩
    · obtain ⟨cq167, kq167, q167a, q167b, q167c⟩ := isOf hZ e163 x158
      obtain ⟨_, _, ⟨T167, L167, k167, n167⟩, -, X167, ⟨Lc167, hQ167, l167, y167, z167⟩, st167⟩ := X163.virtualBack hx (y := (⟨"com/example/eraztun/eraztun/Ring$Stretch", "contains", "(J)Z"⟩ : MethodName)) (z := (⟨"com/example/eraztun/eraztun/Ring$Stretch", "contains", "(J)Z"⟩ : MethodName)) hown (mvT hZ (hw _ (List.mem_of_getElem? (i := 67) rfl))) (mvT hZ (hw _ (List.mem_of_getElem? (i := 68) rfl))) (notFace_of_selects (args := #[]) (mvT hZ (hw _ (List.mem_of_getElem? (i := 70) rfl)))) (mvT hZ (hw _ (List.mem_of_getElem? (i := 70) rfl))) (mvT hZ (hw _ (List.mem_of_getElem? (i := 69) rfl))) (by decide) (backOf (W := 0) (rm11 l Z ag hw [] b132 (own_point q0 q1 q2 p3) q0 (own_end q0 q1 p3) T156.heap n0 sz159 F1156 F2156) hZ (hw _ (List.mem_of_getElem? (i := 71) rfl)) (hw _ (List.mem_of_getElem? (i := 2) rfl)) (by decide) (by decide)) q167a q167c (g := (mkF m 166 (own_loc17 q0 q1 q2 p3 b132) [(.long (own_point q0 q1 q2 p3)), (.ref b132)])) rfl (by rw [hml]; rfl) (Steps.refl _) (argsL := [(.long (own_point q0 q1 q2 p3))]) (rest := []) (lenOf pd_2 rfl) rfl (by show 2 * 0 + _ ≤ _; exact Nat.le_of_eq rfl) (hb hby at_166) (fun _ _ => ⟨rfl, e163, (by decide : 9 + 0 ≤ _), (by decide : 196 + 0 ≤ _)⟩)
      dsimp only [Pt.U, Pt.locs, Pt.cells, Pt.slots] at X167 l167 y167 z167 st167 hQ167
      subst l167 y167 z167
      obtain ⟨rfl, N167q, e167⟩ := hQ167
      have N167 := Fr.app N163 N167q
      obtain ⟨fs, hr, hrun, hended, hEnd⟩ := X167.leaveW hS (by rw [e167]; exact hkS) (v := some (.int (1 : Int32))) (fun h => by rw [Bd.returns] at h; cases h)
      refine ⟨_, _, pre0 _ ?_, hrun, hended, _, _, rfl, ?_, hEnd.1, hEnd.2.1, hEnd.2.2.1, hEnd.2.2.2.mono (by decide) (by decide)⟩
      · show own_S p e below s₁ (mkF m 0 (own_loc3 q0 q1 q2 p3) []) _
        refine cp165 _ ?_
        show own_S p e below T163 (mkF m 152 (own_loc16 q0 q1 q2 p3 b132) [(.int (own_ul (((own_point q0 q1 q2 p3) - q0) - (1 : Int64)) ((own_end q0 q1 p3) - q0)))]) _
        refine XS.ifNo X163.here hx rfl (hb hby at_152) rfl ((if0 _ _).trans (feq hc164).1) ?_
        show own_S p e below T163 (mkF m 155 (own_loc16 q0 q1 q2 p3 b132) []) _
        refine XS.iconst X163.here hx rfl (hb hby at_155) ?_
        show own_S p e below T163 (mkF m 156 (own_loc16 q0 q1 q2 p3 b132) [.int 1]) _
        refine XS.goto X163.here hx rfl (pc0 := 156) (pc' := 160) rfl (hb hby at_156) (by decide) (by decide) ?_
        show own_S p e below T163 (mkF m 160 (own_loc16 q0 q1 q2 p3 b132) [.int 1]) _
        refine XS.istore X163.here hx rfl (hb hby at_160) rfl (l' := (own_loc17 q0 q1 q2 p3 b132)) rfl ?_
        show own_S p e below T163 (mkF m 162 (own_loc17 q0 q1 q2 p3 b132) []) _
        refine XS.aload X163.here hx rfl (hb hby at_162) rfl rfl ?_
        show own_S p e below T163 (mkF m 164 (own_loc17 q0 q1 q2 p3 b132) [(.ref b132)]) _
        refine XS.lload X163.here hx rfl (hb hby at_164) rfl ?_
        show own_S p e below T163 (mkF m 166 (own_loc17 q0 q1 q2 p3 b132) [(.long (own_point q0 q1 q2 p3)), (.ref b132)]) _
        refine st167.trans ?_
        show own_S p e below T167 (mkF m 169 (own_loc17 q0 q1 q2 p3 b132) [(.int (own_cont q0 (own_end q0 q1 p3) (own_point q0 q1 q2 p3)))]) _
        refine XS.iload X167.here hx rfl (hb hby at_169) rfl ?_
        show own_S p e below T167 (mkF m 171 (own_loc17 q0 q1 q2 p3 b132) [.int 1, (.int (own_cont q0 (own_end q0 q1 p3) (own_point q0 q1 q2 p3)))]) _
        refine XS.icmpNo X167.here hx rfl (hb hby at_171) rfl (teq (show (own_cont q0 (own_end q0 q1 p3) (own_point q0 q1 q2 p3)) = (1 : Int32) from (own_c2 _ _ _ hc160 hc164))).2 ?_
        show own_S p e below T167 (mkF m 174 (own_loc17 q0 q1 q2 p3 b132) []) _
        refine XS.iconst X167.here hx rfl (hb hby at_174) ?_
        show own_S p e below T167 (mkF m 175 (own_loc17 q0 q1 q2 p3 b132) [.int 1]) _
        refine XS.goto X167.here hx rfl (pc0 := 175) (pc' := 179) rfl (hb hby at_175) (by decide) (by decide) ?_
        show own_S p e below T167 (mkF m 179 (own_loc17 q0 q1 q2 p3 b132) [.int 1]) _
        exact retN X167 hx (t := .boolean) Bd.returns (by simp) (hb hby at_179) hr
      · exact ⟨rfl, N167⟩
set_option maxRecDepth 65536 in
set_option maxHeartbeats 40000000 in
theorem comes_1 {Post : Tables → Env → Array Value → State → Outcome → State → Prop} (hpost : ∀ tb e args s v u, (limb_1_1.after args s (.returned v) u = true ∧ limb_1_2.after args s (.returned v) u = true ∧ True) → ReturnedEndW s (.returned v) u (Jvm.fieldLocs frame_1_writes args s ++ Jvm.arrayLocs frame_1_arrays args s ++ Jvm.staticLocs frame_1_statics s) 16 3200 → Post tb e args s (.returned v) u) :
    ArmFor flags0 classFile x code maxLocals ret World_1 tables_1 room_1 Calls_1 rest_1 Pre_1 Post := by
  intro l hfl _ _ p e ha hc hk s m args below hf hA hF happ hP
  obtain ⟨hcalls, hrest, hpre⟩ := hP
  obtain ⟨-, -, -, hnamed, -, -, -, hat⟩ := (Spec.applies_iff hf).mp happ
  obtain ⟨hg, hn⟩ := and_e (Cond.before_iff.mp (show (Jvm.Cond.and given_1 narrow_1).before args s = true from hpre))
  obtain ⟨g168, g169⟩ := and_e hg
  obtain ⟨g170, g171⟩ := and_e g169
  obtain ⟨g172, g173⟩ := and_e g171
  obtain ⟨g174, g175⟩ := and_e g173
  obtain ⟨w0, w1, w2, w3, rfl⟩ : ∃ w0 w1 w2 w3 : Value, args = #[w0, w1, w2, w3] := by
    have hs : args.size = 4 := by simpa [Cond.value, given_1] using g168
    obtain ⟨L⟩ := args
    match L, hs with
    | [w0, w1, w2, w3], _ => exact ⟨w0, w1, w2, w3, rfl⟩
  have hw := fun d (hd : d ∈ tables_1) => atoms_spec (ws := Jvm.Cond.code x code maxLocals ret :: tables_1) hat d (List.mem_cons_of_mem _ hd)
  have hfit : Fit s := fun {y c} hc i hi => by
    obtain ⟨ha, rfl⟩ := Array.getElem?_eq_some_iff.mp hc
    have q := List.all_eq_true.mp ((Array.all_eq_true_iff_forall_mem.mp hF) _ (Array.getElem_mem ha)) i (List.mem_range.mpr hi)
    simpa [Array.getElem?_eq_getElem hi] using q
  obtain ⟨hsets, hown0⟩ := atoms_of _ (rest_1_c_eq ▸ (show rest_1_c.before _ s = true from hrest))
  have hr0 := Cond.before_iff.mp hown0
  obtain ⟨i0, ei0⟩ := isL_v g170
  obtain rfl : w0 = (.long i0) := Option.some.inj ei0
  obtain ⟨i1, ei1⟩ := isL_v g172
  obtain rfl : w1 = (.long i1) := Option.some.inj ei1
  obtain ⟨i2, ei2⟩ := isL_v g174
  obtain rfl : w2 = (.long i2) := Option.some.inj ei2
  obtain ⟨i3, ei3⟩ := is_v g175
  obtain rfl : w3 = (.int i3) := Option.some.inj ei3
  obtain ⟨cs, ecs⟩ := is_v (Cond.before_iff.mp (hsets _ (List.mem_of_getElem? (i := 1) rfl)))
  have S_cs : Sta s s.heap "java/lang/String" "COMPACT_STRINGS" "Z" (.int cs) := Sta.start ecs (Or.inl (hsets _ (List.mem_of_getElem? (i := 0) rfl)))
  have hcs : ¬ (cs = (0 : Int32)) := gotF (Cond.eq_ints ecs (Term.int_eval (0))) (not_v (Cond.before_iff.mp (hsets _ (List.mem_of_getElem? (i := 2) rfl))))
  have hcw : Jvm.Lit.compactW.before _ s = true := hsets _ (List.mem_of_getElem? (i := 2) rfl)
  have hch0 : Jvm.Lit.constHeld s "com/example/eraztun/eraztun/StretchContainsPinLaw" 13 := hcalls.1 ("com/example/eraztun/eraztun/StretchContainsPinLaw", 13) (by decide)
  have hch1 : Jvm.Lit.constHeld s "com/example/eraztun/eraztun/StretchContainsPinLaw" 15 := hcalls.1 ("com/example/eraztun/eraztun/StretchContainsPinLaw", 15) (by decide)
  obtain ⟨n, o, h1, h2, h3, _, L, rfl, ⟨rfl, N⟩, hq⟩ := rm0 l s _ hw tables_1 i0 i1 i2 i3 cs s.heap s.heap.size (Nat.le_refl _) (Old.start s) S_cs hcs rfl hcw hch0 hch1 p e ha hc hk s m _ below hf ((Spec.applies_iff_loose hf).mp happ).1 ⟨rfl, State.Warmed39.refl s, rfl, IB.start⟩ trivial
  refine ⟨n, _, h1, h2, h3, hpost _ _ _ _ _ _ ⟨Cond.after_iff.mpr rfl, Cond.after_iff.mpr (eq_i res_at (Term.int_eval (1)) rfl), trivial⟩ ⟨hq.1, hq.2.1, hq.2.2.1, (hq.2.2.2.sift fun y hy => Or.inr (N y hy)).mono (by decide) (by decide)⟩⟩
theorem main_1_1 : Claimed_1_1 := comes_1 fun _ _ _ _ _ _ h hF => ⟨h.1, hF⟩
theorem main_1_2 : Claimed_1_2 := comes_1 fun _ _ _ _ _ _ h hF => ⟨h.2.1, hF⟩
end Jvm.Pilot.@@N@@
namespace Jvm.Pilot.@@N@@
open Jvm Jvm.ClassFile Sem Op Lib Jvm.Free Jvm.Stand Jvm.Pilot.@@N@@.Jvm.D
/-! MADE BY PROGRAM (witnessworld.py) out of the Statement's table words and the real class files: 23 classes; the members and pool entries that the words name. The judged class is class 1, her method 2. -/
namespace start1
open Jvm.ClassFile
def u (s : String) : CpInfo := .utf8 (stringToUtf16 s)
/-- a pool by its gaps: so many unusable entries, then the entry; so many at the end -/
def gap : Nat → List CpInfo → List CpInfo
  | 0, r => r
  | n + 1, r => .unusable :: gap n r
def poolList (es : List (Nat × CpInfo)) (last : Nat) : List CpInfo := es.foldr (fun e r => gap e.1 (e.2 :: r)) (gap last [])
def pool (es : List (Nat × CpInfo)) (last : Nat) : Array CpInfo := ⟨poolList es last⟩
def fileOf (pool : Array CpInfo) (this : Nat) (attrs : Array Attribute := #[]) (ms : Array MethodInfo := #[]) (fl : Nat := 33) (sup : Nat := 0) (ifs : Array Nat := #[]) (fds : Array FieldInfo := #[]) : ClassFile where
  minorVersion := 0
  majorVersion := 65
  constantPool := pool
  accessFlags := fl
  thisClass := this
  superClass := sup
  interfaces := ifs
  fields := fds
  methods := ms
  attributes := attrs
def plain (name : String) (sup : Option ClassId) : Class where
  name := name
  kind := .ordinary
  loader := none
  accessFlags := 33
  super := sup
  interfaces := #[]
  cf := none
  fields := #[]
  methods := #[]
  instanceTypes := #[]
  staticTypes := #[]
  resolved := #[]
  callSites := []
  init := .initialized
  statics := none
  mirror := none

def pool0 : Array CpInfo := pool [(5, u "<init>"), (0, u "()V"), (1, .class_ 10), (1, u "java/lang/Object")] 113

def k0c0 : Code := { maxStack := 0, maxLocals := 1, code := object_method_1_code, exceptionTable := #[], attributes := #[] }
def k0m0 : Method := { name := "<init>", desc := "()V", sig := { parameters := [], returnType := none }, accessFlags := 1, code := some k0c0 }
/-- java/lang/Object -/
def k0 : Class := { plain "java/lang/Object" none with
  accessFlags := 33
  interfaces := #[]
  cf := some (fileOf pool0 8 #[] #[{ accessFlags := 1, nameIndex := 5, descriptorIndex := 6, attributes := #[] }] 33 0 #[] #[])
  fields := #[]
  methods := #[k0m0]
  instanceTypes := #[]
  staticTypes := #[]
  resolved := Array.replicate 124 none
  statics := none }

def pool1 : Array CpInfo := pool [(2, .class_ 4), (1, u "java/lang/Object"), (0, u "<init>"), (0, u "()V"), (2, .long 9223372036854775808), (1, .class_ 12), (0, u "com/example/eraztun/eraztun/Ring$Stretch"), (0, .string 14), (0, u "a"), (0, .string 16), (0, u "b"), (0, .methodref 11 18), (0, .nameAndType 5 19), (0, u "(JJLjava/lang/String;Ljava/lang/String;)V"), (0, .methodref 21 22), (0, .class_ 23), (0, .nameAndType 24 25), (0, u "com/example/eraztun/eraztun/StretchContainsPinLaw"), (0, u "unsignedLess"), (0, u "(JJ)Z"), (0, .methodref 11 27), (0, .nameAndType 28 29), (0, u "contains"), (0, u "(J)Z"), (3, u "law"), (0, u "(JJJI)Z")] 6

def k1m0 : Method := { name := "<init>", desc := "()V", sig := { parameters := [], returnType := none }, accessFlags := 1, code := none }
def k1c1 : Code := { maxStack := 6, maxLocals := 4, code := method_2_code, exceptionTable := #[], attributes := #[] }
def k1m1 : Method := { name := "unsignedLess", desc := "(JJ)Z", sig := { parameters := [.long, .long], returnType := some .boolean }, accessFlags := 10, code := some k1c1 }
def k1c2 : Code := { maxStack := 8, maxLocals := 18, code := code, exceptionTable := #[], attributes := #[] }
def k1m2 : Method := { name := "law", desc := "(JJJI)Z", sig := { parameters := [.long, .long, .long, .int], returnType := some .boolean }, accessFlags := 9, code := some k1c2 }
/-- com/example/eraztun/eraztun/StretchContainsPinLaw -/
def k1 : Class := { plain "com/example/eraztun/eraztun/StretchContainsPinLaw" (some 0) with
  accessFlags := 49
  interfaces := #[]
  cf := some (fileOf pool1 21 #[] #[{ accessFlags := 1, nameIndex := 5, descriptorIndex := 6, attributes := #[] }, { accessFlags := 10, nameIndex := 24, descriptorIndex := 25, attributes := #[] }, { accessFlags := 9, nameIndex := 33, descriptorIndex := 34, attributes := #[] }] 49 2 #[] #[])
  fields := #[]
  methods := #[k1m0, k1m1, k1m2]
  instanceTypes := #[]
  staticTypes := #[]
  resolved := Array.replicate 41 none
  statics := none }

def pool2 : Array CpInfo := pool [(1, .methodref 2 3), (0, .class_ 4), (0, .nameAndType 5 6), (0, u "java/lang/Object"), (0, u "<init>"), (0, u "()V"), (0, .class_ 8), (0, u "java/lang/Record")] 13

def k2c0 : Code := { maxStack := 1, maxLocals := 1, code := jdk_30_method_1_code, exceptionTable := #[], attributes := #[] }
def k2m0 : Method := { name := "<init>", desc := "()V", sig := { parameters := [], returnType := none }, accessFlags := 4, code := some k2c0 }
/-- java/lang/Record -/
def k2 : Class := { plain "java/lang/Record" (some 0) with
  accessFlags := 1057
  interfaces := #[]
  cf := some (fileOf pool2 7 #[] #[{ accessFlags := 4, nameIndex := 5, descriptorIndex := 6, attributes := #[] }] 1057 2 #[] #[])
  fields := #[]
  methods := #[k2m0]
  instanceTypes := #[]
  staticTypes := #[]
  resolved := Array.replicate 22 none
  statics := none }

def pool3 : Array CpInfo := pool [(55, .class_ 56), (0, u "com/example/eraztun/eraztun/Handover"), (0, .class_ 58), (0, u "java/lang/Object")] 36

/-- com/example/eraztun/eraztun/Handover -/
def k3 : Class := { plain "com/example/eraztun/eraztun/Handover" (some 0) with
  accessFlags := 1537
  interfaces := #[]
  cf := some (fileOf pool3 55 #[] #[] 1537 57 #[] #[])
  fields := #[]
  methods := #[]
  instanceTypes := #[]
  staticTypes := #[]
  resolved := Array.replicate 95 none
  statics := none }

def pool4 : Array CpInfo := pool [(1, .methodref 2 3), (0, .class_ 4), (0, .nameAndType 5 6), (0, u "java/lang/Record"), (0, u "<init>"), (0, u "()V"), (0, .methodref 8 9), (0, .class_ 10), (0, .nameAndType 11 12), (0, u "com/example/eraztun/eraztun/MemberNames"), (0, u "checkHandedOver"), (0, u "(Ljava/lang/String;Ljava/lang/String;)V"), (0, .fieldref 14 15), (0, .class_ 16), (0, .nameAndType 17 18), (0, u "com/example/eraztun/eraztun/Ring$Stretch"), (0, u "start"), (0, u "J"), (0, .fieldref 14 20), (0, .nameAndType 21 18), (0, u "end"), (0, .fieldref 14 23), (0, .nameAndType 24 25), (0, u "from"), (0, u "Ljava/lang/String;"), (0, .fieldref 14 27), (0, .nameAndType 28 25), (0, u "to"), (0, .methodref 30 31), (0, .class_ 32), (0, .nameAndType 33 34), (0, u "java/lang/Long"), (0, u "compareUnsigned"), (0, u "(JJ)I"), (12, .class_ 48), (0, u "com/example/eraztun/eraztun/Handover"), (0, u "(JJLjava/lang/String;Ljava/lang/String;)V"), (3, u "contains"), (0, u "(J)Z"), (8, .class_ 64), (0, u "com/example/eraztun/eraztun/Ring")] 22

def k4c0 : Code := { maxStack := 3, maxLocals := 7, code := prog_12_method_1_code, exceptionTable := #[], attributes := #[] }
def k4m0 : Method := { name := "<init>", desc := "(JJLjava/lang/String;Ljava/lang/String;)V", sig := { parameters := [.long, .long, (.object "java/lang/String"), (.object "java/lang/String")], returnType := none }, accessFlags := 1, code := some k4c0 }
def k4c1 : Code := { maxStack := 4, maxLocals := 5, code := prog_12_method_2_code, exceptionTable := #[], attributes := #[] }
def k4m1 : Method := { name := "contains", desc := "(J)Z", sig := { parameters := [.long], returnType := some .boolean }, accessFlags := 1, code := some k4c1 }
/-- com/example/eraztun/eraztun/Ring$Stretch -/
def k4 : Class := { plain "com/example/eraztun/eraztun/Ring$Stretch" (some 2) with
  accessFlags := 49
  interfaces := #[3]
  cf := some (fileOf pool4 14 #[.nestHost 63] #[{ accessFlags := 1, nameIndex := 5, descriptorIndex := 49, attributes := #[] }, { accessFlags := 1, nameIndex := 53, descriptorIndex := 54, attributes := #[] }] 49 2 #[47] #[{ accessFlags := 18, nameIndex := 17, descriptorIndex := 18, attributes := #[] }, { accessFlags := 18, nameIndex := 21, descriptorIndex := 18, attributes := #[] }, { accessFlags := 18, nameIndex := 24, descriptorIndex := 25, attributes := #[] }, { accessFlags := 18, nameIndex := 28, descriptorIndex := 25, attributes := #[] }])
  fields := #[{ name := "start", type := .long, accessFlags := 18, slot := 0, constantValue := 0 }, { name := "end", type := .long, accessFlags := 18, slot := 1, constantValue := 0 }, { name := "from", type := (.object "java/lang/String"), accessFlags := 18, slot := 2, constantValue := 0 }, { name := "to", type := (.object "java/lang/String"), accessFlags := 18, slot := 3, constantValue := 0 }]
  methods := #[k4m0, k4m1]
  instanceTypes := #[.long, .long, (.object "java/lang/String"), (.object "java/lang/String")]
  staticTypes := #[]
  resolved := Array.replicate 87 none
  statics := none }

def pool5 : Array CpInfo := pool [(1, .class_ 2), (0, u "java/io/Serializable"), (0, .class_ 4), (0, u "java/lang/Object")] 2

/-- java/io/Serializable -/
def k5 : Class := { plain "java/io/Serializable" (some 0) with
  accessFlags := 1537
  interfaces := #[]
  cf := some (fileOf pool5 1 #[] #[] 1537 3 #[] #[])
  fields := #[]
  methods := #[]
  instanceTypes := #[]
  staticTypes := #[]
  resolved := Array.replicate 7 none
  statics := none }

def pool6 : Array CpInfo := pool [(1, .class_ 2), (0, u "java/lang/Comparable"), (0, .class_ 4), (0, u "java/lang/Object")] 7

/-- java/lang/Comparable -/
def k6 : Class := { plain "java/lang/Comparable" (some 0) with
  accessFlags := 1537
  interfaces := #[]
  cf := some (fileOf pool6 1 #[] #[] 1537 3 #[] #[])
  fields := #[]
  methods := #[]
  instanceTypes := #[]
  staticTypes := #[]
  resolved := Array.replicate 12 none
  statics := none }

def pool7 : Array CpInfo := pool [(2, .class_ 4), (1, u "java/lang/CharSequence"), (42, .class_ 48), (0, u "java/lang/CharSequence$1CodePointIterator"), (10, .class_ 60), (0, u "java/lang/CharSequence$1CharIterator"), (5, .class_ 67), (0, u "java/lang/Object")] 63

/-- java/lang/CharSequence -/
def k7 : Class := { plain "java/lang/CharSequence" (some 0) with
  accessFlags := 1537
  interfaces := #[]
  cf := some (fileOf pool7 2 #[.nestMembers #[47, 59]] #[] 1537 66 #[] #[])
  fields := #[]
  methods := #[]
  instanceTypes := #[]
  staticTypes := #[]
  resolved := Array.replicate 131 none
  statics := none }

def pool8 : Array CpInfo := pool [(1, .class_ 2), (0, u "java/lang/constant/Constable"), (0, .class_ 4), (0, u "java/lang/Object")] 6

/-- java/lang/constant/Constable -/
def k8 : Class := { plain "java/lang/constant/Constable" (some 0) with
  accessFlags := 1537
  interfaces := #[]
  cf := some (fileOf pool8 1 #[] #[] 1537 3 #[] #[])
  fields := #[]
  methods := #[]
  instanceTypes := #[]
  staticTypes := #[]
  resolved := Array.replicate 11 none
  statics := none }

def pool9 : Array CpInfo := pool [(1, .class_ 2), (0, u "java/lang/constant/ConstantDesc"), (0, .class_ 4), (0, u "java/lang/Object")] 32

/-- java/lang/constant/ConstantDesc -/
def k9 : Class := { plain "java/lang/constant/ConstantDesc" (some 0) with
  accessFlags := 1537
  interfaces := #[]
  cf := some (fileOf pool9 1 #[] #[] 1537 3 #[] #[])
  fields := #[]
  methods := #[]
  instanceTypes := #[]
  staticTypes := #[]
  resolved := Array.replicate 37 none
  statics := none }

def pool10 : Array CpInfo := pool [(2, .class_ 4), (1, u "java/lang/Object"), (0, u "<init>"), (0, u "()V"), (2, .fieldref 10 11), (0, .class_ 12), (0, .nameAndType 13 14), (0, u "java/lang/String"), (0, u "value"), (0, u "[B"), (0, .fieldref 10 16), (0, .nameAndType 17 18), (0, u "coder"), (0, u "B"), (2, u "hash"), (0, u "I"), (2, u "hashIsZero"), (0, u "Z"), (11, .fieldref 10 39), (0, .nameAndType 40 26), (0, u "COMPACT_STRINGS"), (66, .class_ 109), (1, u "java/lang/StringLatin1"), (32, u "()Z"), (398, .methodref 107 542), (0, .nameAndType 543 544), (0, u "equals"), (0, u "([B[B)Z"), (28, u "(Ljava/lang/Object;)Z"), (1, .class_ 576), (0, u "java/lang/CharSequence"), (22, u "CASE_INSENSITIVE_ORDER"), (0, u "Ljava/util/Comparator;"), (91, u "isEmpty"), (408, u "serialPersistentFields"), (0, u "[Ljava/io/ObjectStreamField;"), (0, .class_ 1104), (0, u "java/lang/String$CaseInsensitiveComparator"), (1, .class_ 1107), (0, u "java/io/Serializable"), (0, .class_ 1109), (0, u "java/lang/Comparable"), (0, .class_ 1111), (0, u "java/lang/constant/Constable"), (0, .class_ 1113), (0, u "java/lang/constant/ConstantDesc"), (2, u "serialVersionUID"), (0, u "J"), (3, u "REPL"), (0, u "C"), (2, u "LATIN1"), (1, u "UTF16")] 323

def k10m0 : Method := { name := "<init>", desc := "()V", sig := { parameters := [], returnType := none }, accessFlags := 1, code := none }
def k10c1 : Code := { maxStack := 1, maxLocals := 1, code := jdk_42_method_55_code, exceptionTable := #[], attributes := #[] }
def k10m1 : Method := { name := "isEmpty", desc := "()Z", sig := { parameters := [], returnType := some .boolean }, accessFlags := 1, code := some k10c1 }
def k10c2 : Code := { maxStack := 2, maxLocals := 3, code := jdk_42_method_66_code, exceptionTable := #[], attributes := #[] }
def k10m2 : Method := { name := "equals", desc := "(Ljava/lang/Object;)Z", sig := { parameters := [(.object "java/lang/Object")], returnType := some .boolean }, accessFlags := 1, code := some k10c2 }
/-- java/lang/String -/
def k10 : Class := { plain "java/lang/String" (some 0) with
  accessFlags := 49
  interfaces := #[5, 6, 7, 8, 9]
  cf := some (fileOf pool10 10 #[.nestMembers #[1103]] #[{ accessFlags := 1, nameIndex := 5, descriptorIndex := 6, attributes := #[] }, { accessFlags := 1, nameIndex := 692, descriptorIndex := 142, attributes := #[] }, { accessFlags := 1, nameIndex := 543, descriptorIndex := 573, attributes := #[] }] 49 2 #[1106, 1108, 575, 1110, 1112] #[{ accessFlags := 18, nameIndex := 13, descriptorIndex := 14, attributes := #[] }, { accessFlags := 18, nameIndex := 17, descriptorIndex := 18, attributes := #[] }, { accessFlags := 2, nameIndex := 21, descriptorIndex := 22, attributes := #[] }, { accessFlags := 2, nameIndex := 25, descriptorIndex := 26, attributes := #[] }, { accessFlags := 26, nameIndex := 1116, descriptorIndex := 1117, attributes := #[] }, { accessFlags := 24, nameIndex := 40, descriptorIndex := 26, attributes := #[] }, { accessFlags := 26, nameIndex := 1101, descriptorIndex := 1102, attributes := #[] }, { accessFlags := 26, nameIndex := 1121, descriptorIndex := 1122, attributes := #[] }, { accessFlags := 25, nameIndex := 599, descriptorIndex := 600, attributes := #[] }, { accessFlags := 24, nameIndex := 1125, descriptorIndex := 18, attributes := #[] }, { accessFlags := 24, nameIndex := 1127, descriptorIndex := 18, attributes := #[] }])
  fields := #[{ name := "value", type := (.array .byte), accessFlags := 18, slot := 0, constantValue := 0 }, { name := "coder", type := .byte, accessFlags := 18, slot := 1, constantValue := 0 }, { name := "hash", type := .int, accessFlags := 2, slot := 2, constantValue := 0 }, { name := "hashIsZero", type := .boolean, accessFlags := 2, slot := 3, constantValue := 0 }, { name := "serialVersionUID", type := .long, accessFlags := 26, slot := 0, constantValue := 0 }, { name := "COMPACT_STRINGS", type := .boolean, accessFlags := 24, slot := 1, constantValue := 0 }, { name := "serialPersistentFields", type := (.array (.object "java/io/ObjectStreamField")), accessFlags := 26, slot := 2, constantValue := 0 }, { name := "REPL", type := .char, accessFlags := 26, slot := 3, constantValue := 0 }, { name := "CASE_INSENSITIVE_ORDER", type := (.object "java/util/Comparator"), accessFlags := 25, slot := 4, constantValue := 0 }, { name := "LATIN1", type := .byte, accessFlags := 24, slot := 5, constantValue := 0 }, { name := "UTF16", type := .byte, accessFlags := 24, slot := 6, constantValue := 0 }]
  methods := #[k10m0, k10m1, k10m2]
  instanceTypes := #[(.array .byte), .byte, .int, .boolean]
  staticTypes := #[.long, .boolean, (.array (.object "java/io/ObjectStreamField")), .char, (.object "java/util/Comparator"), .byte, .byte]
  resolved := Array.replicate 1451 none
  statics := some 0 }

def pool11 : Array CpInfo := pool [(2, .class_ 4), (1, u "java/lang/Object"), (0, u "<init>"), (0, u "()V"), (0, .string 8), (0, u "a member name is null"), (0, .methodref 10 11), (0, .class_ 12), (0, .nameAndType 13 14), (0, u "java/util/Objects"), (0, u "requireNonNull"), (0, u "(Ljava/lang/Object;Ljava/lang/String;)Ljava/lang/Object;"), (0, .methodref 16 17), (0, .class_ 18), (0, .nameAndType 19 20), (0, u "java/lang/String"), (0, u "isEmpty"), (0, u "()Z"), (6, u "(Ljava/lang/String;)V"), (0, .methodref 29 30), (0, .class_ 31), (0, .nameAndType 32 27), (0, u "com/example/eraztun/eraztun/MemberNames"), (0, u "check"), (0, .methodref 16 34), (0, .nameAndType 35 36), (0, u "equals"), (0, u "(Ljava/lang/Object;)Z"), (11, u "checkHandedOver"), (0, u "(Ljava/lang/String;Ljava/lang/String;)V")] 25

def k11m0 : Method := { name := "<init>", desc := "()V", sig := { parameters := [], returnType := none }, accessFlags := 2, code := none }
def k11c1 : Code := { maxStack := 3, maxLocals := 1, code := prog_4_method_2_code, exceptionTable := #[], attributes := #[] }
def k11m1 : Method := { name := "check", desc := "(Ljava/lang/String;)V", sig := { parameters := [(.object "java/lang/String")], returnType := none }, accessFlags := 8, code := some k11c1 }
def k11c2 : Code := { maxStack := 3, maxLocals := 2, code := prog_4_method_3_code, exceptionTable := #[], attributes := #[] }
def k11m2 : Method := { name := "checkHandedOver", desc := "(Ljava/lang/String;Ljava/lang/String;)V", sig := { parameters := [(.object "java/lang/String"), (.object "java/lang/String")], returnType := none }, accessFlags := 8, code := some k11c2 }
/-- com/example/eraztun/eraztun/MemberNames -/
def k11 : Class := { plain "com/example/eraztun/eraztun/MemberNames" (some 0) with
  accessFlags := 32
  interfaces := #[]
  cf := some (fileOf pool11 29 #[] #[{ accessFlags := 2, nameIndex := 5, descriptorIndex := 6, attributes := #[] }, { accessFlags := 8, nameIndex := 32, descriptorIndex := 27, attributes := #[] }, { accessFlags := 8, nameIndex := 48, descriptorIndex := 49, attributes := #[] }] 32 2 #[] #[])
  fields := #[]
  methods := #[k11m0, k11m1, k11m2]
  instanceTypes := #[]
  staticTypes := #[]
  resolved := Array.replicate 75 none
  statics := none }

def pool12 : Array CpInfo := pool [(2, .class_ 4), (1, u "java/lang/Object"), (0, u "<init>"), (0, u "()V"), (35, .class_ 44), (1, u "java/util/Objects"), (0, u "requireNonNull"), (48, u "(Ljava/lang/Object;Ljava/lang/String;)Ljava/lang/Object;")] 89

def k12m0 : Method := { name := "<init>", desc := "()V", sig := { parameters := [], returnType := none }, accessFlags := 2, code := none }
def k12c1 : Code := { maxStack := 3, maxLocals := 2, code := jdk_31_method_11_code, exceptionTable := #[], attributes := #[] }
def k12m1 : Method := { name := "requireNonNull", desc := "(Ljava/lang/Object;Ljava/lang/String;)Ljava/lang/Object;", sig := { parameters := [(.object "java/lang/Object"), (.object "java/lang/String")], returnType := some (.object "java/lang/Object") }, accessFlags := 9, code := some k12c1 }
/-- java/util/Objects -/
def k12 : Class := { plain "java/util/Objects" (some 0) with
  accessFlags := 49
  interfaces := #[]
  cf := some (fileOf pool12 42 #[] #[{ accessFlags := 2, nameIndex := 5, descriptorIndex := 6, attributes := #[] }, { accessFlags := 9, nameIndex := 45, descriptorIndex := 94, attributes := #[] }] 49 2 #[] #[])
  fields := #[]
  methods := #[k12m0, k12m1]
  instanceTypes := #[]
  staticTypes := #[]
  resolved := Array.replicate 184 none
  statics := none }

def pool13 : Array CpInfo := pool [(4, .class_ 6), (1, u "java/lang/Object"), (0, u "<init>"), (0, u "()V"), (5, .class_ 16), (1, u "java/lang/StringLatin1"), (104, u "$assertionsDisabled"), (0, u "Z"), (98, .class_ 223), (1, u "java/lang/StringLatin1$LinesSpliterator"), (57, u "equals"), (0, u "([B[B)Z"), (107, .class_ 391), (0, u "java/lang/StringLatin1$CharsSpliterator")] 3

def k13m0 : Method := { name := "<init>", desc := "()V", sig := { parameters := [], returnType := none }, accessFlags := 0, code := none }
def k13c1 : Code := { maxStack := 3, maxLocals := 3, code := jdk_43_method_13_code, exceptionTable := #[], attributes := #[] }
def k13m1 : Method := { name := "equals", desc := "([B[B)Z", sig := { parameters := [(.array .byte), (.array .byte)], returnType := some .boolean }, accessFlags := 9, code := some k13c1 }
/-- java/lang/StringLatin1 -/
def k13 : Class := { plain "java/lang/StringLatin1" (some 0) with
  accessFlags := 48
  interfaces := #[]
  cf := some (fileOf pool13 14 #[.nestMembers #[390, 221]] #[{ accessFlags := 0, nameIndex := 7, descriptorIndex := 8, attributes := #[] }, { accessFlags := 9, nameIndex := 281, descriptorIndex := 282, attributes := #[] }] 48 4 #[] #[{ accessFlags := 4120, nameIndex := 121, descriptorIndex := 122, attributes := #[] }])
  fields := #[{ name := "$assertionsDisabled", type := .boolean, accessFlags := 4120, slot := 0, constantValue := 0 }]
  methods := #[k13m0, k13m1]
  instanceTypes := #[]
  staticTypes := #[.boolean]
  resolved := Array.replicate 395 none
  statics := none }

def pool14 : Array CpInfo := pool [(2, .class_ 4), (1, u "java/lang/Object"), (0, u "<init>"), (0, u "()V"), (1, .class_ 10), (1, u "java/lang/Number"), (2, .class_ 14), (0, u "java/io/Serializable"), (0, u "serialVersionUID"), (0, u "J")] 20

def k14m0 : Method := { name := "<init>", desc := "()V", sig := { parameters := [], returnType := none }, accessFlags := 1, code := none }
/-- java/lang/Number -/
def k14 : Class := { plain "java/lang/Number" (some 0) with
  accessFlags := 1057
  interfaces := #[5]
  cf := some (fileOf pool14 8 #[] #[{ accessFlags := 1, nameIndex := 5, descriptorIndex := 6, attributes := #[] }] 1057 2 #[13] #[{ accessFlags := 26, nameIndex := 15, descriptorIndex := 16, attributes := #[] }])
  fields := #[{ name := "serialVersionUID", type := .long, accessFlags := 26, slot := 0, constantValue := 0 }]
  methods := #[k14m0]
  instanceTypes := #[]
  staticTypes := #[.long]
  resolved := Array.replicate 37 none
  statics := none }

def pool15 : Array CpInfo := pool [(1, .class_ 2), (0, u "java/lang/Long"), (165, .long 9223372036854775808), (66, .class_ 237), (1, u "java/lang/Long$LongCache"), (33, .class_ 272), (0, u "java/lang/Number"), (2, u "value"), (0, u "J"), (25, .methodref 1 303), (0, .nameAndType 304 305), (0, u "compare"), (0, u "(JJ)I"), (55, u "TYPE"), (0, u "Ljava/lang/Class;"), (0, .class_ 364), (0, u "java/lang/Comparable"), (0, .class_ 366), (0, u "java/lang/constant/Constable"), (0, .class_ 368), (0, u "java/lang/constant/ConstantDesc"), (0, u "MIN_VALUE"), (1, u "MAX_VALUE"), (4, u "SIZE"), (0, u "I"), (1, u "BYTES"), (1, u "serialVersionUID"), (87, u "compareUnsigned")] 54

def k15c0 : Code := { maxStack := 4, maxLocals := 4, code := jdk_35_method_42_code, exceptionTable := #[], attributes := #[] }
def k15m0 : Method := { name := "compare", desc := "(JJ)I", sig := { parameters := [.long, .long], returnType := some .int }, accessFlags := 9, code := some k15c0 }
def k15c1 : Code := { maxStack := 6, maxLocals := 4, code := jdk_35_method_43_code, exceptionTable := #[], attributes := #[] }
def k15m1 : Method := { name := "compareUnsigned", desc := "(JJ)I", sig := { parameters := [.long, .long], returnType := some .int }, accessFlags := 9, code := some k15c1 }
/-- java/lang/Long -/
def k15 : Class := { plain "java/lang/Long" (some 14) with
  accessFlags := 49
  interfaces := #[6, 8, 9]
  cf := some (fileOf pool15 1 #[.nestMembers #[235]] #[{ accessFlags := 9, nameIndex := 304, descriptorIndex := 305, attributes := #[] }, { accessFlags := 9, nameIndex := 469, descriptorIndex := 305, attributes := #[] }] 49 271 #[363, 365, 367] #[{ accessFlags := 25, nameIndex := 369, descriptorIndex := 276, attributes := #[] }, { accessFlags := 25, nameIndex := 371, descriptorIndex := 276, attributes := #[] }, { accessFlags := 25, nameIndex := 361, descriptorIndex := 362, attributes := #[] }, { accessFlags := 18, nameIndex := 275, descriptorIndex := 276, attributes := #[] }, { accessFlags := 25, nameIndex := 376, descriptorIndex := 377, attributes := #[] }, { accessFlags := 25, nameIndex := 379, descriptorIndex := 377, attributes := #[] }, { accessFlags := 26, nameIndex := 381, descriptorIndex := 276, attributes := #[] }])
  fields := #[{ name := "MIN_VALUE", type := .long, accessFlags := 25, slot := 0, constantValue := 0 }, { name := "MAX_VALUE", type := .long, accessFlags := 25, slot := 1, constantValue := 0 }, { name := "TYPE", type := (.object "java/lang/Class"), accessFlags := 25, slot := 2, constantValue := 0 }, { name := "value", type := .long, accessFlags := 18, slot := 0, constantValue := 0 }, { name := "SIZE", type := .int, accessFlags := 25, slot := 3, constantValue := 0 }, { name := "BYTES", type := .int, accessFlags := 25, slot := 4, constantValue := 0 }, { name := "serialVersionUID", type := .long, accessFlags := 26, slot := 5, constantValue := 0 }]
  methods := #[k15m0, k15m1]
  instanceTypes := #[.long]
  staticTypes := #[.long, .long, (.object "java/lang/Class"), .int, .int, .long]
  resolved := Array.replicate 524 none
  statics := none }

def pool16 : Array CpInfo := pool [(2, .class_ 4), (1, u "java/lang/Object"), (0, u "<init>"), (0, u "()V"), (17, .class_ 26), (1, u "jdk/internal/util/Preconditions"), (28, .class_ 56), (0, u "jdk/internal/util/Preconditions$4"), (57, .class_ 115), (0, u "jdk/internal/util/Preconditions$1"), (7, u "SIOOBE_FORMATTER"), (0, u "Ljava/util/function/BiFunction;"), (0, .class_ 126), (0, u "jdk/internal/util/Preconditions$2"), (3, u "AIOOBE_FORMATTER"), (0, .class_ 132), (0, u "jdk/internal/util/Preconditions$3"), (3, u "IOOBE_FORMATTER")] 57

def k16m0 : Method := { name := "<init>", desc := "()V", sig := { parameters := [], returnType := none }, accessFlags := 1, code := none }
/-- jdk/internal/util/Preconditions -/
def k16 : Class := { plain "jdk/internal/util/Preconditions" (some 0) with
  accessFlags := 33
  interfaces := #[]
  cf := some (fileOf pool16 24 #[.nestMembers #[55, 131, 125, 114]] #[{ accessFlags := 1, nameIndex := 5, descriptorIndex := 6, attributes := #[] }] 33 2 #[] #[{ accessFlags := 25, nameIndex := 123, descriptorIndex := 124, attributes := #[] }, { accessFlags := 25, nameIndex := 130, descriptorIndex := 124, attributes := #[] }, { accessFlags := 25, nameIndex := 136, descriptorIndex := 124, attributes := #[] }])
  fields := #[{ name := "SIOOBE_FORMATTER", type := (.object "java/util/function/BiFunction"), accessFlags := 25, slot := 0, constantValue := 0 }, { name := "AIOOBE_FORMATTER", type := (.object "java/util/function/BiFunction"), accessFlags := 25, slot := 1, constantValue := 0 }, { name := "IOOBE_FORMATTER", type := (.object "java/util/function/BiFunction"), accessFlags := 25, slot := 2, constantValue := 0 }]
  methods := #[k16m0]
  instanceTypes := #[]
  staticTypes := #[(.object "java/util/function/BiFunction"), (.object "java/util/function/BiFunction"), (.object "java/util/function/BiFunction")]
  resolved := Array.replicate 194 none
  statics := some 1 }

def pool17 : Array CpInfo := pool [(9, u "<init>"), (6, .class_ 18), (1, u "java/lang/Object"), (0, u "()V"), (1, .class_ 23), (1, u "jdk/internal/util/ArraysSupport"), (0, u "LOG2_ARRAY_LONG_INDEX_SCALE"), (0, u "I"), (2, u "U"), (0, u "Ljdk/internal/misc/Unsafe;"), (8, u "BIG_ENDIAN"), (0, u "Z"), (8, u "LOG2_BYTE_BIT_SIZE"), (4, u "LOG2_ARRAY_INT_INDEX_SCALE"), (54, u "JLA"), (0, u "Ljdk/internal/access/JavaLangAccess;"), (11, u "LOG2_ARRAY_BOOLEAN_INDEX_SCALE"), (9, u "LOG2_ARRAY_BYTE_INDEX_SCALE"), (5, u "LOG2_ARRAY_CHAR_INDEX_SCALE"), (5, u "LOG2_ARRAY_SHORT_INDEX_SCALE"), (18, u "LOG2_ARRAY_FLOAT_INDEX_SCALE"), (24, u "LOG2_ARRAY_DOUBLE_INDEX_SCALE"), (89, u "T_BOOLEAN"), (2, u "T_CHAR"), (1, u "T_FLOAT"), (1, u "T_DOUBLE"), (1, u "T_BYTE"), (1, u "T_SHORT"), (1, u "T_INT"), (1, u "T_LONG"), (1, u "SOFT_MAX_ARRAY_LENGTH")] 83

def k17m0 : Method := { name := "<init>", desc := "()V", sig := { parameters := [], returnType := none }, accessFlags := 2, code := none }
/-- jdk/internal/util/ArraysSupport -/
def k17 : Class := { plain "jdk/internal/util/ArraysSupport" (some 0) with
  accessFlags := 33
  interfaces := #[]
  cf := some (fileOf pool17 21 #[] #[{ accessFlags := 2, nameIndex := 9, descriptorIndex := 19, attributes := #[] }] 33 16 #[] #[{ accessFlags := 24, nameIndex := 28, descriptorIndex := 29, attributes := #[] }, { accessFlags := 26, nameIndex := 38, descriptorIndex := 39, attributes := #[] }, { accessFlags := 25, nameIndex := 121, descriptorIndex := 25, attributes := #[] }, { accessFlags := 25, nameIndex := 131, descriptorIndex := 25, attributes := #[] }, { accessFlags := 25, nameIndex := 137, descriptorIndex := 25, attributes := #[] }, { accessFlags := 25, nameIndex := 143, descriptorIndex := 25, attributes := #[] }, { accessFlags := 25, nameIndex := 53, descriptorIndex := 25, attributes := #[] }, { accessFlags := 25, nameIndex := 24, descriptorIndex := 25, attributes := #[] }, { accessFlags := 25, nameIndex := 162, descriptorIndex := 25, attributes := #[] }, { accessFlags := 25, nameIndex := 187, descriptorIndex := 25, attributes := #[] }, { accessFlags := 26, nameIndex := 48, descriptorIndex := 25, attributes := #[] }, { accessFlags := 25, nameIndex := 277, descriptorIndex := 25, attributes := #[] }, { accessFlags := 25, nameIndex := 280, descriptorIndex := 25, attributes := #[] }, { accessFlags := 25, nameIndex := 282, descriptorIndex := 25, attributes := #[] }, { accessFlags := 25, nameIndex := 284, descriptorIndex := 25, attributes := #[] }, { accessFlags := 25, nameIndex := 286, descriptorIndex := 25, attributes := #[] }, { accessFlags := 25, nameIndex := 288, descriptorIndex := 25, attributes := #[] }, { accessFlags := 25, nameIndex := 290, descriptorIndex := 25, attributes := #[] }, { accessFlags := 25, nameIndex := 292, descriptorIndex := 25, attributes := #[] }, { accessFlags := 26, nameIndex := 108, descriptorIndex := 109, attributes := #[] }, { accessFlags := 25, nameIndex := 294, descriptorIndex := 25, attributes := #[] }])
  fields := #[{ name := "U", type := (.object "jdk/internal/misc/Unsafe"), accessFlags := 24, slot := 0, constantValue := 0 }, { name := "BIG_ENDIAN", type := .boolean, accessFlags := 26, slot := 1, constantValue := 0 }, { name := "LOG2_ARRAY_BOOLEAN_INDEX_SCALE", type := .int, accessFlags := 25, slot := 2, constantValue := 0 }, { name := "LOG2_ARRAY_BYTE_INDEX_SCALE", type := .int, accessFlags := 25, slot := 3, constantValue := 0 }, { name := "LOG2_ARRAY_CHAR_INDEX_SCALE", type := .int, accessFlags := 25, slot := 4, constantValue := 0 }, { name := "LOG2_ARRAY_SHORT_INDEX_SCALE", type := .int, accessFlags := 25, slot := 5, constantValue := 0 }, { name := "LOG2_ARRAY_INT_INDEX_SCALE", type := .int, accessFlags := 25, slot := 6, constantValue := 0 }, { name := "LOG2_ARRAY_LONG_INDEX_SCALE", type := .int, accessFlags := 25, slot := 7, constantValue := 0 }, { name := "LOG2_ARRAY_FLOAT_INDEX_SCALE", type := .int, accessFlags := 25, slot := 8, constantValue := 0 }, { name := "LOG2_ARRAY_DOUBLE_INDEX_SCALE", type := .int, accessFlags := 25, slot := 9, constantValue := 0 }, { name := "LOG2_BYTE_BIT_SIZE", type := .int, accessFlags := 26, slot := 10, constantValue := 0 }, { name := "T_BOOLEAN", type := .int, accessFlags := 25, slot := 11, constantValue := 0 }, { name := "T_CHAR", type := .int, accessFlags := 25, slot := 12, constantValue := 0 }, { name := "T_FLOAT", type := .int, accessFlags := 25, slot := 13, constantValue := 0 }, { name := "T_DOUBLE", type := .int, accessFlags := 25, slot := 14, constantValue := 0 }, { name := "T_BYTE", type := .int, accessFlags := 25, slot := 15, constantValue := 0 }, { name := "T_SHORT", type := .int, accessFlags := 25, slot := 16, constantValue := 0 }, { name := "T_INT", type := .int, accessFlags := 25, slot := 17, constantValue := 0 }, { name := "T_LONG", type := .int, accessFlags := 25, slot := 18, constantValue := 0 }, { name := "JLA", type := (.object "jdk/internal/access/JavaLangAccess"), accessFlags := 26, slot := 19, constantValue := 0 }, { name := "SOFT_MAX_ARRAY_LENGTH", type := .int, accessFlags := 25, slot := 20, constantValue := 0 }]
  methods := #[k17m0]
  instanceTypes := #[]
  staticTypes := #[(.object "jdk/internal/misc/Unsafe"), .boolean, .int, .int, .int, .int, .int, .int, .int, .int, .int, .int, .int, .int, .int, .int, .int, .int, .int, (.object "jdk/internal/access/JavaLangAccess"), .int]
  resolved := Array.replicate 378 none
  statics := none }

def pool18 : Array CpInfo := pool [(1, u "java/lang/Cloneable"), (0, .class_ 1), (0, u "java/lang/Object"), (0, .class_ 3)] 3

/-- java/lang/Cloneable -/
def k18 : Class := { plain "java/lang/Cloneable" (some 0) with
  accessFlags := 1537
  interfaces := #[]
  cf := some (fileOf pool18 2 #[] #[] 1537 4 #[] #[])
  fields := #[]
  methods := #[]
  instanceTypes := #[]
  staticTypes := #[]
  resolved := Array.replicate 8 none
  statics := none }

/-- the primitive byte -/
def k19 : Class := { plain "byte" none with kind := .primitive 'B', accessFlags := 0x411 }
/-- [B -/
def k20 : Class := { plain "[B" (some 0) with kind := .array 19 .byte, interfaces := #[18, 5], accessFlags := 1041 }

/-- the primitive int -/
def k21 : Class := { plain "int" none with kind := .primitive 'I', accessFlags := 0x411 }
/-- [I -/
def k22 : Class := { plain "[I" (some 0) with kind := .array 21 .int, interfaces := #[18, 5], accessFlags := 1041 }

def heap : Heap := #[{ cls := 10, slots := #[.long 0, .int 1, .null, .int 0, .null, .int 0, .int 0], vm := .statics 10 },
  { cls := 16, slots := #[.null, .null, .null], vm := .statics 16 }]
def classes : Array Class := #[k0, k1, k2, k3, k4, k5, k6, k7, k8, k9, k10, k11, k12, k13, k14, k15, k16, k17, k18, k19, k20, k21, k22]
def interned : List (Array UInt16 × Addr) := []
def slotsUsed : Nat := 10
def theMethod : MethodId := ⟨1, 2⟩
def args0 : Array Value := #[.long 5, .long 3, .long 7, .int 2]
def aboutOver (below : List Frame) : State where
  vm := { classes := classes, interned := interned.toArray }
  heap := heap
  slotsUsed := slotsUsed
  threads := #[{ frames := .invoking theMethod args0 :: below }]
def below0 : List Frame := [.native { method := ⟨0, 0⟩, args := #[] }]
def about1 : State := aboutOver below0
def p0 : Program := .bare "" "" ""
def e0 : Env := launch0.env 0 0 0
theorem w_frames : about1.frames = Frame.invoking theMethod args0 :: below0 := rfl
set_option maxRecDepth 65536 in
theorem w_args : argsFit about1.vm theMethod args0 = true := by decide +kernel
set_option maxRecDepth 65536 in
theorem w_heap : heapFits about1 = true := by decide +kernel
set_option maxRecDepth 65536 in
theorem w_runnable : about1.curStatus? = some .runnable := by decide +kernel
set_option maxRecDepth 65536 in
theorem w_alone : about1.alone = true := by decide +kernel
set_option maxRecDepth 65536 in
theorem w_named : about1.methodNamed? x = some theMethod := by decide +kernel
set_option maxRecDepth 65536 in
theorem w_hears : about1.hears theMethod below0 = true := by decide +kernel
set_option maxRecDepth 65536 in
theorem w_ripe : about1.ripe theMethod args0 below0 = true := by decide +kernel
theorem w_running : about1.status = .running := rfl
set_option maxRecDepth 65536 in
theorem w_room : about1.hasRoom e0.platform room_1 = true :=
  launch0.hasRoom_least _ room_1 (by decide +kernel) (by decide +kernel) (by decide +kernel) (by decide +kernel) (by decide +kernel) (by decide +kernel)
theorem allAtoms_all (ts : List Jvm.Cond) (a : Array Jvm.Value) (st : Jvm.State) : (allAtoms ts).before a st = ts.all (fun c => c.before a st) := by
  induction ts with
  | nil => rfl
  | cons c t ih =>
    show (Jvm.Cond.and c (allAtoms t)).before a st = _
    rw [Jvm.Cond.before_and, ih, List.all_cons]
def words1 : List Jvm.Cond := Jvm.Cond.code x code maxLocals ret :: tables_1
/-- a 'code' word, met by the world's own term for the bytes: nothing is compared byte by byte -/
theorem code_word {y : MethodName} {bytes : ByteArray} {mx : Nat} {rt : Option FieldType} {a : Array Value} {s : State} {m : MethodId} {meth : Method} {c : Code} (h1 : s.methodNamed? y = some m) (h2 : s.vm.method? m = some meth) (h3 : meth.code = some c) (h4 : c.code = bytes)
    (h5 : (c.maxLocals == mx && c.exceptionTable.isEmpty && decide (c.maxStack ≤ mostOperands) && decide (meth.sig.returnType = rt) && !meth.locks && decide (parseMethodDescriptor y.desc = some meth.sig)) = true) : (Jvm.Cond.code y bytes mx rt).before a s = true := by
  simp only [Bool.and_eq_true, beq_iff_eq, Bool.not_eq_true', decide_eq_true_eq] at h5
  obtain ⟨⟨⟨⟨⟨g1, g2⟩, g3⟩, g4⟩, g5⟩, g6⟩ := h5
  simp [Cond.before, Cond.holds, Cond.value, h1, h2, h3, h4, g1, g2, g3, g4, g5, g6]
def isCode : Jvm.Cond → Bool
  | .code _ _ _ _ => true
  | _ => false
theorem all_split {L : List Jvm.Cond} {P : Jvm.Cond → Bool} (h1 : L.all (fun c => isCode c || P c) = true) (h2 : ∀ c ∈ L.filter isCode, P c = true) : L.all P = true := by
  refine List.all_eq_true.mpr fun c hc => ?_
  have h := List.all_eq_true.mp h1 c hc
  rcases Bool.eq_false_or_eq_true (isCode c) with hi | hi
  · exact h2 c (List.mem_filter.mpr ⟨hc, hi⟩)
  · simpa [hi] using h
set_option maxRecDepth 65536 in
theorem w_c0 : (Jvm.Cond.code x code maxLocals ret).before args0 about1 = true := code_word (m := ⟨1, 2⟩) (meth := k1m2) (c := k1c2) (by decide +kernel) rfl rfl rfl (by decide +kernel)
set_option maxRecDepth 65536 in
theorem w_c1 : (Jvm.Cond.code ({ cls := "com/example/eraztun/eraztun/Ring$Stretch", name := "<init>", desc := "(JJLjava/lang/String;Ljava/lang/String;)V" } : Jvm.MethodName) prog_12_method_1_code (7 : Nat) (Option.none : Option Jvm.ClassFile.FieldType)).before args0 about1 = true := code_word (m := ⟨4, 0⟩) (meth := k4m0) (c := k4c0) (by decide +kernel) rfl rfl rfl (by decide +kernel)
set_option maxRecDepth 65536 in
theorem w_c2 : (Jvm.Cond.code ({ cls := "java/lang/Record", name := "<init>", desc := "()V" } : Jvm.MethodName) jdk_30_method_1_code (1 : Nat) (Option.none : Option Jvm.ClassFile.FieldType)).before args0 about1 = true := code_word (m := ⟨2, 0⟩) (meth := k2m0) (c := k2c0) (by decide +kernel) rfl rfl rfl (by decide +kernel)
set_option maxRecDepth 65536 in
theorem w_c3 : (Jvm.Cond.code ({ cls := "java/lang/Object", name := "<init>", desc := "()V" } : Jvm.MethodName) object_method_1_code (1 : Nat) (Option.none : Option Jvm.ClassFile.FieldType)).before args0 about1 = true := code_word (m := ⟨0, 0⟩) (meth := k0m0) (c := k0c0) (by decide +kernel) rfl rfl rfl (by decide +kernel)
set_option maxRecDepth 65536 in
theorem w_c4 : (Jvm.Cond.code ({ cls := "com/example/eraztun/eraztun/MemberNames", name := "checkHandedOver", desc := "(Ljava/lang/String;Ljava/lang/String;)V" } : Jvm.MethodName) prog_4_method_3_code (2 : Nat) (Option.none : Option Jvm.ClassFile.FieldType)).before args0 about1 = true := code_word (m := ⟨11, 2⟩) (meth := k11m2) (c := k11c2) (by decide +kernel) rfl rfl rfl (by decide +kernel)
set_option maxRecDepth 65536 in
theorem w_c5 : (Jvm.Cond.code ({ cls := "com/example/eraztun/eraztun/MemberNames", name := "check", desc := "(Ljava/lang/String;)V" } : Jvm.MethodName) prog_4_method_2_code (1 : Nat) (Option.none : Option Jvm.ClassFile.FieldType)).before args0 about1 = true := code_word (m := ⟨11, 1⟩) (meth := k11m1) (c := k11c1) (by decide +kernel) rfl rfl rfl (by decide +kernel)
set_option maxRecDepth 65536 in
theorem w_c6 : (Jvm.Cond.code ({ cls := "java/util/Objects", name := "requireNonNull", desc := "(Ljava/lang/Object;Ljava/lang/String;)Ljava/lang/Object;" } : Jvm.MethodName) jdk_31_method_11_code (2 : Nat) (Option.some (Jvm.ClassFile.FieldType.object "java/lang/Object"))).before args0 about1 = true := code_word (m := ⟨12, 1⟩) (meth := k12m1) (c := k12c1) (by decide +kernel) rfl rfl rfl (by decide +kernel)
set_option maxRecDepth 65536 in
theorem w_c7 : (Jvm.Cond.code ({ cls := "java/lang/String", name := "isEmpty", desc := "()Z" } : Jvm.MethodName) jdk_42_method_55_code (1 : Nat) (Option.some Jvm.ClassFile.FieldType.boolean)).before args0 about1 = true := code_word (m := ⟨10, 1⟩) (meth := k10m1) (c := k10c1) (by decide +kernel) rfl rfl rfl (by decide +kernel)
set_option maxRecDepth 65536 in
theorem w_c8 : (Jvm.Cond.code ({ cls := "java/lang/String", name := "equals", desc := "(Ljava/lang/Object;)Z" } : Jvm.MethodName) jdk_42_method_66_code (3 : Nat) (Option.some Jvm.ClassFile.FieldType.boolean)).before args0 about1 = true := code_word (m := ⟨10, 2⟩) (meth := k10m2) (c := k10c2) (by decide +kernel) rfl rfl rfl (by decide +kernel)
set_option maxRecDepth 65536 in
theorem w_c9 : (Jvm.Cond.code ({ cls := "java/lang/StringLatin1", name := "equals", desc := "([B[B)Z" } : Jvm.MethodName) jdk_43_method_13_code (3 : Nat) (Option.some Jvm.ClassFile.FieldType.boolean)).before args0 about1 = true := code_word (m := ⟨13, 1⟩) (meth := k13m1) (c := k13c1) (by decide +kernel) rfl rfl rfl (by decide +kernel)
set_option maxRecDepth 65536 in
theorem w_c10 : (Jvm.Cond.code ({ cls := "com/example/eraztun/eraztun/StretchContainsPinLaw", name := "unsignedLess", desc := "(JJ)Z" } : Jvm.MethodName) method_2_code (4 : Nat) (Option.some Jvm.ClassFile.FieldType.boolean)).before args0 about1 = true := code_word (m := ⟨1, 1⟩) (meth := k1m1) (c := k1c1) (by decide +kernel) rfl rfl rfl (by decide +kernel)
set_option maxRecDepth 65536 in
theorem w_c11 : (Jvm.Cond.code ({ cls := "com/example/eraztun/eraztun/Ring$Stretch", name := "contains", desc := "(J)Z" } : Jvm.MethodName) prog_12_method_2_code (5 : Nat) (Option.some Jvm.ClassFile.FieldType.boolean)).before args0 about1 = true := code_word (m := ⟨4, 1⟩) (meth := k4m1) (c := k4c1) (by decide +kernel) rfl rfl rfl (by decide +kernel)
set_option maxRecDepth 65536 in
theorem w_c12 : (Jvm.Cond.code ({ cls := "java/lang/Long", name := "compareUnsigned", desc := "(JJ)I" } : Jvm.MethodName) jdk_35_method_43_code (4 : Nat) (Option.some Jvm.ClassFile.FieldType.int)).before args0 about1 = true := code_word (m := ⟨15, 1⟩) (meth := k15m1) (c := k15c1) (by decide +kernel) rfl rfl rfl (by decide +kernel)
set_option maxRecDepth 65536 in
theorem w_c13 : (Jvm.Cond.code ({ cls := "java/lang/Long", name := "compare", desc := "(JJ)I" } : Jvm.MethodName) jdk_35_method_42_code (4 : Nat) (Option.some Jvm.ClassFile.FieldType.int)).before args0 about1 = true := code_word (m := ⟨15, 0⟩) (meth := k15m0) (c := k15c0) (by decide +kernel) rfl rfl rfl (by decide +kernel)
def codes1 : List Jvm.Cond := [Jvm.Cond.code x code maxLocals ret, Jvm.Cond.code ({ cls := "com/example/eraztun/eraztun/Ring$Stretch", name := "<init>", desc := "(JJLjava/lang/String;Ljava/lang/String;)V" } : Jvm.MethodName) prog_12_method_1_code (7 : Nat) (Option.none : Option Jvm.ClassFile.FieldType), Jvm.Cond.code ({ cls := "java/lang/Record", name := "<init>", desc := "()V" } : Jvm.MethodName) jdk_30_method_1_code (1 : Nat) (Option.none : Option Jvm.ClassFile.FieldType), Jvm.Cond.code ({ cls := "java/lang/Object", name := "<init>", desc := "()V" } : Jvm.MethodName) object_method_1_code (1 : Nat) (Option.none : Option Jvm.ClassFile.FieldType), Jvm.Cond.code ({ cls := "com/example/eraztun/eraztun/MemberNames", name := "checkHandedOver", desc := "(Ljava/lang/String;Ljava/lang/String;)V" } : Jvm.MethodName) prog_4_method_3_code (2 : Nat) (Option.none : Option Jvm.ClassFile.FieldType), Jvm.Cond.code ({ cls := "com/example/eraztun/eraztun/MemberNames", name := "check", desc := "(Ljava/lang/String;)V" } : Jvm.MethodName) prog_4_method_2_code (1 : Nat) (Option.none : Option Jvm.ClassFile.FieldType), Jvm.Cond.code ({ cls := "java/util/Objects", name := "requireNonNull", desc := "(Ljava/lang/Object;Ljava/lang/String;)Ljava/lang/Object;" } : Jvm.MethodName) jdk_31_method_11_code (2 : Nat) (Option.some (Jvm.ClassFile.FieldType.object "java/lang/Object")), Jvm.Cond.code ({ cls := "java/lang/String", name := "isEmpty", desc := "()Z" } : Jvm.MethodName) jdk_42_method_55_code (1 : Nat) (Option.some Jvm.ClassFile.FieldType.boolean), Jvm.Cond.code ({ cls := "java/lang/String", name := "equals", desc := "(Ljava/lang/Object;)Z" } : Jvm.MethodName) jdk_42_method_66_code (3 : Nat) (Option.some Jvm.ClassFile.FieldType.boolean), Jvm.Cond.code ({ cls := "java/lang/StringLatin1", name := "equals", desc := "([B[B)Z" } : Jvm.MethodName) jdk_43_method_13_code (3 : Nat) (Option.some Jvm.ClassFile.FieldType.boolean), Jvm.Cond.code ({ cls := "com/example/eraztun/eraztun/StretchContainsPinLaw", name := "unsignedLess", desc := "(JJ)Z" } : Jvm.MethodName) method_2_code (4 : Nat) (Option.some Jvm.ClassFile.FieldType.boolean), Jvm.Cond.code ({ cls := "com/example/eraztun/eraztun/Ring$Stretch", name := "contains", desc := "(J)Z" } : Jvm.MethodName) prog_12_method_2_code (5 : Nat) (Option.some Jvm.ClassFile.FieldType.boolean), Jvm.Cond.code ({ cls := "java/lang/Long", name := "compareUnsigned", desc := "(JJ)I" } : Jvm.MethodName) jdk_35_method_43_code (4 : Nat) (Option.some Jvm.ClassFile.FieldType.int), Jvm.Cond.code ({ cls := "java/lang/Long", name := "compare", desc := "(JJ)I" } : Jvm.MethodName) jdk_35_method_42_code (4 : Nat) (Option.some Jvm.ClassFile.FieldType.int)]
set_option maxRecDepth 65536 in
theorem codes_eq : words1.filter isCode = codes1 := rfl
theorem w_codes : ∀ c ∈ words1.filter isCode, c.before args0 about1 = true := by
  rw [codes_eq]
  intro c hc
  simp only [codes1, List.mem_cons, List.not_mem_nil, or_false] at hc
  rcases hc with rfl | rfl | rfl | rfl | rfl | rfl | rfl | rfl | rfl | rfl | rfl | rfl | rfl | rfl
  · exact w_c0
  · exact w_c1
  · exact w_c2
  · exact w_c3
  · exact w_c4
  · exact w_c5
  · exact w_c6
  · exact w_c7
  · exact w_c8
  · exact w_c9
  · exact w_c10
  · exact w_c11
  · exact w_c12
  · exact w_c13
set_option maxRecDepth 65536 in
theorem w_t1 : (words1.take 24).all (fun c => isCode c || c.before args0 about1) = true := by decide +kernel
set_option maxRecDepth 65536 in
theorem w_t2 : ((words1.drop 24).take 24).all (fun c => isCode c || c.before args0 about1) = true := by decide +kernel
set_option maxRecDepth 65536 in
theorem w_t3 : (((words1.drop 24).drop 24).take 24).all (fun c => isCode c || c.before args0 about1) = true := by decide +kernel
set_option maxRecDepth 65536 in
theorem w_t4 : (((words1.drop 24).drop 24).drop 24).all (fun c => isCode c || c.before args0 about1) = true := by decide +kernel
theorem w_tables : (allAtoms (Jvm.Cond.code x code maxLocals ret :: tables_1)).before args0 about1 = true := by
  rw [allAtoms_all]
  show words1.all (fun c => c.before args0 about1) = true
  refine all_split ?_ w_codes
  rw [← List.take_append_drop 24 words1, List.all_append, w_t1, ← List.take_append_drop 24 (words1.drop 24), List.all_append, w_t2, ← List.take_append_drop 24 ((words1.drop 24).drop 24), List.all_append, w_t3, w_t4]
  rfl
set_option maxRecDepth 65536 in
theorem w_rest : rest_1_c.before args0 about1 = true := by decide +kernel
set_option maxRecDepth 65536 in
theorem w_case : (Jvm.Cond.and given_1 narrow_1).before args0 about1 = true := by decide +kernel
set_option maxRecDepth 65536 in
theorem w_consts : constsHeld consts_1 about1 := Jvm.Lit.constsHeldB_iff.mp (by decide +kernel)
theorem w_applies : (headSpec (Jvm.Cond.code x code maxLocals ret :: tables_1) room_1).applies x e0.platform about1 = true :=
  (Spec.applies_iff w_frames).mpr ⟨w_running, w_runnable, w_alone, w_named, w_hears, w_ripe, w_room, w_tables⟩
theorem atStart : AtStart classFile x code maxLocals ret World_1 tables_1 room_1 Calls_1 rest_1 Pre_1 launch0 p0 e0 about1 theMethod args0 below0 :=
  ⟨lists_1, trivial, launch0.admits_env _ _ _, launch0.least_env, fairChoices_fair.cas, fairChoices_fair.clock, w_frames, w_args, w_heap, w_applies, ⟨w_consts, trivial⟩, w_rest, w_case⟩
end start1
theorem witness_1 : WitnessClaimed_1 := ⟨start1.p0, start1.e0, start1.about1, start1.theMethod, start1.args0, start1.below0, start1.atStart⟩
end Jvm.Pilot.@@N@@
