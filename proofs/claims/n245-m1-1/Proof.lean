import JvmDerived
import JvmDerived.Pilot.@@N@@Statement
import JvmDerived.Pilot.@@N@@Code
set_option linter.unusedVariables false
set_option linter.unusedSimpArgs false
namespace Jvm.RoadKit
open Sem ClassFile Op Lib Jvm.Stand Jvm.Free Jvm.LawKit
section New
variable {p : Program} {l : Launch} {e : Env} {R : Room} {s : State} {m : MethodId} {args : Array Value} {below : List Frame} {meth : Method} {c : Code} {T : State} {locs : List Loc} {cells slots : Nat}
theorem retI (X : Stand p l e R s m args below meth c T locs cells slots) (hx : p.tables.exec = Jvm.exec) {pc : Nat} {Ls : Array Slot} {z : Int32} {rest : List Value} (hret : meth.sig.returnType = some .int) (hd : decode c.code pc = .ok (.ireturn, 1)) {fs : List Frame}
    (hl : ∀ (f : JFrame) (acts : List Action), f.method = m → f.locked = none → f.entered = [] → (doReturn e (T.setTop f) acts (some (.int z))).1 = T.setFrames fs) : Steps p.tables e below (T.setTop (mkF m pc Ls (.int z :: rest))) (T.setFrames fs) := by
  have hm' : T.vm.method? m = some meth := X.method'
  have hn : narrow .int (.int z) = .int z := rfl
  show Steps p.tables e below (T.setTop { method := m, pc := pc, locals := Ls, stack := _ :: rest, locked := none }) _
  jvm_step X.here [X.here.top, hx, hd, hm', hret, hn]
  first | (intro acts; rw [hl _ acts rfl rfl rfl]) | rw [hl _ _ rfl rfl rfl]
  exact Steps.refl _
end New
end Jvm.RoadKit
namespace Jvm.Pilot.@@N@@
open Jvm Jvm.ClassFile Sem Op Lib Jvm.Free Jvm.Stand Jvm.LawKit Jvm.RoadKit Bundle Jvm.Pilot.@@N@@.Jvm.D
abbrev own_S (p : Program) (e : Env) (below : List Frame) (T : State) (f : JFrame) (t : State) : Prop := Steps p.tables e below (T.setTop f) t
abbrev own_ushr (x y : Int32) : Int32 := (x.toUInt32 >>> (y &&& 31).toUInt32).toInt32
abbrev own_ushrL (x : Int64) (y : Int32) : Int64 := (x.toUInt64 >>> (y &&& 63).toInt64.toUInt64).toInt64
def own_Qi (z : Int32) (h0 : Heap) (n0 : Nat) (v : Option Value) (h : Heap) (L : List Loc) : Prop := v = some (.int z) ∧ Fr n0 L ∧ h = h0
theorem own_wk {Z : State} {ag : Array Value} {d : Jvm.Cond} (hw : ∀ d ∈ tables_1, d.before ag Z = true) (i : Nat) (h : tables_1[i]? = some d) : d.before ag Z = true := hw d (List.mem_of_getElem? h)
theorem own_cast {α : Sort _} {P : α → Prop} {a b : α} (h : a = b) (k : P a) : P b := h ▸ k
theorem pn_0 : plainName "com/example/citeloom/citeloom/pdf/UnmappedGlyphs" = true := by first | (simp [plainName, overriddenIn]; done) | decide +kernel
theorem ef_1 (m : MethodId) (p0 : Int32) : entryFrame m #[(.int p0)] 1 = mkF m 0 #[.val (.int p0)] [] := by first | (simp [entryFrame, mkF, argsToLocals, Value.category]; done) | rfl
theorem d1_0 : decode prog_27_method_2_code 0 = .ok (.iload_n 0, 1) := by decide +kernel
theorem d1_1 : decode prog_27_method_2_code 1 = .ok (.bipush 32, 2) := by decide +kernel
theorem d1_3 : decode prog_27_method_2_code 3 = .ok (.if_icmp .ge 25, 3) := by decide +kernel
theorem d1_6 : decode prog_27_method_2_code 6 = .ok (.iload_n 0, 1) := by decide +kernel
theorem d1_7 : decode prog_27_method_2_code 7 = .ok (.bipush 9, 2) := by decide +kernel
theorem d1_9 : decode prog_27_method_2_code 9 = .ok (.if_icmp .eq 19, 3) := by decide +kernel
theorem d1_28 : decode prog_27_method_2_code 28 = .ok (.iconst 0, 1) := by decide +kernel
theorem d1_12 : decode prog_27_method_2_code 12 = .ok (.iload_n 0, 1) := by decide +kernel
theorem d1_13 : decode prog_27_method_2_code 13 = .ok (.bipush 10, 2) := by decide +kernel
theorem d1_15 : decode prog_27_method_2_code 15 = .ok (.if_icmp .eq 13, 3) := by decide +kernel
theorem d1_18 : decode prog_27_method_2_code 18 = .ok (.iload_n 0, 1) := by decide +kernel
theorem d1_19 : decode prog_27_method_2_code 19 = .ok (.bipush 13, 2) := by decide +kernel
theorem d1_21 : decode prog_27_method_2_code 21 = .ok (.if_icmp .eq 7, 3) := by decide +kernel
theorem d1_24 : decode prog_27_method_2_code 24 = .ok (.iconst 1, 1) := by decide +kernel
theorem d1_25 : decode prog_27_method_2_code 25 = .ok (.goto 4, 3) := by decide +kernel
def own_f1 (p0 : Int32) : Int32 := (if p0 < (32 : Int32) then (if p0 = (9 : Int32) then (0 : Int32) else (if p0 = (10 : Int32) then (0 : Int32) else (if p0 = (13 : Int32) then (0 : Int32) else (1 : Int32)))) else (0 : Int32))
def Q1 (Z : State) (p0 : Int32) (h0 : Heap) (n0 : Nat) (v : Option Value) (h : Heap) (L : List Loc) : Prop := v = some (.int (own_f1 p0)) ∧ Fr n0 L ∧ h = h0
theorem d1_29 : decode prog_27_method_2_code 29 = .ok (.ireturn, 1) := by decide +kernel
set_option maxRecDepth 65536 in
set_option maxHeartbeats 40000000 in
theorem rm1 (l : Launch) (Z : State) (ag : Array Value) (hw : ∀ d ∈ tables_1, d.before ag Z = true) (ws : List Jvm.Cond) (p0 : Int32) (h0 : Heap) (n0 : Nat) (Z0 : n0 ≤ h0.size) :
    MetFree l (⟨"com/example/citeloom/citeloom/pdf/UnmappedGlyphs", "is", "(C)Z"⟩ : MethodName) (head1 (Jvm.Cond.code (⟨"com/example/citeloom/citeloom/pdf/UnmappedGlyphs", "is", "(C)Z"⟩ : MethodName) prog_27_method_2_code 1 (some .boolean) :: ws) ({ frames := 0, cells := 0, slots := 0, locals := 0 } : Room)) (fun a U => a = #[(.int p0)] ∧ Z.Warmed39 U.vm ∧ U.heap = h0) (fun _ _ _ _ _ => True) (fun _ U o U' => ∃ v L, o = .returned v ∧ Q1 Z p0 h0 n0 v U'.heap L ∧ FrameEnd U o U' L ({ frames := 0, cells := 0, slots := 0, locals := 0 } : Room).cells ({ frames := 0, cells := 0, slots := 0, locals := 0 } : Room).slots) := by
  refine MetFree.of_bodySF (plainFor_of_name pn_0) hisR ?_
  intro p e s m args below meth c s₁ Bd hml0 hP hK
  obtain ⟨rfl, hZ, hh⟩ := hP
  have hx := Bd.exec
  have hby := Bd.bytes
  have hml : c.maxLocals = 1 := hml0
  have hown : s.vm.findClass "com/example/citeloom/citeloom/pdf/UnmappedGlyphs" = some m.cls := findClass_of_methodNamed Bd.named
  have hnm := (name_of_methodNamed Bd.named Bd.method).1
  have X0 : Stand p l e ({ frames := 0, cells := 0, slots := 0, locals := 0 } : Room) s m #[(.int p0)] below meth c s₁ [] 0 0 := Stand.of_body Bd
  have e0 : s₁.heap = h0 := by rw [← hh, Bd.state]; rfl
  have N0 := Fr.nil n0
  have pre0 : ∀ t, Steps p.tables e below (s₁.setTop (mkF m 0 #[.val (.int p0)] [])) t → Steps p.tables e below (s₁.setTop (entryFrame m #[(.int p0)] 1)) t := fun t k => castTop (ef_1 m p0) k
  obtain ⟨fs, hr, hrun, hended, hW, hsame⟩ := X0.leave (v := some (.int (own_f1 p0))) (fun h => by rw [Bd.returns] at h; cases h)
  refine ⟨_, _, pre0 _ ?_, hrun, hended, _, _, rfl, ?_, ⟨_, rfl⟩, hW, hsame.mono (by decide) (by decide)⟩
  · show own_S p e below s₁ (mkF m 0 #[.val (.int p0)] []) _
    refine XS.iloadN X0.here hx rfl (hb hby d1_0) rfl ?_
    show own_S p e below s₁ (mkF m 1 #[.val (.int p0)] [(.int p0)]) _
    refine XS.bipush X0.here hx rfl (hb hby d1_1) ?_
    by_cases hc1 : p0 < (32 : Int32)
    · show own_S p e below s₁ (mkF m 3 #[.val (.int p0)] [.int 32, (.int p0)]) _
      refine XS.icmpNo X0.here hx rfl (hb hby d1_3) rfl (tlt hc1).2.1 ?_
      show own_S p e below s₁ (mkF m 6 #[.val (.int p0)] []) _
      refine XS.iloadN X0.here hx rfl (hb hby d1_6) rfl ?_
      show own_S p e below s₁ (mkF m 7 #[.val (.int p0)] [(.int p0)]) _
      refine XS.bipush X0.here hx rfl (hb hby d1_7) ?_
      by_cases hc2 : p0 = (9 : Int32)
      · show own_S p e below s₁ (mkF m 9 #[.val (.int p0)] [.int 9, (.int p0)]) _
        refine XS.icmpYes X0.here hx rfl (pc0 := 9) (pc' := 28) rfl (hb hby d1_9) rfl (teq hc2).1 (by decide) (by decide) ?_
        show own_S p e below s₁ (mkF m 28 #[.val (.int p0)] []) _
        refine XS.iconst X0.here hx rfl (hb hby d1_28) ?_
        show own_S p e below s₁ (mkF m 29 #[.val (.int p0)] [.int 0]) _
        have q : (own_f1 p0) = (0 : Int32) := by unfold own_f1; rw [if_pos hc1, if_pos hc2]
        have hr := own_cast (P := fun z => ∀ (f : JFrame) (acts : List Action), f.method = m → f.locked = none → f.entered = [] → (doReturn e (s₁.setTop f) acts (some (.int z))).1 = s₁.setFrames fs) q hr
        exact retN X0 hx (t := .boolean) Bd.returns (by simp) (hb hby d1_29) hr
      · show own_S p e below s₁ (mkF m 9 #[.val (.int p0)] [.int 9, (.int p0)]) _
        refine XS.icmpNo X0.here hx rfl (hb hby d1_9) rfl (feq hc2).1 ?_
        show own_S p e below s₁ (mkF m 12 #[.val (.int p0)] []) _
        refine XS.iloadN X0.here hx rfl (hb hby d1_12) rfl ?_
        show own_S p e below s₁ (mkF m 13 #[.val (.int p0)] [(.int p0)]) _
        refine XS.bipush X0.here hx rfl (hb hby d1_13) ?_
        by_cases hc3 : p0 = (10 : Int32)
        · show own_S p e below s₁ (mkF m 15 #[.val (.int p0)] [.int 10, (.int p0)]) _
          refine XS.icmpYes X0.here hx rfl (pc0 := 15) (pc' := 28) rfl (hb hby d1_15) rfl (teq hc3).1 (by decide) (by decide) ?_
          show own_S p e below s₁ (mkF m 28 #[.val (.int p0)] []) _
          refine XS.iconst X0.here hx rfl (hb hby d1_28) ?_
          show own_S p e below s₁ (mkF m 29 #[.val (.int p0)] [.int 0]) _
          have q : (own_f1 p0) = (0 : Int32) := by unfold own_f1; rw [if_pos hc1, if_neg hc2, if_pos hc3]
          have hr := own_cast (P := fun z => ∀ (f : JFrame) (acts : List Action), f.method = m → f.locked = none → f.entered = [] → (doReturn e (s₁.setTop f) acts (some (.int z))).1 = s₁.setFrames fs) q hr
          exact retN X0 hx (t := .boolean) Bd.returns (by simp) (hb hby d1_29) hr
        · show own_S p e below s₁ (mkF m 15 #[.val (.int p0)] [.int 10, (.int p0)]) _
          refine XS.icmpNo X0.here hx rfl (hb hby d1_15) rfl (feq hc3).1 ?_
          show own_S p e below s₁ (mkF m 18 #[.val (.int p0)] []) _
          refine XS.iloadN X0.here hx rfl (hb hby d1_18) rfl ?_
          show own_S p e below s₁ (mkF m 19 #[.val (.int p0)] [(.int p0)]) _
          refine XS.bipush X0.here hx rfl (hb hby d1_19) ?_
          by_cases hc4 : p0 = (13 : Int32)
          · show own_S p e below s₁ (mkF m 21 #[.val (.int p0)] [.int 13, (.int p0)]) _
            refine XS.icmpYes X0.here hx rfl (pc0 := 21) (pc' := 28) rfl (hb hby d1_21) rfl (teq hc4).1 (by decide) (by decide) ?_
            show own_S p e below s₁ (mkF m 28 #[.val (.int p0)] []) _
            refine XS.iconst X0.here hx rfl (hb hby d1_28) ?_
            show own_S p e below s₁ (mkF m 29 #[.val (.int p0)] [.int 0]) _
            have q : (own_f1 p0) = (0 : Int32) := by unfold own_f1; rw [if_pos hc1, if_neg hc2, if_neg hc3, if_pos hc4]
            have hr := own_cast (P := fun z => ∀ (f : JFrame) (acts : List Action), f.method = m → f.locked = none → f.entered = [] → (doReturn e (s₁.setTop f) acts (some (.int z))).1 = s₁.setFrames fs) q hr
            exact retN X0 hx (t := .boolean) Bd.returns (by simp) (hb hby d1_29) hr
          · show own_S p e below s₁ (mkF m 21 #[.val (.int p0)] [.int 13, (.int p0)]) _
            refine XS.icmpNo X0.here hx rfl (hb hby d1_21) rfl (feq hc4).1 ?_
            show own_S p e below s₁ (mkF m 24 #[.val (.int p0)] []) _
            refine XS.iconst X0.here hx rfl (hb hby d1_24) ?_
            show own_S p e below s₁ (mkF m 25 #[.val (.int p0)] [.int 1]) _
            refine XS.goto X0.here hx rfl (pc0 := 25) (pc' := 29) rfl (hb hby d1_25) (by decide) (by decide) ?_
            show own_S p e below s₁ (mkF m 29 #[.val (.int p0)] [.int 1]) _
            have q : (own_f1 p0) = (1 : Int32) := by unfold own_f1; rw [if_pos hc1, if_neg hc2, if_neg hc3, if_neg hc4]
            have hr := own_cast (P := fun z => ∀ (f : JFrame) (acts : List Action), f.method = m → f.locked = none → f.entered = [] → (doReturn e (s₁.setTop f) acts (some (.int z))).1 = s₁.setFrames fs) q hr
            exact retN X0 hx (t := .boolean) Bd.returns (by simp) (hb hby d1_29) hr
    · show own_S p e below s₁ (mkF m 3 #[.val (.int p0)] [.int 32, (.int p0)]) _
      refine XS.icmpYes X0.here hx rfl (pc0 := 3) (pc' := 28) rfl (hb hby d1_3) rfl (flt hc1).2.1 (by decide) (by decide) ?_
      show own_S p e below s₁ (mkF m 28 #[.val (.int p0)] []) _
      refine XS.iconst X0.here hx rfl (hb hby d1_28) ?_
      show own_S p e below s₁ (mkF m 29 #[.val (.int p0)] [.int 0]) _
      have q : (own_f1 p0) = (0 : Int32) := by unfold own_f1; rw [if_neg hc1]
      have hr := own_cast (P := fun z => ∀ (f : JFrame) (acts : List Action), f.method = m → f.locked = none → f.entered = [] → (doReturn e (s₁.setTop f) acts (some (.int z))).1 = s₁.setFrames fs) q hr
      exact retN X0 hx (t := .boolean) Bd.returns (by simp) (hb hby d1_29) hr
  · show Q1 Z p0 h0 n0 _ s₁.heap _
    rw [e0]
    exact ⟨rfl, N0, rfl⟩
theorem pn_1 : plainName "com/example/citeloom/citeloom/pdf/UnmappedGlyphsIsPinLaw" = true := by first | (simp [plainName, overriddenIn]; done) | decide +kernel
theorem ef_2 (m : MethodId) (p0 : Int32) : entryFrame m #[(.int p0)] 1 = mkF m 0 #[.val (.int p0)] [] := by first | (simp [entryFrame, mkF, argsToLocals, Value.category]; done) | rfl
theorem d2_0 : decode method_2_code 0 = .ok (.iload_n 0, 1) := by decide +kernel
theorem d2_1 : decode method_2_code 1 = .ok (.bipush 8, 2) := by decide +kernel
theorem d2_3 : decode method_2_code 3 = .ok (.if_icmp .gt 5, 3) := by decide +kernel
theorem d2_8 : decode method_2_code 8 = .ok (.iload_n 0, 1) := by decide +kernel
theorem d2_9 : decode method_2_code 9 = .ok (.bipush 11, 2) := by decide +kernel
theorem d2_11 : decode method_2_code 11 = .ok (.if_icmp .eq 9, 3) := by decide +kernel
theorem d2_20 : decode method_2_code 20 = .ok (.iconst 1, 1) := by decide +kernel
theorem d2_14 : decode method_2_code 14 = .ok (.iload_n 0, 1) := by decide +kernel
theorem d2_15 : decode method_2_code 15 = .ok (.bipush 12, 2) := by decide +kernel
theorem d2_17 : decode method_2_code 17 = .ok (.if_icmp .ne 5, 3) := by decide +kernel
theorem d2_22 : decode method_2_code 22 = .ok (.iload_n 0, 1) := by decide +kernel
theorem d2_23 : decode method_2_code 23 = .ok (.bipush 14, 2) := by decide +kernel
theorem d2_25 : decode method_2_code 25 = .ok (.if_icmp .lt 11, 3) := by decide +kernel
theorem d2_36 : decode method_2_code 36 = .ok (.iconst 0, 1) := by decide +kernel
theorem d2_28 : decode method_2_code 28 = .ok (.iload_n 0, 1) := by decide +kernel
theorem d2_29 : decode method_2_code 29 = .ok (.bipush 31, 2) := by decide +kernel
theorem d2_31 : decode method_2_code 31 = .ok (.if_icmp .gt 5, 3) := by decide +kernel
theorem d2_34 : decode method_2_code 34 = .ok (.iconst 1, 1) := by decide +kernel
theorem d2_6 : decode method_2_code 6 = .ok (.iconst 1, 1) := by decide +kernel
def own_f2 (p0 : Int32) : Int32 := (if (8 : Int32) < p0 then (if p0 = (11 : Int32) then (1 : Int32) else (if p0 = (12 : Int32) then (1 : Int32) else (if p0 < (14 : Int32) then (0 : Int32) else (if (31 : Int32) < p0 then (0 : Int32) else (1 : Int32))))) else (1 : Int32))
def Q2 (Z : State) (p0 : Int32) (h0 : Heap) (n0 : Nat) (v : Option Value) (h : Heap) (L : List Loc) : Prop := v = some (.int (own_f2 p0)) ∧ Fr n0 L ∧ h = h0
theorem d2_21 : decode method_2_code 21 = .ok (.ireturn, 1) := by decide +kernel
theorem d2_37 : decode method_2_code 37 = .ok (.ireturn, 1) := by decide +kernel
theorem d2_35 : decode method_2_code 35 = .ok (.ireturn, 1) := by decide +kernel
theorem d2_7 : decode method_2_code 7 = .ok (.ireturn, 1) := by decide +kernel
set_option maxRecDepth 65536 in
set_option maxHeartbeats 40000000 in
theorem rm2 (l : Launch) (Z : State) (ag : Array Value) (hw : ∀ d ∈ tables_1, d.before ag Z = true) (ws : List Jvm.Cond) (p0 : Int32) (h0 : Heap) (n0 : Nat) (Z0 : n0 ≤ h0.size) :
    MetFree l (⟨"com/example/citeloom/citeloom/pdf/UnmappedGlyphsIsPinLaw", "expected", "(I)Z"⟩ : MethodName) (head1 (Jvm.Cond.code (⟨"com/example/citeloom/citeloom/pdf/UnmappedGlyphsIsPinLaw", "expected", "(I)Z"⟩ : MethodName) method_2_code 1 (some .boolean) :: ws) ({ frames := 0, cells := 0, slots := 0, locals := 0 } : Room)) (fun a U => a = #[(.int p0)] ∧ Z.Warmed39 U.vm ∧ U.heap = h0) (fun _ _ _ _ _ => True) (fun _ U o U' => ∃ v L, o = .returned v ∧ Q2 Z p0 h0 n0 v U'.heap L ∧ FrameEnd U o U' L ({ frames := 0, cells := 0, slots := 0, locals := 0 } : Room).cells ({ frames := 0, cells := 0, slots := 0, locals := 0 } : Room).slots) := by
  refine MetFree.of_bodySF (plainFor_of_name pn_1) hisR ?_
  intro p e s m args below meth c s₁ Bd hml0 hP hK
  obtain ⟨rfl, hZ, hh⟩ := hP
  have hx := Bd.exec
  have hby := Bd.bytes
  have hml : c.maxLocals = 1 := hml0
  have hown : s.vm.findClass "com/example/citeloom/citeloom/pdf/UnmappedGlyphsIsPinLaw" = some m.cls := findClass_of_methodNamed Bd.named
  have hnm := (name_of_methodNamed Bd.named Bd.method).1
  have X0 : Stand p l e ({ frames := 0, cells := 0, slots := 0, locals := 0 } : Room) s m #[(.int p0)] below meth c s₁ [] 0 0 := Stand.of_body Bd
  have e0 : s₁.heap = h0 := by rw [← hh, Bd.state]; rfl
  have N0 := Fr.nil n0
  have pre0 : ∀ t, Steps p.tables e below (s₁.setTop (mkF m 0 #[.val (.int p0)] [])) t → Steps p.tables e below (s₁.setTop (entryFrame m #[(.int p0)] 1)) t := fun t k => castTop (ef_2 m p0) k
  obtain ⟨fs, hr, hrun, hended, hW, hsame⟩ := X0.leave (v := some (.int (own_f2 p0))) (fun h => by rw [Bd.returns] at h; cases h)
  refine ⟨_, _, pre0 _ ?_, hrun, hended, _, _, rfl, ?_, ⟨_, rfl⟩, hW, hsame.mono (by decide) (by decide)⟩
  · show own_S p e below s₁ (mkF m 0 #[.val (.int p0)] []) _
    refine XS.iloadN X0.here hx rfl (hb hby d2_0) rfl ?_
    show own_S p e below s₁ (mkF m 1 #[.val (.int p0)] [(.int p0)]) _
    refine XS.bipush X0.here hx rfl (hb hby d2_1) ?_
    by_cases hc5 : (8 : Int32) < p0
    · show own_S p e below s₁ (mkF m 3 #[.val (.int p0)] [.int 8, (.int p0)]) _
      refine XS.icmpYes X0.here hx rfl (pc0 := 3) (pc' := 8) rfl (hb hby d2_3) rfl (tlt hc5).2.2.1 (by decide) (by decide) ?_
      show own_S p e below s₁ (mkF m 8 #[.val (.int p0)] []) _
      refine XS.iloadN X0.here hx rfl (hb hby d2_8) rfl ?_
      show own_S p e below s₁ (mkF m 9 #[.val (.int p0)] [(.int p0)]) _
      refine XS.bipush X0.here hx rfl (hb hby d2_9) ?_
      by_cases hc6 : p0 = (11 : Int32)
      · show own_S p e below s₁ (mkF m 11 #[.val (.int p0)] [.int 11, (.int p0)]) _
        refine XS.icmpYes X0.here hx rfl (pc0 := 11) (pc' := 20) rfl (hb hby d2_11) rfl (teq hc6).1 (by decide) (by decide) ?_
        show own_S p e below s₁ (mkF m 20 #[.val (.int p0)] []) _
        refine XS.iconst X0.here hx rfl (hb hby d2_20) ?_
        show own_S p e below s₁ (mkF m 21 #[.val (.int p0)] [.int 1]) _
        have q : (own_f2 p0) = (1 : Int32) := by unfold own_f2; rw [if_pos hc5, if_pos hc6]
        have hr := own_cast (P := fun z => ∀ (f : JFrame) (acts : List Action), f.method = m → f.locked = none → f.entered = [] → (doReturn e (s₁.setTop f) acts (some (.int z))).1 = s₁.setFrames fs) q hr
        exact retN X0 hx (t := .boolean) Bd.returns (by simp) (hb hby d2_21) hr
      · show own_S p e below s₁ (mkF m 11 #[.val (.int p0)] [.int 11, (.int p0)]) _
        refine XS.icmpNo X0.here hx rfl (hb hby d2_11) rfl (feq hc6).1 ?_
        show own_S p e below s₁ (mkF m 14 #[.val (.int p0)] []) _
        refine XS.iloadN X0.here hx rfl (hb hby d2_14) rfl ?_
        show own_S p e below s₁ (mkF m 15 #[.val (.int p0)] [(.int p0)]) _
        refine XS.bipush X0.here hx rfl (hb hby d2_15) ?_
        by_cases hc7 : p0 = (12 : Int32)
        · show own_S p e below s₁ (mkF m 17 #[.val (.int p0)] [.int 12, (.int p0)]) _
          refine XS.icmpNo X0.here hx rfl (hb hby d2_17) rfl (teq hc7).2 ?_
          show own_S p e below s₁ (mkF m 20 #[.val (.int p0)] []) _
          refine XS.iconst X0.here hx rfl (hb hby d2_20) ?_
          show own_S p e below s₁ (mkF m 21 #[.val (.int p0)] [.int 1]) _
          have q : (own_f2 p0) = (1 : Int32) := by unfold own_f2; rw [if_pos hc5, if_neg hc6, if_pos hc7]
          have hr := own_cast (P := fun z => ∀ (f : JFrame) (acts : List Action), f.method = m → f.locked = none → f.entered = [] → (doReturn e (s₁.setTop f) acts (some (.int z))).1 = s₁.setFrames fs) q hr
          exact retN X0 hx (t := .boolean) Bd.returns (by simp) (hb hby d2_21) hr
        · show own_S p e below s₁ (mkF m 17 #[.val (.int p0)] [.int 12, (.int p0)]) _
          refine XS.icmpYes X0.here hx rfl (pc0 := 17) (pc' := 22) rfl (hb hby d2_17) rfl (feq hc7).2 (by decide) (by decide) ?_
          show own_S p e below s₁ (mkF m 22 #[.val (.int p0)] []) _
          refine XS.iloadN X0.here hx rfl (hb hby d2_22) rfl ?_
          show own_S p e below s₁ (mkF m 23 #[.val (.int p0)] [(.int p0)]) _
          refine XS.bipush X0.here hx rfl (hb hby d2_23) ?_
          by_cases hc8 : p0 < (14 : Int32)
          · show own_S p e below s₁ (mkF m 25 #[.val (.int p0)] [.int 14, (.int p0)]) _
            refine XS.icmpYes X0.here hx rfl (pc0 := 25) (pc' := 36) rfl (hb hby d2_25) rfl (tlt hc8).1 (by decide) (by decide) ?_
            show own_S p e below s₁ (mkF m 36 #[.val (.int p0)] []) _
            refine XS.iconst X0.here hx rfl (hb hby d2_36) ?_
            show own_S p e below s₁ (mkF m 37 #[.val (.int p0)] [.int 0]) _
            have q : (own_f2 p0) = (0 : Int32) := by unfold own_f2; rw [if_pos hc5, if_neg hc6, if_neg hc7, if_pos hc8]
            have hr := own_cast (P := fun z => ∀ (f : JFrame) (acts : List Action), f.method = m → f.locked = none → f.entered = [] → (doReturn e (s₁.setTop f) acts (some (.int z))).1 = s₁.setFrames fs) q hr
            exact retN X0 hx (t := .boolean) Bd.returns (by simp) (hb hby d2_37) hr
          · show own_S p e below s₁ (mkF m 25 #[.val (.int p0)] [.int 14, (.int p0)]) _
            refine XS.icmpNo X0.here hx rfl (hb hby d2_25) rfl (flt hc8).1 ?_
            show own_S p e below s₁ (mkF m 28 #[.val (.int p0)] []) _
            refine XS.iloadN X0.here hx rfl (hb hby d2_28) rfl ?_
            show own_S p e below s₁ (mkF m 29 #[.val (.int p0)] [(.int p0)]) _
            refine XS.bipush X0.here hx rfl (hb hby d2_29) ?_
            by_cases hc9 : (31 : Int32) < p0
            · show own_S p e below s₁ (mkF m 31 #[.val (.int p0)] [.int 31, (.int p0)]) _
              refine XS.icmpYes X0.here hx rfl (pc0 := 31) (pc' := 36) rfl (hb hby d2_31) rfl (tlt hc9).2.2.1 (by decide) (by decide) ?_
              show own_S p e below s₁ (mkF m 36 #[.val (.int p0)] []) _
              refine XS.iconst X0.here hx rfl (hb hby d2_36) ?_
              show own_S p e below s₁ (mkF m 37 #[.val (.int p0)] [.int 0]) _
              have q : (own_f2 p0) = (0 : Int32) := by unfold own_f2; rw [if_pos hc5, if_neg hc6, if_neg hc7, if_neg hc8, if_pos hc9]
              have hr := own_cast (P := fun z => ∀ (f : JFrame) (acts : List Action), f.method = m → f.locked = none → f.entered = [] → (doReturn e (s₁.setTop f) acts (some (.int z))).1 = s₁.setFrames fs) q hr
              exact retN X0 hx (t := .boolean) Bd.returns (by simp) (hb hby d2_37) hr
            · show own_S p e below s₁ (mkF m 31 #[.val (.int p0)] [.int 31, (.int p0)]) _
              refine XS.icmpNo X0.here hx rfl (hb hby d2_31) rfl (flt hc9).2.2.1 ?_
              show own_S p e below s₁ (mkF m 34 #[.val (.int p0)] []) _
              refine XS.iconst X0.here hx rfl (hb hby d2_34) ?_
              show own_S p e below s₁ (mkF m 35 #[.val (.int p0)] [.int 1]) _
              have q : (own_f2 p0) = (1 : Int32) := by unfold own_f2; rw [if_pos hc5, if_neg hc6, if_neg hc7, if_neg hc8, if_neg hc9]
              have hr := own_cast (P := fun z => ∀ (f : JFrame) (acts : List Action), f.method = m → f.locked = none → f.entered = [] → (doReturn e (s₁.setTop f) acts (some (.int z))).1 = s₁.setFrames fs) q hr
              exact retN X0 hx (t := .boolean) Bd.returns (by simp) (hb hby d2_35) hr
    · show own_S p e below s₁ (mkF m 3 #[.val (.int p0)] [.int 8, (.int p0)]) _
      refine XS.icmpNo X0.here hx rfl (hb hby d2_3) rfl (flt hc5).2.2.1 ?_
      show own_S p e below s₁ (mkF m 6 #[.val (.int p0)] []) _
      refine XS.iconst X0.here hx rfl (hb hby d2_6) ?_
      show own_S p e below s₁ (mkF m 7 #[.val (.int p0)] [.int 1]) _
      have q : (own_f2 p0) = (1 : Int32) := by unfold own_f2; rw [if_neg hc5]
      have hr := own_cast (P := fun z => ∀ (f : JFrame) (acts : List Action), f.method = m → f.locked = none → f.entered = [] → (doReturn e (s₁.setTop f) acts (some (.int z))).1 = s₁.setFrames fs) q hr
      exact retN X0 hx (t := .boolean) Bd.returns (by simp) (hb hby d2_7) hr
  · show Q2 Z p0 h0 n0 _ s₁.heap _
    rw [e0]
    exact ⟨rfl, N0, rfl⟩
theorem own_key (c : Int32) : own_f1 c = own_f2 c := by
  simp only [own_f1, own_f2, Int32.lt_iff_toInt_lt, ← Int32.toInt_inj, show (32 : Int32).toInt = 32 from rfl, show (9 : Int32).toInt = 9 from rfl, show (10 : Int32).toInt = 10 from rfl, show (13 : Int32).toInt = 13 from rfl, show (8 : Int32).toInt = 8 from rfl, show (11 : Int32).toInt = 11 from rfl, show (12 : Int32).toInt = 12 from rfl, show (14 : Int32).toInt = 14 from rfl, show (31 : Int32).toInt = 31 from rfl]
  generalize c.toInt = z
  repeat' split
  all_goals first | rfl | (exfalso; omega)
theorem ef_0 (m : MethodId) (p0 : Int32) (p1 : Int32) : entryFrame m #[(.int p0), (.int p1)] maxLocals = mkF m 0 #[.val (.int p0), .val (.int p1), .unset, .unset] [] := by first | (simp [entryFrame, mkF, argsToLocals, Value.category, maxLocals]; done) | rfl
abbrev own_loc1 (p0 : Int32) (p1 : Int32) : Array Slot := #[.val (.int p0), .val (.int p1), .val (.int ((p0 &&& (63 : Int32)).toUInt32.toUInt16.toUInt32.toInt32)), .unset]
def own_g0_0 (p0 : Int32) (p1 : Int32) : Int32 := (if (p1 &&& (1 : Int32)) = (0 : Int32) then (p0.toUInt32.toUInt16.toUInt32.toInt32) else ((p0 &&& (63 : Int32)).toUInt32.toUInt16.toUInt32.toInt32))
theorem pd_0 : parseMethodDescriptor "(C)Z" = some ⟨[.char], some .boolean⟩ := by decide +kernel
theorem pd_1 : parseMethodDescriptor "(I)Z" = some ⟨[.int], some .boolean⟩ := by decide +kernel
def Q0 (n0 : Nat) (v : Option Value) (h : Heap) (L : List Loc) : Prop := v = some (.int 1) ∧ Fr n0 L
set_option maxRecDepth 65536 in
set_option maxHeartbeats 40000000 in
theorem rm0 (l : Launch) (Z : State) (ag : Array Value) (hw : ∀ d ∈ tables_1, d.before ag Z = true) (ws : List Jvm.Cond) (p0 : Int32) (p1 : Int32) (h0 : Heap) (n0 : Nat) (Z0 : n0 ≤ h0.size) :
    MetFree l x (head1 (Jvm.Cond.code x code maxLocals ret :: ws) room_1) (fun a U => a = #[(.int p0), (.int p1)] ∧ Z.Warmed39 U.vm ∧ U.heap = h0) (fun _ _ _ _ _ => True) (fun _ U o U' => ∃ v L, o = .returned v ∧ Q0 n0 v U'.heap L ∧ FrameEnd U o U' L 0 0) := by
  refine MetFree.of_bodySF (plainFor_of_name pn_1) hisR ?_
  intro p e s m args below meth c s₁ Bd hml0 hP hK
  obtain ⟨rfl, hZ, hh⟩ := hP
  have hx := Bd.exec
  have hby := Bd.bytes
  have hml : c.maxLocals = 4 := hml0
  have hown : s.vm.findClass "com/example/citeloom/citeloom/pdf/UnmappedGlyphsIsPinLaw" = some m.cls := findClass_of_methodNamed Bd.named
  have hnm := (name_of_methodNamed Bd.named Bd.method).1
  have X0 : Stand p l e room_1 s m #[(.int p0), (.int p1)] below meth c s₁ [] 0 0 := Stand.of_body Bd
  have e0 : s₁.heap = h0 := by rw [← hh, Bd.state]; rfl
  have N0 := Fr.nil n0
  have pre0 : ∀ t, Steps p.tables e below (s₁.setTop (mkF m 0 #[.val (.int p0), .val (.int p1), .unset, .unset] [])) t → Steps p.tables e below (s₁.setTop (entryFrame m #[(.int p0), (.int p1)] maxLocals)) t := fun t k => castTop (ef_0 m p0 p1) k
  have sg11 : ∀ target, Steps p.tables e below (s₁.setTop (mkF m 18 #[.val (.int p0), .val (.int p1), .val (.int (own_g0_0 p0 p1)), .unset] [])) target → Steps p.tables e below (s₁.setTop (mkF m 0 #[.val (.int p0), .val (.int p1), .unset, .unset] [])) target := by
    intro target kt
    show own_S p e below s₁ (mkF m 0 #[.val (.int p0), .val (.int p1), .unset, .unset] []) _
    refine XS.iloadN X0.here hx rfl (hb hby at_0) rfl ?_
    show own_S p e below s₁ (mkF m 1 #[.val (.int p0), .val (.int p1), .unset, .unset] [(.int p1)]) _
    refine XS.iconst X0.here hx rfl (hb hby at_1) ?_
    show own_S p e below s₁ (mkF m 2 #[.val (.int p0), .val (.int p1), .unset, .unset] [.int 1, (.int p1)]) _
    refine XS.iand X0.here hx rfl (hb hby at_2) rfl ?_
    by_cases hc10 : (p1 &&& (1 : Int32)) = (0 : Int32)
    · show own_S p e below s₁ (mkF m 3 #[.val (.int p0), .val (.int p1), .unset, .unset] [(.int (p1 &&& (1 : Int32)))]) _
      refine XS.ifYes X0.here hx rfl (pc0 := 3) (pc' := 15) rfl (hb hby at_3) rfl ((if0 _ _).trans (teq hc10).1) (by decide) (by decide) ?_
      show own_S p e below s₁ (mkF m 15 #[.val (.int p0), .val (.int p1), .unset, .unset] []) _
      refine XS.iloadN X0.here hx rfl (hb hby at_15) rfl ?_
      show own_S p e below s₁ (mkF m 16 #[.val (.int p0), .val (.int p1), .unset, .unset] [(.int p0)]) _
      refine XS.i2c X0.here hx rfl (hb hby at_16) rfl ?_
      show own_S p e below s₁ (mkF m 17 #[.val (.int p0), .val (.int p1), .unset, .unset] [(.int (p0.toUInt32.toUInt16.toUInt32.toInt32))]) _
      refine XS.istoreN X0.here hx rfl (hb hby at_17) rfl (l' := #[.val (.int p0), .val (.int p1), .val (.int (p0.toUInt32.toUInt16.toUInt32.toInt32)), .unset]) rfl ?_
      show own_S p e below s₁ (mkF m 18 #[.val (.int p0), .val (.int p1), .val (.int (p0.toUInt32.toUInt16.toUInt32.toInt32)), .unset] []) _
      have kt := own_cast (P := fun z => Steps p.tables e below (s₁.setTop (mkF m 18 #[.val (.int p0), .val (.int p1), .val (.int z), .unset] [])) target) (show (own_g0_0 p0 p1) = (p0.toUInt32.toUInt16.toUInt32.toInt32) from (by unfold own_g0_0; rw [if_pos hc10])) kt
      exact kt
    · show own_S p e below s₁ (mkF m 3 #[.val (.int p0), .val (.int p1), .unset, .unset] [(.int (p1 &&& (1 : Int32)))]) _
      refine XS.ifNo X0.here hx rfl (hb hby at_3) rfl ((if0 _ _).trans (feq hc10).1) ?_
      show own_S p e below s₁ (mkF m 6 #[.val (.int p0), .val (.int p1), .unset, .unset] []) _
      refine XS.iloadN X0.here hx rfl (hb hby at_6) rfl ?_
      show own_S p e below s₁ (mkF m 7 #[.val (.int p0), .val (.int p1), .unset, .unset] [(.int p0)]) _
      refine XS.bipush X0.here hx rfl (hb hby at_7) ?_
      show own_S p e below s₁ (mkF m 9 #[.val (.int p0), .val (.int p1), .unset, .unset] [.int 63, (.int p0)]) _
      refine XS.iand X0.here hx rfl (hb hby at_9) rfl ?_
      show own_S p e below s₁ (mkF m 10 #[.val (.int p0), .val (.int p1), .unset, .unset] [(.int (p0 &&& (63 : Int32)))]) _
      refine XS.i2c X0.here hx rfl (hb hby at_10) rfl ?_
      show own_S p e below s₁ (mkF m 11 #[.val (.int p0), .val (.int p1), .unset, .unset] [(.int ((p0 &&& (63 : Int32)).toUInt32.toUInt16.toUInt32.toInt32))]) _
      refine XS.istoreN X0.here hx rfl (hb hby at_11) rfl (l' := (own_loc1 p0 p1)) rfl ?_
      show own_S p e below s₁ (mkF m 12 (own_loc1 p0 p1) []) _
      refine XS.goto X0.here hx rfl (pc0 := 12) (pc' := 18) rfl (hb hby at_12) (by decide) (by decide) ?_
      show own_S p e below s₁ (mkF m 18 (own_loc1 p0 p1) []) _
      have kt := own_cast (P := fun z => Steps p.tables e below (s₁.setTop (mkF m 18 #[.val (.int p0), .val (.int p1), .val (.int z), .unset] [])) target) (show (own_g0_0 p0 p1) = ((p0 &&& (63 : Int32)).toUInt32.toUInt16.toUInt32.toInt32) from (by unfold own_g0_0; rw [if_neg hc10])) kt
      exact kt
  obtain ⟨_, _, ⟨T12, L12, k12, n12⟩, -, X12, ⟨Lc12, hQ12, l12, y12, z12⟩, st12⟩ := Jvm.LawKit.callS X0 hx (y := (⟨"com/example/citeloom/citeloom/pdf/UnmappedGlyphs", "is", "(C)Z"⟩ : MethodName)) hown (mvT hZ (hw _ (List.mem_of_getElem? (i := 0) rfl))) (mvT hZ (hw _ (List.mem_of_getElem? (i := 1) rfl))) (mvT hZ (hw _ (List.mem_of_getElem? (i := 2) rfl))) (mvT hZ (hw _ (List.mem_of_getElem? (i := 3) rfl))) (by decide) (backOf (W := 0) (rm1 l Z ag hw [] (own_g0_0 p0 p1)  h0 n0 Z0 ) hZ (hw _ (List.mem_of_getElem? (i := 3) rfl)) (hw _ (List.mem_of_getElem? (i := 2) rfl)) (by decide) (by decide)) (g := (mkF m 21 #[.val (.int p0), .val (.int p1), .val (.int (own_g0_0 p0 p1)), .val (.int (own_g0_0 p0 p1))] [(.int (own_g0_0 p0 p1))])) rfl (by rw [hml]; rfl) (argsL := [(.int (own_g0_0 p0 p1))]) (rest := []) (lenOf pd_0 rfl) rfl (by show 2 * 0 + _ ≤ _; exact Nat.le_of_eq rfl) (hb hby at_21) (fun _ _ => ⟨rfl, e0, (by decide : 0 + 0 ≤ _), (by decide : 0 + 0 ≤ _)⟩)
  dsimp only [Pt.U, Pt.locs, Pt.cells, Pt.slots] at X12 l12 y12 z12 st12 hQ12
  subst l12 y12 z12
  obtain ⟨rfl, N12q, e12⟩ := hQ12
  have N12 := Fr.app N0 N12q
  obtain ⟨_, _, ⟨T13, L13, k13, n13⟩, -, X13, ⟨Lc13, hQ13, l13, y13, z13⟩, st13⟩ := Jvm.LawKit.callS X12 hx (y := (⟨"com/example/citeloom/citeloom/pdf/UnmappedGlyphsIsPinLaw", "expected", "(I)Z"⟩ : MethodName)) hown (mvT hZ (hw _ (List.mem_of_getElem? (i := 4) rfl))) (mvT hZ (hw _ (List.mem_of_getElem? (i := 5) rfl))) (mvT hZ (hw _ (List.mem_of_getElem? (i := 6) rfl))) (mvT hZ (hw _ (List.mem_of_getElem? (i := 7) rfl))) (by decide) (backOf (W := 1) (rm2 l Z ag hw [] (own_g0_0 p0 p1)  h0 n0 Z0 ) hZ (hw _ (List.mem_of_getElem? (i := 7) rfl)) (hw _ (List.mem_of_getElem? (i := 6) rfl)) (by decide) (by decide)) (g := (mkF m 25 #[.val (.int p0), .val (.int p1), .val (.int (own_g0_0 p0 p1)), .val (.int (own_g0_0 p0 p1))] [(.int (own_g0_0 p0 p1)), (.int (own_f1 (own_g0_0 p0 p1)))])) rfl (by rw [hml]; rfl) (argsL := [(.int (own_g0_0 p0 p1))]) (rest := [(.int (own_f1 (own_g0_0 p0 p1)))]) (lenOf pd_1 rfl) rfl (by show 2 * 0 + _ ≤ _; exact Nat.le_of_eq rfl) (hb hby at_25) (fun _ _ => ⟨rfl, e12, (by decide : 0 + 0 ≤ _), (by decide : 0 + 0 ≤ _)⟩)
  dsimp only [Pt.U, Pt.locs, Pt.cells, Pt.slots] at X13 l13 y13 z13 st13 hQ13
  subst l13 y13 z13
  obtain ⟨rfl, N13q, e13⟩ := hQ13
  have N13 := Fr.app N12 N13q
  obtain ⟨fs, hr, hrun, hended, hW, hsame⟩ := X13.leave (v := some (.int (1 : Int32))) (fun h => by rw [Bd.returns] at h; cases h)
  refine ⟨_, _, pre0 _ ?_, hrun, hended, _, _, rfl, ?_, ⟨_, rfl⟩, hW, hsame.mono (by decide) (by decide)⟩
  · show own_S p e below s₁ (mkF m 0 #[.val (.int p0), .val (.int p1), .unset, .unset] []) _
    refine sg11 _ ?_
    show own_S p e below s₁ (mkF m 18 #[.val (.int p0), .val (.int p1), .val (.int (own_g0_0 p0 p1)), .unset] []) _
    refine XS.iloadN X0.here hx rfl (hb hby at_18) rfl ?_
    show own_S p e below s₁ (mkF m 19 #[.val (.int p0), .val (.int p1), .val (.int (own_g0_0 p0 p1)), .unset] [(.int (own_g0_0 p0 p1))]) _
    refine XS.istoreN X0.here hx rfl (hb hby at_19) rfl (l' := #[.val (.int p0), .val (.int p1), .val (.int (own_g0_0 p0 p1)), .val (.int (own_g0_0 p0 p1))]) rfl ?_
    show own_S p e below s₁ (mkF m 20 #[.val (.int p0), .val (.int p1), .val (.int (own_g0_0 p0 p1)), .val (.int (own_g0_0 p0 p1))] []) _
    refine XS.iloadN X0.here hx rfl (hb hby at_20) rfl ?_
    show own_S p e below s₁ (mkF m 21 #[.val (.int p0), .val (.int p1), .val (.int (own_g0_0 p0 p1)), .val (.int (own_g0_0 p0 p1))] [(.int (own_g0_0 p0 p1))]) _
    refine st12 _ ?_
    show own_S p e below T12 (mkF m 24 #[.val (.int p0), .val (.int p1), .val (.int (own_g0_0 p0 p1)), .val (.int (own_g0_0 p0 p1))] [(.int (own_f1 (own_g0_0 p0 p1)))]) _
    refine XS.iloadN X12.here hx rfl (hb hby at_24) rfl ?_
    show own_S p e below T12 (mkF m 25 #[.val (.int p0), .val (.int p1), .val (.int (own_g0_0 p0 p1)), .val (.int (own_g0_0 p0 p1))] [(.int (own_g0_0 p0 p1)), (.int (own_f1 (own_g0_0 p0 p1)))]) _
    refine st13 _ ?_
    show own_S p e below T13 (mkF m 28 #[.val (.int p0), .val (.int p1), .val (.int (own_g0_0 p0 p1)), .val (.int (own_g0_0 p0 p1))] [(.int (own_f2 (own_g0_0 p0 p1))), (.int (own_f1 (own_g0_0 p0 p1)))]) _
    refine XS.icmpNo X13.here hx rfl (hb hby at_28) rfl (teq (show (own_f1 (own_g0_0 p0 p1)) = (own_f2 (own_g0_0 p0 p1)) from (own_key (own_g0_0 p0 p1)))).2 ?_
    show own_S p e below T13 (mkF m 31 #[.val (.int p0), .val (.int p1), .val (.int (own_g0_0 p0 p1)), .val (.int (own_g0_0 p0 p1))] []) _
    refine XS.iconst X13.here hx rfl (hb hby at_31) ?_
    show own_S p e below T13 (mkF m 32 #[.val (.int p0), .val (.int p1), .val (.int (own_g0_0 p0 p1)), .val (.int (own_g0_0 p0 p1))] [.int 1]) _
    refine XS.goto X13.here hx rfl (pc0 := 32) (pc' := 36) rfl (hb hby at_32) (by decide) (by decide) ?_
    show own_S p e below T13 (mkF m 36 #[.val (.int p0), .val (.int p1), .val (.int (own_g0_0 p0 p1)), .val (.int (own_g0_0 p0 p1))] [.int 1]) _
    exact retN X13 hx (t := .boolean) Bd.returns (by simp) (hb hby at_36) hr
  · exact ⟨rfl, N13⟩
set_option maxRecDepth 65536 in
set_option maxHeartbeats 40000000 in
theorem comes_1 {Post : Tables → Env → Array Value → State → Outcome → State → Prop} (hpost : ∀ tb e args s v u, (limb_1_1.after args s (.returned v) u = true ∧ limb_1_2.after args s (.returned v) u = true ∧ True) → FrameEnd s (.returned v) u (Jvm.fieldLocs frame_1_writes args s ++ Jvm.arrayLocs frame_1_arrays args s ++ Jvm.staticLocs frame_1_statics s) 0 0 → Post tb e args s (.returned v) u) :
    ArmFor flags0 classFile x code maxLocals ret World_1 tables_1 room_1 Calls_1 rest_1 Pre_1 Post := by
  intro l hfl _ _ p e ha hc hk s m args below hf hA hF happ hP
  obtain ⟨hcalls, hrest, hpre⟩ := hP
  obtain ⟨-, -, -, hnamed, -, -, -, hat⟩ := (Spec.applies_iff hf).mp happ
  obtain ⟨hg, hn⟩ := and_e (Cond.before_iff.mp (show (Jvm.Cond.and given_1 narrow_1).before args s = true from hpre))
  obtain ⟨g14, g15⟩ := and_e hg
  obtain ⟨g16, g17⟩ := and_e g15
  obtain ⟨w0, w1, rfl⟩ : ∃ w0 w1 : Value, args = #[w0, w1] := by
    have hs : args.size = 2 := by simpa [Cond.value, given_1] using g14
    obtain ⟨L⟩ := args
    match L, hs with
    | [w0, w1], _ => exact ⟨w0, w1, rfl⟩
  have hw := fun d (hd : d ∈ tables_1) => atoms_spec (ws := Jvm.Cond.code x code maxLocals ret :: tables_1) hat d (List.mem_cons_of_mem _ hd)
  have hfit : Fit s := fun {y c} hc i hi => by
    obtain ⟨ha, rfl⟩ := Array.getElem?_eq_some_iff.mp hc
    have q := List.all_eq_true.mp ((Array.all_eq_true_iff_forall_mem.mp hF) _ (Array.getElem_mem ha)) i (List.mem_range.mpr hi)
    simpa [Array.getElem?_eq_getElem hi] using q
  obtain ⟨i0, ei0⟩ := is_v g16
  obtain rfl : w0 = (.int i0) := Option.some.inj ei0
  obtain ⟨i1, ei1⟩ := is_v g17
  obtain rfl : w1 = (.int i1) := Option.some.inj ei1
  obtain ⟨n, o, h1, h2, h3, _, L, rfl, ⟨rfl, N⟩, hq⟩ := rm0 l s _ hw tables_1 i0 i1 s.heap s.heap.size (Nat.le_refl _)  p e ha hc hk s m _ below hf ((Spec.applies_iff_loose hf).mp happ).1 ⟨rfl, State.Warmed39.refl s, rfl⟩ trivial
  refine ⟨n, _, h1, h2, h3, hpost _ _ _ _ _ _ ⟨Cond.after_iff.mpr rfl, Cond.after_iff.mpr (eq_i res_at (Term.int_eval (1)) rfl), trivial⟩ ⟨hq.1, hq.2.1, (hq.2.2.sift fun y hy => Or.inr (N y hy)).mono (by decide) (by decide)⟩⟩
theorem main_1_1 : Claimed_1_1 := comes_1 fun _ _ _ _ _ _ h hF => ⟨h.1, hF⟩
theorem main_1_2 : Claimed_1_2 := comes_1 fun _ _ _ _ _ _ h hF => ⟨h.2.1, hF⟩
end Jvm.Pilot.@@N@@
namespace Jvm.Pilot.@@N@@
open Jvm Jvm.ClassFile Sem Op Lib Jvm.Free Jvm.Stand Jvm.Pilot.@@N@@.Jvm.D
/-! MADE BY PROGRAM (witnessworld.py) out of the Statement's table words and the real class files: 9 classes; the members and pool entries that the words name. The judged class is class 1, her method 2. -/
namespace start1
open Jvm.ClassFile
def u (s : String) : CpInfo := .utf8 (stringToUtf16 s)
/-- a pool by its gaps: so many unusable entries, then the entry; so many at the end -/
def gap : Nat → List CpInfo → List CpInfo
  | 0, r => r
  | n + 1, r => .unusable :: gap n r
def poolList (es : List (Nat × CpInfo)) (last : Nat) : List CpInfo := es.foldr (fun e r => gap e.1 (e.2 :: r)) (gap last [])
def pool (es : List (Nat × CpInfo)) (last : Nat) : Array CpInfo := ⟨poolList es last⟩
def fileOf (pool : Array CpInfo) (this : Nat) (attrs : Array Attribute := #[]) (ms : Array MethodInfo := #[]) (fl : Nat := 33) (sup : Nat := 0) (ifs : Array Nat := #[]) (fds : Array FieldInfo := #[]) : ClassFile where
  minorVersion := 0
  majorVersion := 65
  constantPool := pool
  accessFlags := fl
  thisClass := this
  superClass := sup
  interfaces := ifs
  fields := fds
  methods := ms
  attributes := attrs
def plain (name : String) (sup : Option ClassId) : Class where
  name := name
  kind := .ordinary
  loader := none
  accessFlags := 33
  super := sup
  interfaces := #[]
  cf := none
  fields := #[]
  methods := #[]
  instanceTypes := #[]
  staticTypes := #[]
  resolved := #[]
  callSites := []
  init := .initialized
  statics := none
  mirror := none

def pool0 : Array CpInfo := pool [(5, u "<init>"), (0, u "()V"), (1, .class_ 10), (1, u "java/lang/Object")] 113

def k0m0 : Method := { name := "<init>", desc := "()V", sig := { parameters := [], returnType := none }, accessFlags := 1, code := none }
/-- java/lang/Object -/
def k0 : Class := { plain "java/lang/Object" none with
  accessFlags := 33
  interfaces := #[]
  cf := some (fileOf pool0 8 #[] #[{ accessFlags := 1, nameIndex := 5, descriptorIndex := 6, attributes := #[] }] 33 0 #[] #[])
  fields := #[]
  methods := #[k0m0]
  instanceTypes := #[]
  staticTypes := #[]
  resolved := Array.replicate 124 none
  statics := none }

def pool1 : Array CpInfo := pool [(2, .class_ 4), (1, u "java/lang/Object"), (0, u "<init>"), (0, u "()V"), (0, .methodref 8 9), (0, .class_ 10), (0, .nameAndType 11 12), (0, u "com/example/citeloom/citeloom/pdf/UnmappedGlyphs"), (0, u "is"), (0, u "(C)Z"), (0, .methodref 14 15), (0, .class_ 16), (0, .nameAndType 17 18), (0, u "com/example/citeloom/citeloom/pdf/UnmappedGlyphsIsPinLaw"), (0, u "expected"), (0, u "(I)Z"), (3, u "law"), (0, u "(II)Z")] 2

def k1m0 : Method := { name := "<init>", desc := "()V", sig := { parameters := [], returnType := none }, accessFlags := 2, code := none }
def k1c1 : Code := { maxStack := 2, maxLocals := 1, code := method_2_code, exceptionTable := #[], attributes := #[] }
def k1m1 : Method := { name := "expected", desc := "(I)Z", sig := { parameters := [.int], returnType := some .boolean }, accessFlags := 10, code := some k1c1 }
def k1c2 : Code := { maxStack := 2, maxLocals := 4, code := code, exceptionTable := #[], attributes := #[] }
def k1m2 : Method := { name := "law", desc := "(II)Z", sig := { parameters := [.int, .int], returnType := some .boolean }, accessFlags := 9, code := some k1c2 }
/-- com/example/citeloom/citeloom/pdf/UnmappedGlyphsIsPinLaw -/
def k1 : Class := { plain "com/example/citeloom/citeloom/pdf/UnmappedGlyphsIsPinLaw" (some 0) with
  accessFlags := 49
  interfaces := #[]
  cf := some (fileOf pool1 14 #[] #[{ accessFlags := 2, nameIndex := 5, descriptorIndex := 6, attributes := #[] }, { accessFlags := 10, nameIndex := 17, descriptorIndex := 18, attributes := #[] }, { accessFlags := 9, nameIndex := 22, descriptorIndex := 23, attributes := #[] }] 49 2 #[] #[])
  fields := #[]
  methods := #[k1m0, k1m1, k1m2]
  instanceTypes := #[]
  staticTypes := #[]
  resolved := Array.replicate 26 none
  statics := none }

def pool2 : Array CpInfo := pool [(2, .class_ 4), (1, u "java/lang/Object"), (0, u "<init>"), (0, u "()V"), (16, .class_ 25), (1, u "com/example/citeloom/citeloom/pdf/UnmappedGlyphs"), (0, u "is"), (0, u "(C)Z"), (9, u "REPLACEMENT"), (0, u "C")] 8

def k2m0 : Method := { name := "<init>", desc := "()V", sig := { parameters := [], returnType := none }, accessFlags := 2, code := none }
def k2c1 : Code := { maxStack := 2, maxLocals := 1, code := prog_27_method_2_code, exceptionTable := #[], attributes := #[] }
def k2m1 : Method := { name := "is", desc := "(C)Z", sig := { parameters := [.char], returnType := some .boolean }, accessFlags := 9, code := some k2c1 }
/-- com/example/citeloom/citeloom/pdf/UnmappedGlyphs -/
def k2 : Class := { plain "com/example/citeloom/citeloom/pdf/UnmappedGlyphs" (some 0) with
  accessFlags := 49
  interfaces := #[]
  cf := some (fileOf pool2 23 #[] #[{ accessFlags := 2, nameIndex := 5, descriptorIndex := 6, attributes := #[] }, { accessFlags := 9, nameIndex := 26, descriptorIndex := 27, attributes := #[] }] 49 2 #[] #[{ accessFlags := 25, nameIndex := 37, descriptorIndex := 38, attributes := #[] }])
  fields := #[{ name := "REPLACEMENT", type := .char, accessFlags := 25, slot := 0, constantValue := 0 }]
  methods := #[k2m0, k2m1]
  instanceTypes := #[]
  staticTypes := #[.char]
  resolved := Array.replicate 47 none
  statics := none }

def pool3 : Array CpInfo := pool [(1, u "java/lang/Cloneable"), (0, .class_ 1), (0, u "java/lang/Object"), (0, .class_ 3)] 3

/-- java/lang/Cloneable -/
def k3 : Class := { plain "java/lang/Cloneable" (some 0) with
  accessFlags := 1537
  interfaces := #[]
  cf := some (fileOf pool3 2 #[] #[] 1537 4 #[] #[])
  fields := #[]
  methods := #[]
  instanceTypes := #[]
  staticTypes := #[]
  resolved := Array.replicate 8 none
  statics := none }

def pool4 : Array CpInfo := pool [(1, u "java/io/Serializable"), (0, .class_ 1), (0, u "java/lang/Object"), (0, .class_ 3)] 3

/-- java/io/Serializable -/
def k4 : Class := { plain "java/io/Serializable" (some 0) with
  accessFlags := 1537
  interfaces := #[]
  cf := some (fileOf pool4 2 #[] #[] 1537 4 #[] #[])
  fields := #[]
  methods := #[]
  instanceTypes := #[]
  staticTypes := #[]
  resolved := Array.replicate 8 none
  statics := none }

/-- the primitive byte -/
def k5 : Class := { plain "byte" none with kind := .primitive 'B', accessFlags := 0x411 }
/-- [B -/
def k6 : Class := { plain "[B" (some 0) with kind := .array 5 .byte, interfaces := #[3, 4], accessFlags := 1041 }

/-- the primitive int -/
def k7 : Class := { plain "int" none with kind := .primitive 'I', accessFlags := 0x411 }
/-- [I -/
def k8 : Class := { plain "[I" (some 0) with kind := .array 7 .int, interfaces := #[3, 4], accessFlags := 1041 }

def heap : Heap := #[]
def classes : Array Class := #[k0, k1, k2, k3, k4, k5, k6, k7, k8]
def interned : List (Array UInt16 × Addr) := []
def slotsUsed : Nat := 0
def theMethod : MethodId := ⟨1, 2⟩
def args0 : Array Value := #[.int 5, .int 3]
def aboutOver (below : List Frame) : State where
  vm := { classes := classes, interned := interned.toArray }
  heap := heap
  slotsUsed := slotsUsed
  threads := #[{ frames := .invoking theMethod args0 :: below }]
def below0 : List Frame := [.native { method := ⟨0, 0⟩, args := #[] }]
def about1 : State := aboutOver below0
def p0 : Program := .bare "" "" ""
def e0 : Env := launch0.env 0 0 0
theorem w_frames : about1.frames = Frame.invoking theMethod args0 :: below0 := rfl
set_option maxRecDepth 65536 in
theorem w_args : argsFit about1.vm theMethod args0 = true := by decide +kernel
set_option maxRecDepth 65536 in
theorem w_heap : heapFits about1 = true := by decide +kernel
set_option maxRecDepth 65536 in
theorem w_runnable : about1.curStatus? = some .runnable := by decide +kernel
set_option maxRecDepth 65536 in
theorem w_alone : about1.alone = true := by decide +kernel
set_option maxRecDepth 65536 in
theorem w_named : about1.methodNamed? x = some theMethod := by decide +kernel
set_option maxRecDepth 65536 in
theorem w_hears : about1.hears theMethod below0 = true := by decide +kernel
set_option maxRecDepth 65536 in
theorem w_ripe : about1.ripe theMethod args0 below0 = true := by decide +kernel
theorem w_running : about1.status = .running := rfl
set_option maxRecDepth 65536 in
theorem w_room : about1.hasRoom e0.platform room_1 = true :=
  launch0.hasRoom_least _ room_1 (by decide +kernel) (by decide +kernel) (by decide +kernel) (by decide +kernel) (by decide +kernel) (by decide +kernel)
theorem allAtoms_all (ts : List Jvm.Cond) (a : Array Jvm.Value) (st : Jvm.State) : (allAtoms ts).before a st = ts.all (fun c => c.before a st) := by
  induction ts with
  | nil => rfl
  | cons c t ih =>
    show (Jvm.Cond.and c (allAtoms t)).before a st = _
    rw [Jvm.Cond.before_and, ih, List.all_cons]
def words1 : List Jvm.Cond := Jvm.Cond.code x code maxLocals ret :: tables_1
/-- a 'code' word, met by the world's own term for the bytes: nothing is compared byte by byte -/
theorem code_word {y : MethodName} {bytes : ByteArray} {mx : Nat} {rt : Option FieldType} {a : Array Value} {s : State} {m : MethodId} {meth : Method} {c : Code} (h1 : s.methodNamed? y = some m) (h2 : s.vm.method? m = some meth) (h3 : meth.code = some c) (h4 : c.code = bytes)
    (h5 : (c.maxLocals == mx && c.exceptionTable.isEmpty && decide (c.maxStack ≤ mostOperands) && decide (meth.sig.returnType = rt) && !meth.locks && decide (parseMethodDescriptor y.desc = some meth.sig)) = true) : (Jvm.Cond.code y bytes mx rt).before a s = true := by
  simp only [Bool.and_eq_true, beq_iff_eq, Bool.not_eq_true', decide_eq_true_eq] at h5
  obtain ⟨⟨⟨⟨⟨g1, g2⟩, g3⟩, g4⟩, g5⟩, g6⟩ := h5
  simp [Cond.before, Cond.holds, Cond.value, h1, h2, h3, h4, g1, g2, g3, g4, g5, g6]
def isCode : Jvm.Cond → Bool
  | .code _ _ _ _ => true
  | _ => false
theorem all_split {L : List Jvm.Cond} {P : Jvm.Cond → Bool} (h1 : L.all (fun c => isCode c || P c) = true) (h2 : ∀ c ∈ L.filter isCode, P c = true) : L.all P = true := by
  refine List.all_eq_true.mpr fun c hc => ?_
  have h := List.all_eq_true.mp h1 c hc
  rcases Bool.eq_false_or_eq_true (isCode c) with hi | hi
  · exact h2 c (List.mem_filter.mpr ⟨hc, hi⟩)
  · simpa [hi] using h
set_option maxRecDepth 65536 in
theorem w_c0 : (Jvm.Cond.code x code maxLocals ret).before args0 about1 = true := code_word (m := ⟨1, 2⟩) (meth := k1m2) (c := k1c2) (by decide +kernel) rfl rfl rfl (by decide +kernel)
set_option maxRecDepth 65536 in
theorem w_c1 : (Jvm.Cond.code ({ cls := "com/example/citeloom/citeloom/pdf/UnmappedGlyphs", name := "is", desc := "(C)Z" } : Jvm.MethodName) prog_27_method_2_code (1 : Nat) (Option.some Jvm.ClassFile.FieldType.boolean)).before args0 about1 = true := code_word (m := ⟨2, 1⟩) (meth := k2m1) (c := k2c1) (by decide +kernel) rfl rfl rfl (by decide +kernel)
set_option maxRecDepth 65536 in
theorem w_c2 : (Jvm.Cond.code ({ cls := "com/example/citeloom/citeloom/pdf/UnmappedGlyphsIsPinLaw", name := "expected", desc := "(I)Z" } : Jvm.MethodName) method_2_code (1 : Nat) (Option.some Jvm.ClassFile.FieldType.boolean)).before args0 about1 = true := code_word (m := ⟨1, 1⟩) (meth := k1m1) (c := k1c1) (by decide +kernel) rfl rfl rfl (by decide +kernel)
def codes1 : List Jvm.Cond := [Jvm.Cond.code x code maxLocals ret, Jvm.Cond.code ({ cls := "com/example/citeloom/citeloom/pdf/UnmappedGlyphs", name := "is", desc := "(C)Z" } : Jvm.MethodName) prog_27_method_2_code (1 : Nat) (Option.some Jvm.ClassFile.FieldType.boolean), Jvm.Cond.code ({ cls := "com/example/citeloom/citeloom/pdf/UnmappedGlyphsIsPinLaw", name := "expected", desc := "(I)Z" } : Jvm.MethodName) method_2_code (1 : Nat) (Option.some Jvm.ClassFile.FieldType.boolean)]
set_option maxRecDepth 65536 in
theorem codes_eq : words1.filter isCode = codes1 := rfl
theorem w_codes : ∀ c ∈ words1.filter isCode, c.before args0 about1 = true := by
  rw [codes_eq]
  intro c hc
  simp only [codes1, List.mem_cons, List.not_mem_nil, or_false] at hc
  rcases hc with rfl | rfl | rfl
  · exact w_c0
  · exact w_c1
  · exact w_c2
set_option maxRecDepth 65536 in
theorem w_t1 : words1.all (fun c => isCode c || c.before args0 about1) = true := by decide +kernel
theorem w_tables : (allAtoms (Jvm.Cond.code x code maxLocals ret :: tables_1)).before args0 about1 = true := by
  rw [allAtoms_all]
  show words1.all (fun c => c.before args0 about1) = true
  refine all_split ?_ w_codes
  rw [w_t1]
set_option maxRecDepth 65536 in
theorem w_case : (Jvm.Cond.and given_1 narrow_1).before args0 about1 = true := by decide +kernel
theorem w_applies : (headSpec (Jvm.Cond.code x code maxLocals ret :: tables_1) room_1).applies x e0.platform about1 = true :=
  (Spec.applies_iff w_frames).mpr ⟨w_running, w_runnable, w_alone, w_named, w_hears, w_ripe, w_room, w_tables⟩
theorem atStart : AtStart classFile x code maxLocals ret World_1 tables_1 room_1 Calls_1 rest_1 Pre_1 launch0 p0 e0 about1 theMethod args0 below0 :=
  ⟨lists_1, trivial, launch0.admits_env _ _ _, launch0.least_env, fairChoices_fair.cas, fairChoices_fair.clock, w_frames, w_args, w_heap, w_applies, trivial, trivial, w_case⟩
end start1
theorem witness_1 : WitnessClaimed_1 := ⟨start1.p0, start1.e0, start1.about1, start1.theMethod, start1.args0, start1.below0, start1.atStart⟩
end Jvm.Pilot.@@N@@
