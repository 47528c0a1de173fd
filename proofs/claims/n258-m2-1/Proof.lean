import JvmDerived
import JvmDerived.Pilot.@@N@@Statement
import JvmDerived.Pilot.@@N@@Code
set_option linter.unusedVariables false
set_option linter.unusedSimpArgs false
namespace Jvm.RoadKit
open Sem ClassFile Op Lib Jvm.Stand Jvm.Free Jvm.LawKit
section New
variable {p : Program} {l : Launch} {e : Env} {R : Room} {s : State} {m : MethodId} {args : Array Value} {below : List Frame} {meth : Method} {c : Code} {T : State} {locs : List Loc} {cells slots : Nat}
theorem retI (X : Stand p l e R s m args below meth c T locs cells slots) (hx : p.tables.exec = Jvm.exec) {pc : Nat} {Ls : Array Slot} {z : Int32} {rest : List Value} (hret : meth.sig.returnType = some .int) (hd : decode c.code pc = .ok (.ireturn, 1)) {fs : List Frame}
    (hl : ∀ (f : JFrame) (acts : List Action), f.method = m → f.locked = none → f.entered = [] → (doReturn e (T.setTop f) acts (some (.int z))).1 = T.setFrames fs) : Steps p.tables e below (T.setTop (mkF m pc Ls (.int z :: rest))) (T.setFrames fs) := by
  have hm' : T.vm.method? m = some meth := X.method'
  have hn : narrow .int (.int z) = .int z := rfl
  show Steps p.tables e below (T.setTop { method := m, pc := pc, locals := Ls, stack := _ :: rest, locked := none }) _
  jvm_step X.here [X.here.top, hx, hd, hm', hret, hn]
  first | (intro acts; rw [hl _ acts rfl rfl rfl]) | rw [hl _ _ rfl rfl rfl]
  exact Steps.refl _
end New
end Jvm.RoadKit
namespace Jvm.Pilot.@@N@@
open Jvm Jvm.ClassFile Sem Op Lib Jvm.Free Jvm.Stand Jvm.LawKit Jvm.RoadKit Bundle Jvm.Pilot.@@N@@.Jvm.D
abbrev own_S (p : Program) (e : Env) (below : List Frame) (T : State) (f : JFrame) (t : State) : Prop := Steps p.tables e below (T.setTop f) t
abbrev own_ushr (x y : Int32) : Int32 := (x.toUInt32 >>> (y &&& 31).toUInt32).toInt32
abbrev own_ushrL (x : Int64) (y : Int32) : Int64 := (x.toUInt64 >>> (y &&& 63).toInt64.toUInt64).toInt64
def own_Qi (z : Int32) (h0 : Heap) (n0 : Nat) (v : Option Value) (h : Heap) (L : List Loc) : Prop := v = some (.int z) ∧ Fr n0 L ∧ h = h0
theorem own_wk {Z : State} {ag : Array Value} {d : Jvm.Cond} (hw : ∀ d ∈ tables_1, d.before ag Z = true) (i : Nat) (h : tables_1[i]? = some d) : d.before ag Z = true := hw d (List.mem_of_getElem? h)
theorem own_cast {α : Sort _} {P : α → Prop} {a b : α} (h : a = b) (k : P a) : P b := h ▸ k
theorem pn_0 : plainName "com/example/xml_signing/xmlsigning/c14n/PrologText" = true := by first | (simp [plainName, overriddenIn]; done) | decide +kernel
theorem ef_1 (m : MethodId) (p0 : Int32) : entryFrame m #[(.int p0)] 1 = mkF m 0 #[.val (.int p0)] [] := by first | (simp [entryFrame, mkF, argsToLocals, Value.category]; done) | rfl
theorem d1_0 : decode prog_61_method_9_code 0 = .ok (.iload_n 0, 1) := by decide +kernel
theorem d1_1 : decode prog_61_method_9_code 1 = .ok (.bipush 10, 2) := by decide +kernel
theorem d1_3 : decode prog_61_method_9_code 3 = .ok (.if_icmp .eq 23, 3) := by decide +kernel
theorem d1_26 : decode prog_61_method_9_code 26 = .ok (.iconst 1, 1) := by decide +kernel
theorem d1_27 : decode prog_61_method_9_code 27 = .ok (.goto 4, 3) := by decide +kernel
theorem d1_6 : decode prog_61_method_9_code 6 = .ok (.iload_n 0, 1) := by decide +kernel
theorem d1_7 : decode prog_61_method_9_code 7 = .ok (.bipush 13, 2) := by decide +kernel
theorem d1_9 : decode prog_61_method_9_code 9 = .ok (.if_icmp .eq 17, 3) := by decide +kernel
theorem d1_12 : decode prog_61_method_9_code 12 = .ok (.iload_n 0, 1) := by decide +kernel
theorem d1_13 : decode prog_61_method_9_code 13 = .ok (.sipush 133, 3) := by decide +kernel
theorem d1_16 : decode prog_61_method_9_code 16 = .ok (.if_icmp .eq 10, 3) := by decide +kernel
theorem d1_19 : decode prog_61_method_9_code 19 = .ok (.iload_n 0, 1) := by decide +kernel
theorem d1_20 : decode prog_61_method_9_code 20 = .ok (.sipush 8232, 3) := by decide +kernel
theorem d1_23 : decode prog_61_method_9_code 23 = .ok (.if_icmp .ne 7, 3) := by decide +kernel
theorem d1_30 : decode prog_61_method_9_code 30 = .ok (.iconst 0, 1) := by decide +kernel
def own_f1 (p0 : Int32) : Int32 := (if p0 = (10 : Int32) then (1 : Int32) else (if p0 = (13 : Int32) then (1 : Int32) else (if p0 = (133 : Int32) then (1 : Int32) else (if p0 = (8232 : Int32) then (1 : Int32) else (0 : Int32)))))
def Q1 (Z : State) (p0 : Int32) (h0 : Heap) (n0 : Nat) (v : Option Value) (h : Heap) (L : List Loc) : Prop := v = some (.int (own_f1 p0)) ∧ Fr n0 L ∧ h = h0
theorem d1_31 : decode prog_61_method_9_code 31 = .ok (.ireturn, 1) := by decide +kernel
set_option maxRecDepth 65536 in
set_option maxHeartbeats 40000000 in
theorem rm1 (l : Launch) (Z : State) (ag : Array Value) (hw : ∀ d ∈ tables_1, d.before ag Z = true) (ws : List Jvm.Cond) (p0 : Int32) (h0 : Heap) (n0 : Nat) (Z0 : n0 ≤ h0.size) :
    MetFree l (⟨"com/example/xml_signing/xmlsigning/c14n/PrologText", "isLineEnd", "(I)Z"⟩ : MethodName) (head1 (Jvm.Cond.code (⟨"com/example/xml_signing/xmlsigning/c14n/PrologText", "isLineEnd", "(I)Z"⟩ : MethodName) prog_61_method_9_code 1 (some .boolean) :: ws) ({ frames := 0, cells := 0, slots := 0, locals := 0 } : Room)) (fun a U => a = #[(.int p0)] ∧ Z.Warmed39 U.vm ∧ U.heap = h0) (fun _ _ _ _ _ => True) (fun _ U o U' => ∃ v L, o = .returned v ∧ Q1 Z p0 h0 n0 v U'.heap L ∧ FrameEnd U o U' L ({ frames := 0, cells := 0, slots := 0, locals := 0 } : Room).cells ({ frames := 0, cells := 0, slots := 0, locals := 0 } : Room).slots) := by
  refine MetFree.of_bodySF (plainFor_of_name pn_0) hisR ?_
  intro p e s m args below meth c s₁ Bd hml0 hP hK
  obtain ⟨rfl, hZ, hh⟩ := hP
  have hx := Bd.exec
  have hby := Bd.bytes
  have hml : c.maxLocals = 1 := hml0
  have hown : s.vm.findClass "com/example/xml_signing/xmlsigning/c14n/PrologText" = some m.cls := findClass_of_methodNamed Bd.named
  have hnm := (name_of_methodNamed Bd.named Bd.method).1
  have X0 : Stand p l e ({ frames := 0, cells := 0, slots := 0, locals := 0 } : Room) s m #[(.int p0)] below meth c s₁ [] 0 0 := Stand.of_body Bd
  have e0 : s₁.heap = h0 := by rw [← hh, Bd.state]; rfl
  have N0 := Fr.nil n0
  have pre0 : ∀ t, Steps p.tables e below (s₁.setTop (mkF m 0 #[.val (.int p0)] [])) t → Steps p.tables e below (s₁.setTop (entryFrame m #[(.int p0)] 1)) t := fun t k => castTop (ef_1 m p0) k
  obtain ⟨fs, hr, hrun, hended, hW, hsame⟩ := X0.leave (v := some (.int (own_f1 p0))) (fun h => by rw [Bd.returns] at h; cases h)
  refine ⟨_, _, pre0 _ ?_, hrun, hended, _, _, rfl, ?_, ⟨_, rfl⟩, hW, hsame.mono (by decide) (by decide)⟩
  · show own_S p e below s₁ (mkF m 0 #[.val (.int p0)] []) _
    refine XS.iloadN X0.here hx rfl (hb hby d1_0) rfl ?_
    show own_S p e below s₁ (mkF m 1 #[.val (.int p0)] [(.int p0)]) _
    refine XS.bipush X0.here hx rfl (hb hby d1_1) ?_
    by_cases hc1 : p0 = (10 : Int32)
    · show own_S p e below s₁ (mkF m 3 #[.val (.int p0)] [.int 10, (.int p0)]) _
      refine XS.icmpYes X0.here hx rfl (pc0 := 3) (pc' := 26) rfl (hb hby d1_3) rfl (teq hc1).1 (by decide) (by decide) ?_
      show own_S p e below s₁ (mkF m 26 #[.val (.int p0)] []) _
      refine XS.iconst X0.here hx rfl (hb hby d1_26) ?_
      show own_S p e below s₁ (mkF m 27 #[.val (.int p0)] [.int 1]) _
      refine XS.goto X0.here hx rfl (pc0 := 27) (pc' := 31) rfl (hb hby d1_27) (by decide) (by decide) ?_
      show own_S p e below s₁ (mkF m 31 #[.val (.int p0)] [.int 1]) _
      have q : (own_f1 p0) = (1 : Int32) := by unfold own_f1; rw [if_pos hc1]
      have hr := own_cast (P := fun z => ∀ (f : JFrame) (acts : List Action), f.method = m → f.locked = none → f.entered = [] → (doReturn e (s₁.setTop f) acts (some (.int z))).1 = s₁.setFrames fs) q hr
      exact retN X0 hx (t := .boolean) Bd.returns (by simp) (hb hby d1_31) hr
    · show own_S p e below s₁ (mkF m 3 #[.val (.int p0)] [.int 10, (.int p0)]) _
      refine XS.icmpNo X0.here hx rfl (hb hby d1_3) rfl (feq hc1).1 ?_
      show own_S p e below s₁ (mkF m 6 #[.val (.int p0)] []) _
      refine XS.iloadN X0.here hx rfl (hb hby d1_6) rfl ?_
      show own_S p e below s₁ (mkF m 7 #[.val (.int p0)] [(.int p0)]) _
      refine XS.bipush X0.here hx rfl (hb hby d1_7) ?_
      by_cases hc2 : p0 = (13 : Int32)
      · show own_S p e below s₁ (mkF m 9 #[.val (.int p0)] [.int 13, (.int p0)]) _
        refine XS.icmpYes X0.here hx rfl (pc0 := 9) (pc' := 26) rfl (hb hby d1_9) rfl (teq hc2).1 (by decide) (by decide) ?_
        show own_S p e below s₁ (mkF m 26 #[.val (.int p0)] []) _
        refine XS.iconst X0.here hx rfl (hb hby d1_26) ?_
        show own_S p e below s₁ (mkF m 27 #[.val (.int p0)] [.int 1]) _
        refine XS.goto X0.here hx rfl (pc0 := 27) (pc' := 31) rfl (hb hby d1_27) (by decide) (by decide) ?_
        show own_S p e below s₁ (mkF m 31 #[.val (.int p0)] [.int 1]) _
        have q : (own_f1 p0) = (1 : Int32) := by unfold own_f1; rw [if_neg hc1, if_pos hc2]
        have hr := own_cast (P := fun z => ∀ (f : JFrame) (acts : List Action), f.method = m → f.locked = none → f.entered = [] → (doReturn e (s₁.setTop f) acts (some (.int z))).1 = s₁.setFrames fs) q hr
        exact retN X0 hx (t := .boolean) Bd.returns (by simp) (hb hby d1_31) hr
      · show own_S p e below s₁ (mkF m 9 #[.val (.int p0)] [.int 13, (.int p0)]) _
        refine XS.icmpNo X0.here hx rfl (hb hby d1_9) rfl (feq hc2).1 ?_
        show own_S p e below s₁ (mkF m 12 #[.val (.int p0)] []) _
        refine XS.iloadN X0.here hx rfl (hb hby d1_12) rfl ?_
        show own_S p e below s₁ (mkF m 13 #[.val (.int p0)] [(.int p0)]) _
        refine XS.sipush X0.here hx rfl (hb hby d1_13) ?_
        by_cases hc3 : p0 = (133 : Int32)
        · show own_S p e below s₁ (mkF m 16 #[.val (.int p0)] [.int 133, (.int p0)]) _
          refine XS.icmpYes X0.here hx rfl (pc0 := 16) (pc' := 26) rfl (hb hby d1_16) rfl (teq hc3).1 (by decide) (by decide) ?_
          show own_S p e below s₁ (mkF m 26 #[.val (.int p0)] []) _
          refine XS.iconst X0.here hx rfl (hb hby d1_26) ?_
          show own_S p e below s₁ (mkF m 27 #[.val (.int p0)] [.int 1]) _
          refine XS.goto X0.here hx rfl (pc0 := 27) (pc' := 31) rfl (hb hby d1_27) (by decide) (by decide) ?_
          show own_S p e below s₁ (mkF m 31 #[.val (.int p0)] [.int 1]) _
          have q : (own_f1 p0) = (1 : Int32) := by unfold own_f1; rw [if_neg hc1, if_neg hc2, if_pos hc3]
          have hr := own_cast (P := fun z => ∀ (f : JFrame) (acts : List Action), f.method = m → f.locked = none → f.entered = [] → (doReturn e (s₁.setTop f) acts (some (.int z))).1 = s₁.setFrames fs) q hr
          exact retN X0 hx (t := .boolean) Bd.returns (by simp) (hb hby d1_31) hr
        · show own_S p e below s₁ (mkF m 16 #[.val (.int p0)] [.int 133, (.int p0)]) _
          refine XS.icmpNo X0.here hx rfl (hb hby d1_16) rfl (feq hc3).1 ?_
          show own_S p e below s₁ (mkF m 19 #[.val (.int p0)] []) _
          refine XS.iloadN X0.here hx rfl (hb hby d1_19) rfl ?_
          show own_S p e below s₁ (mkF m 20 #[.val (.int p0)] [(.int p0)]) _
          refine XS.sipush X0.here hx rfl (hb hby d1_20) ?_
          by_cases hc4 : p0 = (8232 : Int32)
          · show own_S p e below s₁ (mkF m 23 #[.val (.int p0)] [.int 8232, (.int p0)]) _
            refine XS.icmpNo X0.here hx rfl (hb hby d1_23) rfl (teq hc4).2 ?_
            show own_S p e below s₁ (mkF m 26 #[.val (.int p0)] []) _
            refine XS.iconst X0.here hx rfl (hb hby d1_26) ?_
            show own_S p e below s₁ (mkF m 27 #[.val (.int p0)] [.int 1]) _
            refine XS.goto X0.here hx rfl (pc0 := 27) (pc' := 31) rfl (hb hby d1_27) (by decide) (by decide) ?_
            show own_S p e below s₁ (mkF m 31 #[.val (.int p0)] [.int 1]) _
            have q : (own_f1 p0) = (1 : Int32) := by unfold own_f1; rw [if_neg hc1, if_neg hc2, if_neg hc3, if_pos hc4]
            have hr := own_cast (P := fun z => ∀ (f : JFrame) (acts : List Action), f.method = m → f.locked = none → f.entered = [] → (doReturn e (s₁.setTop f) acts (some (.int z))).1 = s₁.setFrames fs) q hr
            exact retN X0 hx (t := .boolean) Bd.returns (by simp) (hb hby d1_31) hr
          · show own_S p e below s₁ (mkF m 23 #[.val (.int p0)] [.int 8232, (.int p0)]) _
            refine XS.icmpYes X0.here hx rfl (pc0 := 23) (pc' := 30) rfl (hb hby d1_23) rfl (feq hc4).2 (by decide) (by decide) ?_
            show own_S p e below s₁ (mkF m 30 #[.val (.int p0)] []) _
            refine XS.iconst X0.here hx rfl (hb hby d1_30) ?_
            show own_S p e below s₁ (mkF m 31 #[.val (.int p0)] [.int 0]) _
            have q : (own_f1 p0) = (0 : Int32) := by unfold own_f1; rw [if_neg hc1, if_neg hc2, if_neg hc3, if_neg hc4]
            have hr := own_cast (P := fun z => ∀ (f : JFrame) (acts : List Action), f.method = m → f.locked = none → f.entered = [] → (doReturn e (s₁.setTop f) acts (some (.int z))).1 = s₁.setFrames fs) q hr
            exact retN X0 hx (t := .boolean) Bd.returns (by simp) (hb hby d1_31) hr
  · show Q1 Z p0 h0 n0 _ s₁.heap _
    rw [e0]
    exact ⟨rfl, N0, rfl⟩
def own_e (j : Int32) : Int32 := if j = 0 then 10 else if j = 1 then 13 else if j = 2 then 133 else 8232
theorem own_four (j : Int32) (h0 : 0 ≤ j.toInt) (h1 : j.toInt < 4) : j = 0 ∨ j = 1 ∨ j = 2 ∨ j = 3 := by
  simp only [← Int32.toInt_inj, show (0 : Int32).toInt = 0 from rfl, show (1 : Int32).toInt = 1 from rfl, show (2 : Int32).toInt = 2 from rfl, show (3 : Int32).toInt = 3 from rfl]; omega
theorem own_at (j : Int32) (h0 : 0 ≤ j.toInt) (h1 : j.toInt < 4) : ([(.int (10 : Int32)), (.int (13 : Int32)), (.int (133 : Int32)), (.int (8232 : Int32))] : List Value).getD j.toNatClampNeg (.int (0 : Int32)) = .int (own_e j) := by
  rcases own_four j h0 h1 with rfl | rfl | rfl | rfl <;> rfl
theorem own_in (j : Int32) (h0 : 0 ≤ j.toInt) (h1 : j.toInt < 4) : ¬ j < 0 ∧ j < (4 : Int32) := by
  simp only [Int32.lt_iff_toInt_lt, show (0 : Int32).toInt = 0 from rfl, show (4 : Int32).toInt = 4 from rfl]; omega
theorem own_k1 (j : Int32) : ¬ own_f1 (own_e j) = 0 := by unfold own_e; (repeat' split) <;> decide
theorem own_k2 (j : Int32) : own_f1 (own_e j + 1) = 0 := by unfold own_e; (repeat' split) <;> decide
theorem own_k3 (j : Int32) : own_f1 (own_e j - 1) = 0 := by unfold own_e; (repeat' split) <;> decide
theorem pn_1 : plainName "com/example/xml_signing/xmlsigning/c14n/PrologTextIsLineEndPinLaw" = true := by first | (simp [plainName, overriddenIn]; done) | decide +kernel
theorem ef_0 (m : MethodId) (p0 : Int32) (p1 : Int32) : entryFrame m #[(.int p0), (.int p1)] maxLocals = mkF m 0 #[.val (.int p0), .val (.int p1), .unset, .unset, .unset, .unset, .unset, .unset] [] := by first | (simp [entryFrame, mkF, argsToLocals, Value.category, maxLocals]; done) | rfl
abbrev own_loc1 (p0 : Int32) (p1 : Int32) (b5 : Addr) : Array Slot := #[.val (.int p0), .val (.int p1), .val (.ref b5), .val (.int (own_e (p1 &&& (3 : Int32)))), .unset, .unset, .unset, .unset]
def own_g0_32 (p0 : Int32) : Int32 := (if p0 = (10 : Int32) then (1 : Int32) else (if p0 = (13 : Int32) then (1 : Int32) else (if p0 = (133 : Int32) then (1 : Int32) else (if p0 = (8232 : Int32) then (1 : Int32) else (0 : Int32)))))
abbrev own_loc2 (p0 : Int32) (p1 : Int32) (b5 : Addr) : Array Slot := #[.val (.int p0), .val (.int p1), .val (.ref b5), .val (.int (own_e (p1 &&& (3 : Int32)))), .val (.int (own_g0_32 p0)), .unset, .unset, .unset]
theorem pd_0 : parseMethodDescriptor "(I)Z" = some ⟨[.int], some .boolean⟩ := by decide +kernel
abbrev own_loc3 (p0 : Int32) (p1 : Int32) (b5 : Addr) : Array Slot := #[.val (.int p0), .val (.int p1), .val (.ref b5), .val (.int (own_e (p1 &&& (3 : Int32)))), .val (.int (own_g0_32 p0)), .val (.int 1), .unset, .unset]
abbrev own_loc4 (p0 : Int32) (p1 : Int32) (b5 : Addr) : Array Slot := #[.val (.int p0), .val (.int p1), .val (.ref b5), .val (.int (own_e (p1 &&& (3 : Int32)))), .val (.int (own_g0_32 p0)), .val (.int 1), .val (.int (own_f1 (own_e (p1 &&& (3 : Int32))))), .unset]
abbrev own_loc5 (p0 : Int32) (p1 : Int32) (b5 : Addr) : Array Slot := #[.val (.int p0), .val (.int p1), .val (.ref b5), .val (.int (own_e (p1 &&& (3 : Int32)))), .val (.int (own_g0_32 p0)), .val (.int 1), .val (.int (own_f1 (own_e (p1 &&& (3 : Int32))))), .val (.int 1)]
def Q0 (n0 : Nat) (v : Option Value) (h : Heap) (L : List Loc) : Prop := v = some (.int 1) ∧ Fr n0 L
set_option maxRecDepth 65536 in
set_option maxHeartbeats 40000000 in
theorem rm0 (l : Launch) (Z : State) (ag : Array Value) (hw : ∀ d ∈ tables_1, d.before ag Z = true) (ws : List Jvm.Cond) (p0 : Int32) (p1 : Int32) (h0 : Heap) (n0 : Nat) (Z0 : n0 ≤ h0.size) :
    MetFree l x (head1 (Jvm.Cond.code x code maxLocals ret :: ws) room_1) (fun a U => a = #[(.int p0), (.int p1)] ∧ Z.Warmed39 U.vm ∧ U.heap = h0) (fun _ _ _ _ _ => True) (fun _ U o U' => ∃ v L, o = .returned v ∧ Q0 n0 v U'.heap L ∧ FrameEnd U o U' L 1 4) := by
  refine MetFree.of_bodySF (plainFor_of_name pn_1) hisR ?_
  intro p e s m args below meth c s₁ Bd hml0 hP hK
  obtain ⟨rfl, hZ, hh⟩ := hP
  have hx := Bd.exec
  have hby := Bd.bytes
  have hml : c.maxLocals = 8 := hml0
  have hown : s.vm.findClass "com/example/xml_signing/xmlsigning/c14n/PrologTextIsLineEndPinLaw" = some m.cls := findClass_of_methodNamed Bd.named
  have hnm := (name_of_methodNamed Bd.named Bd.method).1
  have X0 : Stand p l e room_1 s m #[(.int p0), (.int p1)] below meth c s₁ [] 0 0 := Stand.of_body Bd
  have e0 : s₁.heap = h0 := by rw [← hh, Bd.state]; rfl
  have N0 := Fr.nil n0
  have pre0 : ∀ t, Steps p.tables e below (s₁.setTop (mkF m 0 #[.val (.int p0), .val (.int p1), .unset, .unset, .unset, .unset, .unset, .unset] [])) t → Steps p.tables e below (s₁.setTop (entryFrame m #[(.int p0), (.int p1)] maxLocals)) t := fun t k => castTop (ef_0 m p0 p1) k
  have hJ := c_mask p1 (3 : Int32) 2 (by decide) (by decide)
  have hJ0 : 0 ≤ (p1 &&& (3 : Int32)).toInt := by omega
  have hJ1 : (p1 &&& (3 : Int32)).toInt < 4 := by omega
  obtain ⟨T5, h5, k5, X5, e5, E5, A5, st5⟩ := newP X0 hx hZ (hw _ (List.mem_of_getElem? (i := 0) rfl)) e0 (g := (mkF m 1 #[.val (.int p0), .val (.int p1), .unset, .unset, .unset, .unset, .unset, .unset] [.int 4])) rfl (hb hby at_1) rfl (by decide) (cap := 4) (by decide) (by decide) (by decide) (by decide)
  obtain ⟨b5, g5⟩ : ∃ z, z = h0.size := ⟨_, rfl⟩
  have ge_b5 : n0 ≤ b5 := Nat.le_trans Z0 (Nat.le_of_eq g5.symm)
  rw [← g5] at A5 st5
  have sz6 : n0 ≤ h5.size := Nat.le_trans Z0 E5.1
  have V5 : Arv Z h5 b5 k5 .int (4 : Int32) [(.int (0 : Int32)), (.int (0 : Int32)), (.int (0 : Int32)), (.int (0 : Int32))] (.int (0 : Int32)) := (Arv.new A5 (by decide)).pad (pad_rep [] (.int (0 : Int32)) 4)
  obtain ⟨cl7, Ar7, q7, S7, M7, H7, G7⟩ := id V5
  have hin7 : ¬ ((0 : Int32) < 0 ∨ cl7.slots.size ≤ ((0 : Int32)).toNatClampNeg) := inb_of S7 ⟨(by decide : ¬ (0 : Int32) < 0), (by decide : (0 : Int32) < (4 : Int32))⟩
  obtain ⟨T7, h7, X7, e7, W7, st7⟩ := stI X5 hx hZ e5 Ar7 (j := (0 : Int32)) hin7 (g := (mkF m 7 #[.val (.int p0), .val (.int p1), .unset, .unset, .unset, .unset, .unset, .unset] [.int 10, .int 0, (.ref b5), (.ref b5)])) rfl rfl (hb hby at_7)
  have V7 : Arv Z h7 b5 k5 .int (4 : Int32) [(.int (10 : Int32)), (.int (0 : Int32)), (.int (0 : Int32)), (.int (0 : Int32))] (.int (0 : Int32)) := Arv.set Ar7 q7 S7 M7 H7 G7 rfl W7 0 rfl (Nat.le_of_ble_eq_true rfl)
  have sz8 : n0 ≤ h7.size := Nat.le_trans sz6 (Keep.of_wr W7).1
  have N7 := Fr.snoc X7 N0 ge_b5
  obtain ⟨cl9, Ar9, q9, S9, M9, H9, G9⟩ := id V7
  have hin9 : ¬ ((1 : Int32) < 0 ∨ cl9.slots.size ≤ ((1 : Int32)).toNatClampNeg) := inb_of S9 ⟨(by decide : ¬ (1 : Int32) < 0), (by decide : (1 : Int32) < (4 : Int32))⟩
  obtain ⟨T9, h9, X9, e9, W9, st9⟩ := stI X7 hx hZ e7 Ar9 (j := (1 : Int32)) hin9 (g := (mkF m 12 #[.val (.int p0), .val (.int p1), .unset, .unset, .unset, .unset, .unset, .unset] [.int 13, .int 1, (.ref b5), (.ref b5)])) rfl rfl (hb hby at_12)
  have V9 : Arv Z h9 b5 k5 .int (4 : Int32) [(.int (10 : Int32)), (.int (13 : Int32)), (.int (0 : Int32)), (.int (0 : Int32))] (.int (0 : Int32)) := Arv.set Ar9 q9 S9 M9 H9 G9 rfl W9 1 rfl (Nat.le_of_ble_eq_true rfl)
  have sz10 : n0 ≤ h9.size := Nat.le_trans sz8 (Keep.of_wr W9).1
  have N9 := Fr.snoc X9 N7 ge_b5
  obtain ⟨cl11, Ar11, q11, S11, M11, H11, G11⟩ := id V9
  have hin11 : ¬ ((2 : Int32) < 0 ∨ cl11.slots.size ≤ ((2 : Int32)).toNatClampNeg) := inb_of S11 ⟨(by decide : ¬ (2 : Int32) < 0), (by decide : (2 : Int32) < (4 : Int32))⟩
  obtain ⟨T11, h11, X11, e11, W11, st11⟩ := stI X9 hx hZ e9 Ar11 (j := (2 : Int32)) hin11 (g := (mkF m 18 #[.val (.int p0), .val (.int p1), .unset, .unset, .unset, .unset, .unset, .unset] [.int 133, .int 2, (.ref b5), (.ref b5)])) rfl rfl (hb hby at_18)
  have V11 : Arv Z h11 b5 k5 .int (4 : Int32) [(.int (10 : Int32)), (.int (13 : Int32)), (.int (133 : Int32)), (.int (0 : Int32))] (.int (0 : Int32)) := Arv.set Ar11 q11 S11 M11 H11 G11 rfl W11 2 rfl (Nat.le_of_ble_eq_true rfl)
  have sz12 : n0 ≤ h11.size := Nat.le_trans sz10 (Keep.of_wr W11).1
  have N11 := Fr.snoc X11 N9 ge_b5
  obtain ⟨cl13, Ar13, q13, S13, M13, H13, G13⟩ := id V11
  have hin13 : ¬ ((3 : Int32) < 0 ∨ cl13.slots.size ≤ ((3 : Int32)).toNatClampNeg) := inb_of S13 ⟨(by decide : ¬ (3 : Int32) < 0), (by decide : (3 : Int32) < (4 : Int32))⟩
  obtain ⟨T13, h13, X13, e13, W13, st13⟩ := stI X11 hx hZ e11 Ar13 (j := (3 : Int32)) hin13 (g := (mkF m 24 #[.val (.int p0), .val (.int p1), .unset, .unset, .unset, .unset, .unset, .unset] [.int 8232, .int 3, (.ref b5), (.ref b5)])) rfl rfl (hb hby at_24)
  have V13 : Arv Z h13 b5 k5 .int (4 : Int32) [(.int (10 : Int32)), (.int (13 : Int32)), (.int (133 : Int32)), (.int (8232 : Int32))] (.int (0 : Int32)) := Arv.set Ar13 q13 S13 M13 H13 G13 rfl W13 3 rfl (Nat.le_of_ble_eq_true rfl)
  have sz14 : n0 ≤ h13.size := Nat.le_trans sz12 (Keep.of_wr W13).1
  have N13 := Fr.snoc X13 N11 ge_b5
  obtain ⟨cl15, Ar15, q15, S15, M15, H15, G15⟩ := id V13
  have hin15 : ¬ ((p1 &&& (3 : Int32)) < 0 ∨ cl15.slots.size ≤ ((p1 &&& (3 : Int32))).toNatClampNeg) := inb_of S15 (own_in _ hJ0 hJ1)
  have hat15 : cl15.slots[((p1 &&& (3 : Int32))).toNatClampNeg]? = some (.int (own_e (p1 &&& (3 : Int32)))) := Has.at H15 hin15 (own_at _ hJ0 hJ1)
  have ld15 := X13.iaload hx (j := (p1 &&& (3 : Int32))) (v := (.int (own_e (p1 &&& (3 : Int32))))) (by rw [e13]; exact Ar15.1) (State.isArrayOf_alike hZ.alike Ar15.2.1) Ar15.2.2 hin15 hat15 (g := (mkF m 30 #[.val (.int p0), .val (.int p1), .val (.ref b5), .unset, .unset, .unset, .unset, .unset] [(.int (p1 &&& (3 : Int32))), (.ref b5)])) rfl rfl (hb hby at_30)
  have sg20 : ∀ target, Steps p.tables e below (T13.setTop (mkF m 63 (own_loc1 p0 p1 b5) [(.int (own_g0_32 p0))])) target → Steps p.tables e below (T13.setTop (mkF m 32 (own_loc1 p0 p1 b5) [])) target := by
    intro target kt
    show own_S p e below T13 (mkF m 32 (own_loc1 p0 p1 b5) []) _
    refine XS.iloadN X13.here hx rfl (hb hby at_32) rfl ?_
    show own_S p e below T13 (mkF m 33 (own_loc1 p0 p1 b5) [(.int p0)]) _
    refine XS.bipush X13.here hx rfl (hb hby at_33) ?_
    by_cases hc16 : p0 = (10 : Int32)
    · show own_S p e below T13 (mkF m 35 (own_loc1 p0 p1 b5) [.int 10, (.int p0)]) _
      refine XS.icmpYes X13.here hx rfl (pc0 := 35) (pc' := 58) rfl (hb hby at_35) rfl (teq hc16).1 (by decide) (by decide) ?_
      show own_S p e below T13 (mkF m 58 (own_loc1 p0 p1 b5) []) _
      refine XS.iconst X13.here hx rfl (hb hby at_58) ?_
      show own_S p e below T13 (mkF m 59 (own_loc1 p0 p1 b5) [.int 1]) _
      refine XS.goto X13.here hx rfl (pc0 := 59) (pc' := 63) rfl (hb hby at_59) (by decide) (by decide) ?_
      show own_S p e below T13 (mkF m 63 (own_loc1 p0 p1 b5) [.int 1]) _
      have kt := own_cast (P := fun z => Steps p.tables e below (T13.setTop (mkF m 63 (own_loc1 p0 p1 b5) [(.int z)])) target) (show (own_g0_32 p0) = (1 : Int32) from (by unfold own_g0_32; rw [if_pos hc16])) kt
      exact kt
    · show own_S p e below T13 (mkF m 35 (own_loc1 p0 p1 b5) [.int 10, (.int p0)]) _
      refine XS.icmpNo X13.here hx rfl (hb hby at_35) rfl (feq hc16).1 ?_
      show own_S p e below T13 (mkF m 38 (own_loc1 p0 p1 b5) []) _
      refine XS.iloadN X13.here hx rfl (hb hby at_38) rfl ?_
      show own_S p e below T13 (mkF m 39 (own_loc1 p0 p1 b5) [(.int p0)]) _
      refine XS.bipush X13.here hx rfl (hb hby at_39) ?_
      by_cases hc17 : p0 = (13 : Int32)
      · show own_S p e below T13 (mkF m 41 (own_loc1 p0 p1 b5) [.int 13, (.int p0)]) _
        refine XS.icmpYes X13.here hx rfl (pc0 := 41) (pc' := 58) rfl (hb hby at_41) rfl (teq hc17).1 (by decide) (by decide) ?_
        show own_S p e below T13 (mkF m 58 (own_loc1 p0 p1 b5) []) _
        refine XS.iconst X13.here hx rfl (hb hby at_58) ?_
        show own_S p e below T13 (mkF m 59 (own_loc1 p0 p1 b5) [.int 1]) _
        refine XS.goto X13.here hx rfl (pc0 := 59) (pc' := 63) rfl (hb hby at_59) (by decide) (by decide) ?_
        show own_S p e below T13 (mkF m 63 (own_loc1 p0 p1 b5) [.int 1]) _
        have kt := own_cast (P := fun z => Steps p.tables e below (T13.setTop (mkF m 63 (own_loc1 p0 p1 b5) [(.int z)])) target) (show (own_g0_32 p0) = (1 : Int32) from (by unfold own_g0_32; rw [if_neg hc16, if_pos hc17])) kt
        exact kt
      · show own_S p e below T13 (mkF m 41 (own_loc1 p0 p1 b5) [.int 13, (.int p0)]) _
        refine XS.icmpNo X13.here hx rfl (hb hby at_41) rfl (feq hc17).1 ?_
        show own_S p e below T13 (mkF m 44 (own_loc1 p0 p1 b5) []) _
        refine XS.iloadN X13.here hx rfl (hb hby at_44) rfl ?_
        show own_S p e below T13 (mkF m 45 (own_loc1 p0 p1 b5) [(.int p0)]) _
        refine XS.sipush X13.here hx rfl (hb hby at_45) ?_
        by_cases hc18 : p0 = (133 : Int32)
        · show own_S p e below T13 (mkF m 48 (own_loc1 p0 p1 b5) [.int 133, (.int p0)]) _
          refine XS.icmpYes X13.here hx rfl (pc0 := 48) (pc' := 58) rfl (hb hby at_48) rfl (teq hc18).1 (by decide) (by decide) ?_
          show own_S p e below T13 (mkF m 58 (own_loc1 p0 p1 b5) []) _
          refine XS.iconst X13.here hx rfl (hb hby at_58) ?_
          show own_S p e below T13 (mkF m 59 (own_loc1 p0 p1 b5) [.int 1]) _
          refine XS.goto X13.here hx rfl (pc0 := 59) (pc' := 63) rfl (hb hby at_59) (by decide) (by decide) ?_
          show own_S p e below T13 (mkF m 63 (own_loc1 p0 p1 b5) [.int 1]) _
          have kt := own_cast (P := fun z => Steps p.tables e below (T13.setTop (mkF m 63 (own_loc1 p0 p1 b5) [(.int z)])) target) (show (own_g0_32 p0) = (1 : Int32) from (by unfold own_g0_32; rw [if_neg hc16, if_neg hc17, if_pos hc18])) kt
          exact kt
        · show own_S p e below T13 (mkF m 48 (own_loc1 p0 p1 b5) [.int 133, (.int p0)]) _
          refine XS.icmpNo X13.here hx rfl (hb hby at_48) rfl (feq hc18).1 ?_
          show own_S p e below T13 (mkF m 51 (own_loc1 p0 p1 b5) []) _
          refine XS.iloadN X13.here hx rfl (hb hby at_51) rfl ?_
          show own_S p e below T13 (mkF m 52 (own_loc1 p0 p1 b5) [(.int p0)]) _
          refine XS.sipush X13.here hx rfl (hb hby at_52) ?_
          by_cases hc19 : p0 = (8232 : Int32)
          · show own_S p e below T13 (mkF m 55 (own_loc1 p0 p1 b5) [.int 8232, (.int p0)]) _
            refine XS.icmpNo X13.here hx rfl (hb hby at_55) rfl (teq hc19).2 ?_
            show own_S p e below T13 (mkF m 58 (own_loc1 p0 p1 b5) []) _
            refine XS.iconst X13.here hx rfl (hb hby at_58) ?_
            show own_S p e below T13 (mkF m 59 (own_loc1 p0 p1 b5) [.int 1]) _
            refine XS.goto X13.here hx rfl (pc0 := 59) (pc' := 63) rfl (hb hby at_59) (by decide) (by decide) ?_
            show own_S p e below T13 (mkF m 63 (own_loc1 p0 p1 b5) [.int 1]) _
            have kt := own_cast (P := fun z => Steps p.tables e below (T13.setTop (mkF m 63 (own_loc1 p0 p1 b5) [(.int z)])) target) (show (own_g0_32 p0) = (1 : Int32) from (by unfold own_g0_32; rw [if_neg hc16, if_neg hc17, if_neg hc18, if_pos hc19])) kt
            exact kt
          · show own_S p e below T13 (mkF m 55 (own_loc1 p0 p1 b5) [.int 8232, (.int p0)]) _
            refine XS.icmpYes X13.here hx rfl (pc0 := 55) (pc' := 62) rfl (hb hby at_55) rfl (feq hc19).2 (by decide) (by decide) ?_
            show own_S p e below T13 (mkF m 62 (own_loc1 p0 p1 b5) []) _
            refine XS.iconst X13.here hx rfl (hb hby at_62) ?_
            show own_S p e below T13 (mkF m 63 (own_loc1 p0 p1 b5) [.int 0]) _
            have kt := own_cast (P := fun z => Steps p.tables e below (T13.setTop (mkF m 63 (own_loc1 p0 p1 b5) [(.int z)])) target) (show (own_g0_32 p0) = (0 : Int32) from (by unfold own_g0_32; rw [if_neg hc16, if_neg hc17, if_neg hc18, if_neg hc19])) kt
            exact kt
  have cp21 : ∀ target, own_S p e below T13 (mkF m 66 (own_loc2 p0 p1 b5) [(.int p0)]) target → own_S p e below s₁ (mkF m 0 #[.val (.int p0), .val (.int p1), .unset, .unset, .unset, .unset, .unset, .unset] []) target := by
    intro target kt
    show own_S p e below s₁ (mkF m 0 #[.val (.int p0), .val (.int p1), .unset, .unset, .unset, .unset, .unset, .unset] []) _
    refine XS.iconst X0.here hx rfl (hb hby at_0) ?_
    show own_S p e below s₁ (mkF m 1 #[.val (.int p0), .val (.int p1), .unset, .unset, .unset, .unset, .unset, .unset] [.int 4]) _
    refine st5 _ ?_
    show own_S p e below T5 (mkF m 3 #[.val (.int p0), .val (.int p1), .unset, .unset, .unset, .unset, .unset, .unset] [(.ref b5)]) _
    refine XS.dup X5.here hx rfl (hb hby at_3) rfl rfl ?_
    show own_S p e below T5 (mkF m 4 #[.val (.int p0), .val (.int p1), .unset, .unset, .unset, .unset, .unset, .unset] [(.ref b5), (.ref b5)]) _
    refine XS.iconst X5.here hx rfl (hb hby at_4) ?_
    show own_S p e below T5 (mkF m 5 #[.val (.int p0), .val (.int p1), .unset, .unset, .unset, .unset, .unset, .unset] [.int 0, (.ref b5), (.ref b5)]) _
    refine XS.bipush X5.here hx rfl (hb hby at_5) ?_
    show own_S p e below T5 (mkF m 7 #[.val (.int p0), .val (.int p1), .unset, .unset, .unset, .unset, .unset, .unset] [.int 10, .int 0, (.ref b5), (.ref b5)]) _
    refine st7 _ ?_
    show own_S p e below T7 (mkF m 8 #[.val (.int p0), .val (.int p1), .unset, .unset, .unset, .unset, .unset, .unset] [(.ref b5)]) _
    refine XS.dup X7.here hx rfl (hb hby at_8) rfl rfl ?_
    show own_S p e below T7 (mkF m 9 #[.val (.int p0), .val (.int p1), .unset, .unset, .unset, .unset, .unset, .unset] [(.ref b5), (.ref b5)]) _
    refine XS.iconst X7.here hx rfl (hb hby at_9) ?_
    show own_S p e below T7 (mkF m 10 #[.val (.int p0), .val (.int p1), .unset, .unset, .unset, .unset, .unset, .unset] [.int 1, (.ref b5), (.ref b5)]) _
    refine XS.bipush X7.here hx rfl (hb hby at_10) ?_
    show own_S p e below T7 (mkF m 12 #[.val (.int p0), .val (.int p1), .unset, .unset, .unset, .unset, .unset, .unset] [.int 13, .int 1, (.ref b5), (.ref b5)]) _
    refine st9 _ ?_
    show own_S p e below T9 (mkF m 13 #[.val (.int p0), .val (.int p1), .unset, .unset, .unset, .unset, .unset, .unset] [(.ref b5)]) _
    refine XS.dup X9.here hx rfl (hb hby at_13) rfl rfl ?_
    show own_S p e below T9 (mkF m 14 #[.val (.int p0), .val (.int p1), .unset, .unset, .unset, .unset, .unset, .unset] [(.ref b5), (.ref b5)]) _
    refine XS.iconst X9.here hx rfl (hb hby at_14) ?_
    show own_S p e below T9 (mkF m 15 #[.val (.int p0), .val (.int p1), .unset, .unset, .unset, .unset, .unset, .unset] [.int 2, (.ref b5), (.ref b5)]) _
    refine XS.sipush X9.here hx rfl (hb hby at_15) ?_
    show own_S p e below T9 (mkF m 18 #[.val (.int p0), .val (.int p1), .unset, .unset, .unset, .unset, .unset, .unset] [.int 133, .int 2, (.ref b5), (.ref b5)]) _
    refine st11 _ ?_
    show own_S p e below T11 (mkF m 19 #[.val (.int p0), .val (.int p1), .unset, .unset, .unset, .unset, .unset, .unset] [(.ref b5)]) _
    refine XS.dup X11.here hx rfl (hb hby at_19) rfl rfl ?_
    show own_S p e below T11 (mkF m 20 #[.val (.int p0), .val (.int p1), .unset, .unset, .unset, .unset, .unset, .unset] [(.ref b5), (.ref b5)]) _
    refine XS.iconst X11.here hx rfl (hb hby at_20) ?_
    show own_S p e below T11 (mkF m 21 #[.val (.int p0), .val (.int p1), .unset, .unset, .unset, .unset, .unset, .unset] [.int 3, (.ref b5), (.ref b5)]) _
    refine XS.sipush X11.here hx rfl (hb hby at_21) ?_
    show own_S p e below T11 (mkF m 24 #[.val (.int p0), .val (.int p1), .unset, .unset, .unset, .unset, .unset, .unset] [.int 8232, .int 3, (.ref b5), (.ref b5)]) _
    refine st13 _ ?_
    show own_S p e below T13 (mkF m 25 #[.val (.int p0), .val (.int p1), .unset, .unset, .unset, .unset, .unset, .unset] [(.ref b5)]) _
    refine XS.astoreN X13.here hx rfl (hb hby at_25) rfl rfl (l' := #[.val (.int p0), .val (.int p1), .val (.ref b5), .unset, .unset, .unset, .unset, .unset]) rfl ?_
    show own_S p e below T13 (mkF m 26 #[.val (.int p0), .val (.int p1), .val (.ref b5), .unset, .unset, .unset, .unset, .unset] []) _
    refine XS.aloadN X13.here hx rfl (hb hby at_26) rfl rfl ?_
    show own_S p e below T13 (mkF m 27 #[.val (.int p0), .val (.int p1), .val (.ref b5), .unset, .unset, .unset, .unset, .unset] [(.ref b5)]) _
    refine XS.iloadN X13.here hx rfl (hb hby at_27) rfl ?_
    show own_S p e below T13 (mkF m 28 #[.val (.int p0), .val (.int p1), .val (.ref b5), .unset, .unset, .unset, .unset, .unset] [(.int p1), (.ref b5)]) _
    refine XS.iconst X13.here hx rfl (hb hby at_28) ?_
    show own_S p e below T13 (mkF m 29 #[.val (.int p0), .val (.int p1), .val (.ref b5), .unset, .unset, .unset, .unset, .unset] [.int 3, (.int p1), (.ref b5)]) _
    refine XS.iand X13.here hx rfl (hb hby at_29) rfl ?_
    show own_S p e below T13 (mkF m 30 #[.val (.int p0), .val (.int p1), .val (.ref b5), .unset, .unset, .unset, .unset, .unset] [(.int (p1 &&& (3 : Int32))), (.ref b5)]) _
    refine ld15 _ ?_
    show own_S p e below T13 (mkF m 31 #[.val (.int p0), .val (.int p1), .val (.ref b5), .unset, .unset, .unset, .unset, .unset] [(.int (own_e (p1 &&& (3 : Int32))))]) _
    refine XS.istoreN X13.here hx rfl (hb hby at_31) rfl (l' := (own_loc1 p0 p1 b5)) rfl ?_
    show own_S p e below T13 (mkF m 32 (own_loc1 p0 p1 b5) []) _
    refine sg20 _ ?_
    show own_S p e below T13 (mkF m 63 (own_loc1 p0 p1 b5) [(.int (own_g0_32 p0))]) _
    refine XS.istore X13.here hx rfl (hb hby at_63) rfl (l' := (own_loc2 p0 p1 b5)) rfl ?_
    show own_S p e below T13 (mkF m 65 (own_loc2 p0 p1 b5) []) _
    refine XS.iloadN X13.here hx rfl (hb hby at_65) rfl ?_
    exact kt
  obtain ⟨_, _, ⟨T22, L22, k22, n22⟩, -, X22, ⟨Lc22, hQ22, l22, y22, z22⟩, st22⟩ := Jvm.LawKit.callS X13 hx (y := (⟨"com/example/xml_signing/xmlsigning/c14n/PrologText", "isLineEnd", "(I)Z"⟩ : MethodName)) hown (mvT hZ (hw _ (List.mem_of_getElem? (i := 1) rfl))) (mvT hZ (hw _ (List.mem_of_getElem? (i := 2) rfl))) (mvT hZ (hw _ (List.mem_of_getElem? (i := 3) rfl))) (mvT hZ (hw _ (List.mem_of_getElem? (i := 4) rfl))) (by decide) (backOf (W := 0) (rm1 l Z ag hw [] p0  h13 n0 sz14 ) hZ (hw _ (List.mem_of_getElem? (i := 4) rfl)) (hw _ (List.mem_of_getElem? (i := 3) rfl)) (by decide) (by decide)) (g := (mkF m 66 (own_loc2 p0 p1 b5) [(.int p0)])) rfl (by rw [hml]; rfl) (argsL := [(.int p0)]) (rest := []) (lenOf pd_0 rfl) rfl (by show 2 * 0 + _ ≤ _; exact Nat.le_of_eq rfl) (hb hby at_66) (fun _ _ => ⟨rfl, e13, (by decide : 1 + 0 ≤ _), (by decide : 4 + 0 ≤ _)⟩)
  dsimp only [Pt.U, Pt.locs, Pt.cells, Pt.slots] at X22 l22 y22 z22 st22 hQ22
  subst l22 y22 z22
  obtain ⟨rfl, N22q, e22⟩ := hQ22
  have N22 := Fr.app N13 N22q
  obtain ⟨_, _, ⟨T23, L23, k23, n23⟩, -, X23, ⟨Lc23, hQ23, l23, y23, z23⟩, st23⟩ := Jvm.LawKit.callS X22 hx (y := (⟨"com/example/xml_signing/xmlsigning/c14n/PrologText", "isLineEnd", "(I)Z"⟩ : MethodName)) hown (mvT hZ (hw _ (List.mem_of_getElem? (i := 1) rfl))) (mvT hZ (hw _ (List.mem_of_getElem? (i := 2) rfl))) (mvT hZ (hw _ (List.mem_of_getElem? (i := 3) rfl))) (mvT hZ (hw _ (List.mem_of_getElem? (i := 4) rfl))) (by decide) (backOf (W := 0) (rm1 l Z ag hw [] (own_e (p1 &&& (3 : Int32)))  h13 n0 sz14 ) hZ (hw _ (List.mem_of_getElem? (i := 4) rfl)) (hw _ (List.mem_of_getElem? (i := 3) rfl)) (by decide) (by decide)) (g := (mkF m 82 (own_loc3 p0 p1 b5) [(.int (own_e (p1 &&& (3 : Int32))))])) rfl (by rw [hml]; rfl) (argsL := [(.int (own_e (p1 &&& (3 : Int32))))]) (rest := []) (lenOf pd_0 rfl) rfl (by show 2 * 0 + _ ≤ _; exact Nat.le_of_eq rfl) (hb hby at_82) (fun _ _ => ⟨rfl, e22, (by decide : 1 + 0 ≤ _), (by decide : 4 + 0 ≤ _)⟩)
  dsimp only [Pt.U, Pt.locs, Pt.cells, Pt.slots] at X23 l23 y23 z23 st23 hQ23
  subst l23 y23 z23
  obtain ⟨rfl, N23q, e23⟩ := hQ23
  have N23 := Fr.app N22 N23q
  have cp24 : ∀ target, own_S p e below T23 (mkF m 90 (own_loc4 p0 p1 b5) [(.int ((own_e (p1 &&& (3 : Int32))) + (1 : Int32)))]) target → own_S p e below s₁ (mkF m 0 #[.val (.int p0), .val (.int p1), .unset, .unset, .unset, .unset, .unset, .unset] []) target := by
    intro target kt
    show own_S p e below s₁ (mkF m 0 #[.val (.int p0), .val (.int p1), .unset, .unset, .unset, .unset, .unset, .unset] []) _
    refine cp21 _ ?_
    show own_S p e below T13 (mkF m 66 (own_loc2 p0 p1 b5) [(.int p0)]) _
    refine st22 _ ?_
    show own_S p e below T22 (mkF m 69 (own_loc2 p0 p1 b5) [(.int (own_f1 p0))]) _
    refine XS.iload X22.here hx rfl (hb hby at_69) rfl ?_
    show own_S p e below T22 (mkF m 71 (own_loc2 p0 p1 b5) [(.int (own_g0_32 p0)), (.int (own_f1 p0))]) _
    refine XS.icmpNo X22.here hx rfl (hb hby at_71) rfl (teq (show (own_f1 p0) = (own_g0_32 p0) from rfl)).2 ?_
    show own_S p e below T22 (mkF m 74 (own_loc2 p0 p1 b5) []) _
    refine XS.iconst X22.here hx rfl (hb hby at_74) ?_
    show own_S p e below T22 (mkF m 75 (own_loc2 p0 p1 b5) [.int 1]) _
    refine XS.goto X22.here hx rfl (pc0 := 75) (pc' := 79) rfl (hb hby at_75) (by decide) (by decide) ?_
    show own_S p e below T22 (mkF m 79 (own_loc2 p0 p1 b5) [.int 1]) _
    refine XS.istore X22.here hx rfl (hb hby at_79) rfl (l' := (own_loc3 p0 p1 b5)) rfl ?_
    show own_S p e below T22 (mkF m 81 (own_loc3 p0 p1 b5) []) _
    refine XS.iloadN X22.here hx rfl (hb hby at_81) rfl ?_
    show own_S p e below T22 (mkF m 82 (own_loc3 p0 p1 b5) [(.int (own_e (p1 &&& (3 : Int32))))]) _
    refine st23 _ ?_
    show own_S p e below T23 (mkF m 85 (own_loc3 p0 p1 b5) [(.int (own_f1 (own_e (p1 &&& (3 : Int32)))))]) _
    refine XS.istore X23.here hx rfl (hb hby at_85) rfl (l' := (own_loc4 p0 p1 b5)) rfl ?_
    show own_S p e below T23 (mkF m 87 (own_loc4 p0 p1 b5) []) _
    refine XS.iloadN X23.here hx rfl (hb hby at_87) rfl ?_
    show own_S p e below T23 (mkF m 88 (own_loc4 p0 p1 b5) [(.int (own_e (p1 &&& (3 : Int32))))]) _
    refine XS.iconst X23.here hx rfl (hb hby at_88) ?_
    show own_S p e below T23 (mkF m 89 (own_loc4 p0 p1 b5) [.int 1, (.int (own_e (p1 &&& (3 : Int32))))]) _
    refine XS.iadd X23.here hx rfl (hb hby at_89) rfl ?_
    exact kt
  obtain ⟨_, _, ⟨T25, L25, k25, n25⟩, -, X25, ⟨Lc25, hQ25, l25, y25, z25⟩, st25⟩ := Jvm.LawKit.callS X23 hx (y := (⟨"com/example/xml_signing/xmlsigning/c14n/PrologText", "isLineEnd", "(I)Z"⟩ : MethodName)) hown (mvT hZ (hw _ (List.mem_of_getElem? (i := 1) rfl))) (mvT hZ (hw _ (List.mem_of_getElem? (i := 2) rfl))) (mvT hZ (hw _ (List.mem_of_getElem? (i := 3) rfl))) (mvT hZ (hw _ (List.mem_of_getElem? (i := 4) rfl))) (by decide) (backOf (W := 0) (rm1 l Z ag hw [] ((own_e (p1 &&& (3 : Int32))) + (1 : Int32))  h13 n0 sz14 ) hZ (hw _ (List.mem_of_getElem? (i := 4) rfl)) (hw _ (List.mem_of_getElem? (i := 3) rfl)) (by decide) (by decide)) (g := (mkF m 90 (own_loc4 p0 p1 b5) [(.int ((own_e (p1 &&& (3 : Int32))) + (1 : Int32)))])) rfl (by rw [hml]; rfl) (argsL := [(.int ((own_e (p1 &&& (3 : Int32))) + (1 : Int32)))]) (rest := []) (lenOf pd_0 rfl) rfl (by show 2 * 0 + _ ≤ _; exact Nat.le_of_eq rfl) (hb hby at_90) (fun _ _ => ⟨rfl, e23, (by decide : 1 + 0 ≤ _), (by decide : 4 + 0 ≤ _)⟩)
  dsimp only [Pt.U, Pt.locs, Pt.cells, Pt.slots] at X25 l25 y25 z25 st25 hQ25
  subst l25 y25 z25
  obtain ⟨rfl, N25q, e25⟩ := hQ25
  have N25 := Fr.app N23 N25q
  obtain ⟨_, _, ⟨T26, L26, k26, n26⟩, -, X26, ⟨Lc26, hQ26, l26, y26, z26⟩, st26⟩ := Jvm.LawKit.callS X25 hx (y := (⟨"com/example/xml_signing/xmlsigning/c14n/PrologText", "isLineEnd", "(I)Z"⟩ : MethodName)) hown (mvT hZ (hw _ (List.mem_of_getElem? (i := 1) rfl))) (mvT hZ (hw _ (List.mem_of_getElem? (i := 2) rfl))) (mvT hZ (hw _ (List.mem_of_getElem? (i := 3) rfl))) (mvT hZ (hw _ (List.mem_of_getElem? (i := 4) rfl))) (by decide) (backOf (W := 0) (rm1 l Z ag hw [] ((own_e (p1 &&& (3 : Int32))) - (1 : Int32))  h13 n0 sz14 ) hZ (hw _ (List.mem_of_getElem? (i := 4) rfl)) (hw _ (List.mem_of_getElem? (i := 3) rfl)) (by decide) (by decide)) (g := (mkF m 99 (own_loc4 p0 p1 b5) [(.int ((own_e (p1 &&& (3 : Int32))) - (1 : Int32)))])) rfl (by rw [hml]; rfl) (argsL := [(.int ((own_e (p1 &&& (3 : Int32))) - (1 : Int32)))]) (rest := []) (lenOf pd_0 rfl) rfl (by show 2 * 0 + _ ≤ _; exact Nat.le_of_eq rfl) (hb hby at_99) (fun _ _ => ⟨rfl, e25, (by decide : 1 + 0 ≤ _), (by decide : 4 + 0 ≤ _)⟩)
  dsimp only [Pt.U, Pt.locs, Pt.cells, Pt.slots] at X26 l26 y26 z26 st26 hQ26
  subst l26 y26 z26
  obtain ⟨rfl, N26q, e26⟩ := hQ26
  have N26 := Fr.app N25 N26q
  obtain ⟨fs, hr, hrun, hended, hW, hsame⟩ := X26.leave (v := some (.int (1 : Int32))) (fun h => by rw [Bd.returns] at h; cases h)
  refine ⟨_, _, pre0 _ ?_, hrun, hended, _, _, rfl, ?_, ⟨_, rfl⟩, hW, hsame.mono (by decide) (by decide)⟩
  · show own_S p e below s₁ (mkF m 0 #[.val (.int p0), .val (.int p1), .unset, .unset, .unset, .unset, .unset, .unset] []) _
    refine cp24 _ ?_
    show own_S p e below T23 (mkF m 90 (own_loc4 p0 p1 b5) [(.int ((own_e (p1 &&& (3 : Int32))) + (1 : Int32)))]) _
    refine st25 _ ?_
    show own_S p e below T25 (mkF m 93 (own_loc4 p0 p1 b5) [(.int (own_f1 ((own_e (p1 &&& (3 : Int32))) + (1 : Int32))))]) _
    refine XS.ifNo X25.here hx rfl (hb hby at_93) rfl ((if0 _ _).trans (teq (show (own_f1 ((own_e (p1 &&& (3 : Int32))) + (1 : Int32))) = (0 : Int32) from (own_k2 _))).2) ?_
    show own_S p e below T25 (mkF m 96 (own_loc4 p0 p1 b5) []) _
    refine XS.iloadN X25.here hx rfl (hb hby at_96) rfl ?_
    show own_S p e below T25 (mkF m 97 (own_loc4 p0 p1 b5) [(.int (own_e (p1 &&& (3 : Int32))))]) _
    refine XS.iconst X25.here hx rfl (hb hby at_97) ?_
    show own_S p e below T25 (mkF m 98 (own_loc4 p0 p1 b5) [.int 1, (.int (own_e (p1 &&& (3 : Int32))))]) _
    refine XS.isub X25.here hx rfl (hb hby at_98) rfl ?_
    show own_S p e below T25 (mkF m 99 (own_loc4 p0 p1 b5) [(.int ((own_e (p1 &&& (3 : Int32))) - (1 : Int32)))]) _
    refine st26 _ ?_
    show own_S p e below T26 (mkF m 102 (own_loc4 p0 p1 b5) [(.int (own_f1 ((own_e (p1 &&& (3 : Int32))) - (1 : Int32))))]) _
    refine XS.ifNo X26.here hx rfl (hb hby at_102) rfl ((if0 _ _).trans (teq (show (own_f1 ((own_e (p1 &&& (3 : Int32))) - (1 : Int32))) = (0 : Int32) from (own_k3 _))).2) ?_
    show own_S p e below T26 (mkF m 105 (own_loc4 p0 p1 b5) []) _
    refine XS.iconst X26.here hx rfl (hb hby at_105) ?_
    show own_S p e below T26 (mkF m 106 (own_loc4 p0 p1 b5) [.int 1]) _
    refine XS.goto X26.here hx rfl (pc0 := 106) (pc' := 110) rfl (hb hby at_106) (by decide) (by decide) ?_
    show own_S p e below T26 (mkF m 110 (own_loc4 p0 p1 b5) [.int 1]) _
    refine XS.istore X26.here hx rfl (hb hby at_110) rfl (l' := (own_loc5 p0 p1 b5)) rfl ?_
    show own_S p e below T26 (mkF m 112 (own_loc5 p0 p1 b5) []) _
    refine XS.iload X26.here hx rfl (hb hby at_112) rfl ?_
    show own_S p e below T26 (mkF m 114 (own_loc5 p0 p1 b5) [.int 1]) _
    refine XS.ifNo X26.here hx rfl (hb hby at_114) rfl ((if0 _ _).trans (feq (by decide : ¬ ((1 : Int32) = (0 : Int32)))).1) ?_
    show own_S p e below T26 (mkF m 117 (own_loc5 p0 p1 b5) []) _
    refine XS.iload X26.here hx rfl (hb hby at_117) rfl ?_
    show own_S p e below T26 (mkF m 119 (own_loc5 p0 p1 b5) [(.int (own_f1 (own_e (p1 &&& (3 : Int32)))))]) _
    refine XS.ifNo X26.here hx rfl (hb hby at_119) rfl ((if0 _ _).trans (feq (show ¬ ((own_f1 (own_e (p1 &&& (3 : Int32)))) = (0 : Int32)) from (own_k1 _))).1) ?_
    show own_S p e below T26 (mkF m 122 (own_loc5 p0 p1 b5) []) _
    refine XS.iload X26.here hx rfl (hb hby at_122) rfl ?_
    show own_S p e below T26 (mkF m 124 (own_loc5 p0 p1 b5) [.int 1]) _
    refine XS.ifNo X26.here hx rfl (hb hby at_124) rfl ((if0 _ _).trans (feq (by decide : ¬ ((1 : Int32) = (0 : Int32)))).1) ?_
    show own_S p e below T26 (mkF m 127 (own_loc5 p0 p1 b5) []) _
    refine XS.iconst X26.here hx rfl (hb hby at_127) ?_
    show own_S p e below T26 (mkF m 128 (own_loc5 p0 p1 b5) [.int 1]) _
    refine XS.goto X26.here hx rfl (pc0 := 128) (pc' := 132) rfl (hb hby at_128) (by decide) (by decide) ?_
    show own_S p e below T26 (mkF m 132 (own_loc5 p0 p1 b5) [.int 1]) _
    exact retN X26 hx (t := .boolean) Bd.returns (by simp) (hb hby at_132) hr
  · exact ⟨rfl, N26⟩
set_option maxRecDepth 65536 in
set_option maxHeartbeats 40000000 in
theorem comes_1 {Post : Tables → Env → Array Value → State → Outcome → State → Prop} (hpost : ∀ tb e args s v u, (limb_1_1.after args s (.returned v) u = true ∧ limb_1_2.after args s (.returned v) u = true ∧ True) → FrameEnd s (.returned v) u (Jvm.fieldLocs frame_1_writes args s ++ Jvm.arrayLocs frame_1_arrays args s ++ Jvm.staticLocs frame_1_statics s) 16 128 → Post tb e args s (.returned v) u) :
    ArmFor flags0 classFile x code maxLocals ret World_1 tables_1 room_1 Calls_1 rest_1 Pre_1 Post := by
  intro l hfl _ _ p e ha hc hk s m args below hf hA hF happ hP
  obtain ⟨hcalls, hrest, hpre⟩ := hP
  obtain ⟨-, -, -, hnamed, -, -, -, hat⟩ := (Spec.applies_iff hf).mp happ
  obtain ⟨hg, hn⟩ := and_e (Cond.before_iff.mp (show (Jvm.Cond.and given_1 narrow_1).before args s = true from hpre))
  obtain ⟨g27, g28⟩ := and_e hg
  obtain ⟨g29, g30⟩ := and_e g28
  obtain ⟨w0, w1, rfl⟩ : ∃ w0 w1 : Value, args = #[w0, w1] := by
    have hs : args.size = 2 := by simpa [Cond.value, given_1] using g27
    obtain ⟨L⟩ := args
    match L, hs with
    | [w0, w1], _ => exact ⟨w0, w1, rfl⟩
  have hw := fun d (hd : d ∈ tables_1) => atoms_spec (ws := Jvm.Cond.code x code maxLocals ret :: tables_1) hat d (List.mem_cons_of_mem _ hd)
  have hfit : Fit s := fun {y c} hc i hi => by
    obtain ⟨ha, rfl⟩ := Array.getElem?_eq_some_iff.mp hc
    have q := List.all_eq_true.mp ((Array.all_eq_true_iff_forall_mem.mp hF) _ (Array.getElem_mem ha)) i (List.mem_range.mpr hi)
    simpa [Array.getElem?_eq_getElem hi] using q
  obtain ⟨i0, ei0⟩ := is_v g29
  obtain rfl : w0 = (.int i0) := Option.some.inj ei0
  obtain ⟨i1, ei1⟩ := is_v g30
  obtain rfl : w1 = (.int i1) := Option.some.inj ei1
  obtain ⟨n, o, h1, h2, h3, _, L, rfl, ⟨rfl, N⟩, hq⟩ := rm0 l s _ hw tables_1 i0 i1 s.heap s.heap.size (Nat.le_refl _)  p e ha hc hk s m _ below hf ((Spec.applies_iff_loose hf).mp happ).1 ⟨rfl, State.Warmed39.refl s, rfl⟩ trivial
  refine ⟨n, _, h1, h2, h3, hpost _ _ _ _ _ _ ⟨Cond.after_iff.mpr rfl, Cond.after_iff.mpr (eq_i res_at (Term.int_eval (1)) rfl), trivial⟩ ⟨hq.1, hq.2.1, (hq.2.2.sift fun y hy => Or.inr (N y hy)).mono (by decide) (by decide)⟩⟩
theorem main_1_1 : Claimed_1_1 := comes_1 fun _ _ _ _ _ _ h hF => ⟨h.1, hF⟩
theorem main_1_2 : Claimed_1_2 := comes_1 fun _ _ _ _ _ _ h hF => ⟨h.2.1, hF⟩
end Jvm.Pilot.@@N@@
namespace Jvm.Pilot.@@N@@
open Jvm Jvm.ClassFile Sem Op Lib Jvm.Free Jvm.Stand Jvm.Pilot.@@N@@.Jvm.D
/-! MADE BY PROGRAM (witnessworld.py) out of the Statement's table words and the real class files: 9 classes; the members and pool entries that the words name. The judged class is class 1, her method 1. -/
namespace start1
open Jvm.ClassFile
def u (s : String) : CpInfo := .utf8 (stringToUtf16 s)
/-- a pool by its gaps: so many unusable entries, then the entry; so many at the end -/
def gap : Nat → List CpInfo → List CpInfo
  | 0, r => r
  | n + 1, r => .unusable :: gap n r
def poolList (es : List (Nat × CpInfo)) (last : Nat) : List CpInfo := es.foldr (fun e r => gap e.1 (e.2 :: r)) (gap last [])
def pool (es : List (Nat × CpInfo)) (last : Nat) : Array CpInfo := ⟨poolList es last⟩
def fileOf (pool : Array CpInfo) (this : Nat) (attrs : Array Attribute := #[]) (ms : Array MethodInfo := #[]) (fl : Nat := 33) (sup : Nat := 0) (ifs : Array Nat := #[]) (fds : Array FieldInfo := #[]) : ClassFile where
  minorVersion := 0
  majorVersion := 65
  constantPool := pool
  accessFlags := fl
  thisClass := this
  superClass := sup
  interfaces := ifs
  fields := fds
  methods := ms
  attributes := attrs
def plain (name : String) (sup : Option ClassId) : Class where
  name := name
  kind := .ordinary
  loader := none
  accessFlags := 33
  super := sup
  interfaces := #[]
  cf := none
  fields := #[]
  methods := #[]
  instanceTypes := #[]
  staticTypes := #[]
  resolved := #[]
  callSites := []
  init := .initialized
  statics := none
  mirror := none

def pool0 : Array CpInfo := pool [(5, u "<init>"), (0, u "()V"), (1, .class_ 10), (1, u "java/lang/Object")] 113

def k0m0 : Method := { name := "<init>", desc := "()V", sig := { parameters := [], returnType := none }, accessFlags := 1, code := none }
/-- java/lang/Object -/
def k0 : Class := { plain "java/lang/Object" none with
  accessFlags := 33
  interfaces := #[]
  cf := some (fileOf pool0 8 #[] #[{ accessFlags := 1, nameIndex := 5, descriptorIndex := 6, attributes := #[] }] 33 0 #[] #[])
  fields := #[]
  methods := #[k0m0]
  instanceTypes := #[]
  staticTypes := #[]
  resolved := Array.replicate 124 none
  statics := none }

def pool1 : Array CpInfo := pool [(2, .class_ 4), (1, u "java/lang/Object"), (0, u "<init>"), (0, u "()V"), (0, .methodref 8 9), (0, .class_ 10), (0, .nameAndType 11 12), (0, u "com/example/xml_signing/xmlsigning/c14n/PrologText"), (0, u "isLineEnd"), (0, u "(I)Z"), (0, .class_ 14), (0, u "com/example/xml_signing/xmlsigning/c14n/PrologTextIsLineEndPinLaw"), (2, u "law"), (0, u "(II)Z")] 5

def k1m0 : Method := { name := "<init>", desc := "()V", sig := { parameters := [], returnType := none }, accessFlags := 2, code := none }
def k1c1 : Code := { maxStack := 4, maxLocals := 8, code := code, exceptionTable := #[], attributes := #[] }
def k1m1 : Method := { name := "law", desc := "(II)Z", sig := { parameters := [.int, .int], returnType := some .boolean }, accessFlags := 9, code := some k1c1 }
/-- com/example/xml_signing/xmlsigning/c14n/PrologTextIsLineEndPinLaw -/
def k1 : Class := { plain "com/example/xml_signing/xmlsigning/c14n/PrologTextIsLineEndPinLaw" (some 0) with
  accessFlags := 49
  interfaces := #[]
  cf := some (fileOf pool1 13 #[] #[{ accessFlags := 2, nameIndex := 5, descriptorIndex := 6, attributes := #[] }, { accessFlags := 9, nameIndex := 17, descriptorIndex := 18, attributes := #[] }] 49 2 #[] #[])
  fields := #[]
  methods := #[k1m0, k1m1]
  instanceTypes := #[]
  staticTypes := #[]
  resolved := Array.replicate 24 none
  statics := none }

def pool2 : Array CpInfo := pool [(2, .class_ 4), (1, u "java/lang/Object"), (0, u "<init>"), (0, u "()V"), (9, .class_ 18), (1, u "com/example/xml_signing/xmlsigning/c14n/PrologText"), (70, u "(I)Z"), (2, u "isLineEnd")] 30

def k2m0 : Method := { name := "<init>", desc := "()V", sig := { parameters := [], returnType := none }, accessFlags := 2, code := none }
def k2c1 : Code := { maxStack := 2, maxLocals := 1, code := prog_61_method_9_code, exceptionTable := #[], attributes := #[] }
def k2m1 : Method := { name := "isLineEnd", desc := "(I)Z", sig := { parameters := [.int], returnType := some .boolean }, accessFlags := 8, code := some k2c1 }
/-- com/example/xml_signing/xmlsigning/c14n/PrologText -/
def k2 : Class := { plain "com/example/xml_signing/xmlsigning/c14n/PrologText" (some 0) with
  accessFlags := 48
  interfaces := #[]
  cf := some (fileOf pool2 16 #[] #[{ accessFlags := 2, nameIndex := 5, descriptorIndex := 6, attributes := #[] }, { accessFlags := 8, nameIndex := 92, descriptorIndex := 89, attributes := #[] }] 48 2 #[] #[])
  fields := #[]
  methods := #[k2m0, k2m1]
  instanceTypes := #[]
  staticTypes := #[]
  resolved := Array.replicate 123 none
  statics := none }

def pool3 : Array CpInfo := pool [(1, u "java/lang/Cloneable"), (0, .class_ 1), (0, u "java/lang/Object"), (0, .class_ 3)] 3

/-- java/lang/Cloneable -/
def k3 : Class := { plain "java/lang/Cloneable" (some 0) with
  accessFlags := 1537
  interfaces := #[]
  cf := some (fileOf pool3 2 #[] #[] 1537 4 #[] #[])
  fields := #[]
  methods := #[]
  instanceTypes := #[]
  staticTypes := #[]
  resolved := Array.replicate 8 none
  statics := none }

def pool4 : Array CpInfo := pool [(1, u "java/io/Serializable"), (0, .class_ 1), (0, u "java/lang/Object"), (0, .class_ 3)] 3

/-- java/io/Serializable -/
def k4 : Class := { plain "java/io/Serializable" (some 0) with
  accessFlags := 1537
  interfaces := #[]
  cf := some (fileOf pool4 2 #[] #[] 1537 4 #[] #[])
  fields := #[]
  methods := #[]
  instanceTypes := #[]
  staticTypes := #[]
  resolved := Array.replicate 8 none
  statics := none }

/-- the primitive byte -/
def k5 : Class := { plain "byte" none with kind := .primitive 'B', accessFlags := 0x411 }
/-- [B -/
def k6 : Class := { plain "[B" (some 0) with kind := .array 5 .byte, interfaces := #[3, 4], accessFlags := 1041 }

/-- the primitive int -/
def k7 : Class := { plain "int" none with kind := .primitive 'I', accessFlags := 0x411 }
/-- [I -/
def k8 : Class := { plain "[I" (some 0) with kind := .array 7 .int, interfaces := #[3, 4], accessFlags := 1041 }

def heap : Heap := #[]
def classes : Array Class := #[k0, k1, k2, k3, k4, k5, k6, k7, k8]
def interned : List (Array UInt16 × Addr) := []
def slotsUsed : Nat := 0
def theMethod : MethodId := ⟨1, 1⟩
def args0 : Array Value := #[.int 5, .int 3]
def aboutOver (below : List Frame) : State where
  vm := { classes := classes, interned := interned.toArray }
  heap := heap
  slotsUsed := slotsUsed
  threads := #[{ frames := .invoking theMethod args0 :: below }]
def below0 : List Frame := [.native { method := ⟨0, 0⟩, args := #[] }]
def about1 : State := aboutOver below0
def p0 : Program := .bare "" "" ""
def e0 : Env := launch0.env 0 0 0
theorem w_frames : about1.frames = Frame.invoking theMethod args0 :: below0 := rfl
set_option maxRecDepth 65536 in
theorem w_args : argsFit about1.vm theMethod args0 = true := by decide +kernel
set_option maxRecDepth 65536 in
theorem w_heap : heapFits about1 = true := by decide +kernel
set_option maxRecDepth 65536 in
theorem w_runnable : about1.curStatus? = some .runnable := by decide +kernel
set_option maxRecDepth 65536 in
theorem w_alone : about1.alone = true := by decide +kernel
set_option maxRecDepth 65536 in
theorem w_named : about1.methodNamed? x = some theMethod := by decide +kernel
set_option maxRecDepth 65536 in
theorem w_hears : about1.hears theMethod below0 = true := by decide +kernel
set_option maxRecDepth 65536 in
theorem w_ripe : about1.ripe theMethod args0 below0 = true := by decide +kernel
theorem w_running : about1.status = .running := rfl
set_option maxRecDepth 65536 in
theorem w_room : about1.hasRoom e0.platform room_1 = true :=
  launch0.hasRoom_least _ room_1 (by decide +kernel) (by decide +kernel) (by decide +kernel) (by decide +kernel) (by decide +kernel) (by decide +kernel)
theorem allAtoms_all (ts : List Jvm.Cond) (a : Array Jvm.Value) (st : Jvm.State) : (allAtoms ts).before a st = ts.all (fun c => c.before a st) := by
  induction ts with
  | nil => rfl
  | cons c t ih =>
    show (Jvm.Cond.and c (allAtoms t)).before a st = _
    rw [Jvm.Cond.before_and, ih, List.all_cons]
def words1 : List Jvm.Cond := Jvm.Cond.code x code maxLocals ret :: tables_1
/-- a 'code' word, met by the world's own term for the bytes: nothing is compared byte by byte -/
theorem code_word {y : MethodName} {bytes : ByteArray} {mx : Nat} {rt : Option FieldType} {a : Array Value} {s : State} {m : MethodId} {meth : Method} {c : Code} (h1 : s.methodNamed? y = some m) (h2 : s.vm.method? m = some meth) (h3 : meth.code = some c) (h4 : c.code = bytes)
    (h5 : (c.maxLocals == mx && c.exceptionTable.isEmpty && decide (c.maxStack ≤ mostOperands) && decide (meth.sig.returnType = rt) && !meth.locks && decide (parseMethodDescriptor y.desc = some meth.sig)) = true) : (Jvm.Cond.code y bytes mx rt).before a s = true := by
  simp only [Bool.and_eq_true, beq_iff_eq, Bool.not_eq_true', decide_eq_true_eq] at h5
  obtain ⟨⟨⟨⟨⟨g1, g2⟩, g3⟩, g4⟩, g5⟩, g6⟩ := h5
  simp [Cond.before, Cond.holds, Cond.value, h1, h2, h3, h4, g1, g2, g3, g4, g5, g6]
def isCode : Jvm.Cond → Bool
  | .code _ _ _ _ => true
  | _ => false
theorem all_split {L : List Jvm.Cond} {P : Jvm.Cond → Bool} (h1 : L.all (fun c => isCode c || P c) = true) (h2 : ∀ c ∈ L.filter isCode, P c = true) : L.all P = true := by
  refine List.all_eq_true.mpr fun c hc => ?_
  have h := List.all_eq_true.mp h1 c hc
  rcases Bool.eq_false_or_eq_true (isCode c) with hi | hi
  · exact h2 c (List.mem_filter.mpr ⟨hc, hi⟩)
  · simpa [hi] using h
set_option maxRecDepth 65536 in
theorem w_c0 : (Jvm.Cond.code x code maxLocals ret).before args0 about1 = true := code_word (m := ⟨1, 1⟩) (meth := k1m1) (c := k1c1) (by decide +kernel) rfl rfl rfl (by decide +kernel)
set_option maxRecDepth 65536 in
theorem w_c1 : (Jvm.Cond.code ({ cls := "com/example/xml_signing/xmlsigning/c14n/PrologText", name := "isLineEnd", desc := "(I)Z" } : Jvm.MethodName) prog_61_method_9_code (1 : Nat) (Option.some Jvm.ClassFile.FieldType.boolean)).before args0 about1 = true := code_word (m := ⟨2, 1⟩) (meth := k2m1) (c := k2c1) (by decide +kernel) rfl rfl rfl (by decide +kernel)
def codes1 : List Jvm.Cond := [Jvm.Cond.code x code maxLocals ret, Jvm.Cond.code ({ cls := "com/example/xml_signing/xmlsigning/c14n/PrologText", name := "isLineEnd", desc := "(I)Z" } : Jvm.MethodName) prog_61_method_9_code (1 : Nat) (Option.some Jvm.ClassFile.FieldType.boolean)]
set_option maxRecDepth 65536 in
theorem codes_eq : words1.filter isCode = codes1 := rfl
theorem w_codes : ∀ c ∈ words1.filter isCode, c.before args0 about1 = true := by
  rw [codes_eq]
  intro c hc
  simp only [codes1, List.mem_cons, List.not_mem_nil, or_false] at hc
  rcases hc with rfl | rfl
  · exact w_c0
  · exact w_c1
set_option maxRecDepth 65536 in
theorem w_t1 : words1.all (fun c => isCode c || c.before args0 about1) = true := by decide +kernel
theorem w_tables : (allAtoms (Jvm.Cond.code x code maxLocals ret :: tables_1)).before args0 about1 = true := by
  rw [allAtoms_all]
  show words1.all (fun c => c.before args0 about1) = true
  refine all_split ?_ w_codes
  rw [w_t1]
set_option maxRecDepth 65536 in
theorem w_case : (Jvm.Cond.and given_1 narrow_1).before args0 about1 = true := by decide +kernel
theorem w_applies : (headSpec (Jvm.Cond.code x code maxLocals ret :: tables_1) room_1).applies x e0.platform about1 = true :=
  (Spec.applies_iff w_frames).mpr ⟨w_running, w_runnable, w_alone, w_named, w_hears, w_ripe, w_room, w_tables⟩
theorem atStart : AtStart classFile x code maxLocals ret World_1 tables_1 room_1 Calls_1 rest_1 Pre_1 launch0 p0 e0 about1 theMethod args0 below0 :=
  ⟨lists_1, trivial, launch0.admits_env _ _ _, launch0.least_env, fairChoices_fair.cas, fairChoices_fair.clock, w_frames, w_args, w_heap, w_applies, trivial, trivial, w_case⟩
end start1
theorem witness_1 : WitnessClaimed_1 := ⟨start1.p0, start1.e0, start1.about1, start1.theMethod, start1.args0, start1.below0, start1.atStart⟩
end Jvm.Pilot.@@N@@
