import JvmDerived
import JvmDerived.Pilot.@@N@@Statement
import JvmDerived.Pilot.@@N@@Code
set_option linter.unusedVariables false
set_option linter.unusedSimpArgs false
namespace Jvm.RoadKit
open Sem ClassFile Op Lib Jvm.Stand Jvm.Free Jvm.LawKit
section New
variable {p : Program} {l : Launch} {e : Env} {R : Room} {s : State} {m : MethodId} {args : Array Value} {below : List Frame} {meth : Method} {c : Code} {T : State} {locs : List Loc} {cells slots : Nat}
theorem retI (X : Stand p l e R s m args below meth c T locs cells slots) (hx : p.tables.exec = Jvm.exec) {pc : Nat} {Ls : Array Slot} {z : Int32} {rest : List Value} (hret : meth.sig.returnType = some .int) (hd : decode c.code pc = .ok (.ireturn, 1)) {fs : List Frame}
    (hl : ∀ (f : JFrame) (acts : List Action), f.method = m → f.locked = none → f.entered = [] → (doReturn e (T.setTop f) acts (some (.int z))).1 = T.setFrames fs) : Steps p.tables e below (T.setTop (mkF m pc Ls (.int z :: rest))) (T.setFrames fs) := by
  have hm' : T.vm.method? m = some meth := X.method'
  have hn : narrow .int (.int z) = .int z := rfl
  show Steps p.tables e below (T.setTop { method := m, pc := pc, locals := Ls, stack := _ :: rest, locked := none }) _
  jvm_step X.here [X.here.top, hx, hd, hm', hret, hn]
  first | (intro acts; rw [hl _ acts rfl rfl rfl]) | rw [hl _ _ rfl rfl rfl]
  exact Steps.refl _
end New
end Jvm.RoadKit
namespace Jvm.Pilot.@@N@@
open Jvm Jvm.ClassFile Sem Op Lib Jvm.Free Jvm.Stand Jvm.LawKit Jvm.RoadKit Bundle Jvm.Pilot.@@N@@.Jvm.D
abbrev own_S (p : Program) (e : Env) (below : List Frame) (T : State) (f : JFrame) (t : State) : Prop := Steps p.tables e below (T.setTop f) t
abbrev own_ushr (x y : Int32) : Int32 := (x.toUInt32 >>> (y &&& 31).toUInt32).toInt32
abbrev own_ushrL (x : Int64) (y : Int32) : Int64 := (x.toUInt64 >>> (y &&& 63).toInt64.toUInt64).toInt64
def own_Qi (z : Int32) (h0 : Heap) (n0 : Nat) (v : Option Value) (h : Heap) (L : List Loc) : Prop := v = some (.int z) ∧ Fr n0 L ∧ h = h0
theorem own_wk {Z : State} {ag : Array Value} {d : Jvm.Cond} (hw : ∀ d ∈ tables_1, d.before ag Z = true) (i : Nat) (h : tables_1[i]? = some d) : d.before ag Z = true := hw d (List.mem_of_getElem? h)
theorem own_cast {α : Sort _} {P : α → Prop} {a b : α} (h : a = b) (k : P a) : P b := h ▸ k
def own_is (c : Int32) : Prop := c = (90 : Int32) ∨ c = (66 : Int32) ∨ c = (67 : Int32) ∨ c = (83 : Int32) ∨ c = (73 : Int32) ∨ c = (74 : Int32) ∨ c = (70 : Int32) ∨ c = (68 : Int32)
def own_rel (c : Int32) (a c0 c1 c2 c3 c4 c5 c6 c7 : Addr) : Prop := (c = (90 : Int32) ∧ a = c0) ∨ (c = (66 : Int32) ∧ a = c1) ∨ (c = (67 : Int32) ∧ a = c2) ∨ (c = (83 : Int32) ∧ a = c3) ∨ (c = (73 : Int32) ∧ a = c4) ∨ (c = (74 : Int32) ∧ a = c5) ∨ (c = (70 : Int32) ∧ a = c6) ∨ (c = (68 : Int32) ∧ a = c7)
theorem own_rel_fld {Z : State} {H : Heap} {c : Int32} {a c0 c1 c2 c3 c4 c5 c6 c7 : Addr} (r : own_rel c a c0 c1 c2 c3 c4 c5 c6 c7) (f0 : Fld Z H c0 "com/example/chipmantle/chipmantle/Primitive" "descriptor" "C" (.int (90 : Int32))) (f1 : Fld Z H c1 "com/example/chipmantle/chipmantle/Primitive" "descriptor" "C" (.int (66 : Int32))) (f2 : Fld Z H c2 "com/example/chipmantle/chipmantle/Primitive" "descriptor" "C" (.int (67 : Int32))) (f3 : Fld Z H c3 "com/example/chipmantle/chipmantle/Primitive" "descriptor" "C" (.int (83 : Int32))) (f4 : Fld Z H c4 "com/example/chipmantle/chipmantle/Primitive" "descriptor" "C" (.int (73 : Int32))) (f5 : Fld Z H c5 "com/example/chipmantle/chipmantle/Primitive" "descriptor" "C" (.int (74 : Int32))) (f6 : Fld Z H c6 "com/example/chipmantle/chipmantle/Primitive" "descriptor" "C" (.int (70 : Int32))) (f7 : Fld Z H c7 "com/example/chipmantle/chipmantle/Primitive" "descriptor" "C" (.int (68 : Int32))) : Fld Z H a "com/example/chipmantle/chipmantle/Primitive" "descriptor" "C" (.int c) := by
  rcases r with ⟨rfl, rfl⟩ | ⟨rfl, rfl⟩ | ⟨rfl, rfl⟩ | ⟨rfl, rfl⟩ | ⟨rfl, rfl⟩ | ⟨rfl, rfl⟩ | ⟨rfl, rfl⟩ | ⟨rfl, rfl⟩ <;> assumption
theorem own_rel_fun {c : Int32} {a b c0 c1 c2 c3 c4 c5 c6 c7 : Addr} (r : own_rel c a c0 c1 c2 c3 c4 c5 c6 c7) (q : own_rel c b c0 c1 c2 c3 c4 c5 c6 c7) : a = b := by
  unfold own_rel at r q
  rcases r with ⟨rfl, rfl⟩ | ⟨rfl, rfl⟩ | ⟨rfl, rfl⟩ | ⟨rfl, rfl⟩ | ⟨rfl, rfl⟩ | ⟨rfl, rfl⟩ | ⟨rfl, rfl⟩ | ⟨rfl, rfl⟩ <;> rcases q with ⟨h, rfl⟩ | ⟨h, rfl⟩ | ⟨h, rfl⟩ | ⟨h, rfl⟩ | ⟨h, rfl⟩ | ⟨h, rfl⟩ | ⟨h, rfl⟩ | ⟨h, rfl⟩ <;> first | rfl | (exact absurd (by assumption) (by decide))
theorem pn_1 : plainName "com/example/chipmantle/chipmantle/PrimitiveOfPinLaw" = true := by first | (simp [plainName, overriddenIn]; done) | decide +kernel
theorem ef_1 (m : MethodId) (p0 : Int32) : entryFrame m #[(.int p0)] 1 = mkF m 0 #[.val (.int p0)] [] := by first | (simp [entryFrame, mkF, argsToLocals, Value.category]; done) | rfl
theorem d1_0 : decode method_2_code 0 = .ok (.iload_n 0, 1) := by decide +kernel
theorem d1_1 : decode method_2_code 1 = .ok (.bipush 90, 2) := by decide +kernel
theorem d1_3 : decode method_2_code 3 = .ok (.if_icmp .ne 7, 3) := by decide +kernel
theorem d1_6 : decode method_2_code 6 = .ok (.getstatic 7, 3) := by decide +kernel
theorem d1_9 : decode method_2_code 9 = .ok (.areturn, 1) := by decide +kernel
theorem d1_10 : decode method_2_code 10 = .ok (.iload_n 0, 1) := by decide +kernel
theorem d1_11 : decode method_2_code 11 = .ok (.bipush 66, 2) := by decide +kernel
theorem d1_13 : decode method_2_code 13 = .ok (.if_icmp .ne 7, 3) := by decide +kernel
theorem d1_16 : decode method_2_code 16 = .ok (.getstatic 13, 3) := by decide +kernel
theorem d1_19 : decode method_2_code 19 = .ok (.areturn, 1) := by decide +kernel
theorem d1_20 : decode method_2_code 20 = .ok (.iload_n 0, 1) := by decide +kernel
theorem d1_21 : decode method_2_code 21 = .ok (.bipush 67, 2) := by decide +kernel
theorem d1_23 : decode method_2_code 23 = .ok (.if_icmp .ne 7, 3) := by decide +kernel
theorem d1_26 : decode method_2_code 26 = .ok (.getstatic 16, 3) := by decide +kernel
theorem d1_29 : decode method_2_code 29 = .ok (.areturn, 1) := by decide +kernel
theorem d1_30 : decode method_2_code 30 = .ok (.iload_n 0, 1) := by decide +kernel
theorem d1_31 : decode method_2_code 31 = .ok (.bipush 83, 2) := by decide +kernel
theorem d1_33 : decode method_2_code 33 = .ok (.if_icmp .ne 7, 3) := by decide +kernel
theorem d1_36 : decode method_2_code 36 = .ok (.getstatic 19, 3) := by decide +kernel
theorem d1_39 : decode method_2_code 39 = .ok (.areturn, 1) := by decide +kernel
theorem d1_40 : decode method_2_code 40 = .ok (.iload_n 0, 1) := by decide +kernel
theorem d1_41 : decode method_2_code 41 = .ok (.bipush 73, 2) := by decide +kernel
theorem d1_43 : decode method_2_code 43 = .ok (.if_icmp .ne 7, 3) := by decide +kernel
theorem d1_46 : decode method_2_code 46 = .ok (.getstatic 22, 3) := by decide +kernel
theorem d1_49 : decode method_2_code 49 = .ok (.areturn, 1) := by decide +kernel
theorem d1_50 : decode method_2_code 50 = .ok (.iload_n 0, 1) := by decide +kernel
theorem d1_51 : decode method_2_code 51 = .ok (.bipush 74, 2) := by decide +kernel
theorem d1_53 : decode method_2_code 53 = .ok (.if_icmp .ne 7, 3) := by decide +kernel
theorem d1_56 : decode method_2_code 56 = .ok (.getstatic 25, 3) := by decide +kernel
theorem d1_59 : decode method_2_code 59 = .ok (.areturn, 1) := by decide +kernel
theorem d1_60 : decode method_2_code 60 = .ok (.iload_n 0, 1) := by decide +kernel
theorem d1_61 : decode method_2_code 61 = .ok (.bipush 70, 2) := by decide +kernel
theorem d1_63 : decode method_2_code 63 = .ok (.if_icmp .ne 7, 3) := by decide +kernel
theorem d1_66 : decode method_2_code 66 = .ok (.getstatic 28, 3) := by decide +kernel
theorem d1_69 : decode method_2_code 69 = .ok (.areturn, 1) := by decide +kernel
theorem d1_70 : decode method_2_code 70 = .ok (.iload_n 0, 1) := by decide +kernel
theorem d1_71 : decode method_2_code 71 = .ok (.bipush 68, 2) := by decide +kernel
theorem d1_73 : decode method_2_code 73 = .ok (.if_icmp .ne 7, 3) := by decide +kernel
theorem d1_76 : decode method_2_code 76 = .ok (.getstatic 31, 3) := by decide +kernel
theorem d1_79 : decode method_2_code 79 = .ok (.areturn, 1) := by decide +kernel
theorem d1_80 : decode method_2_code 80 = .ok (.aconst_null, 1) := by decide +kernel
theorem d1_81 : decode method_2_code 81 = .ok (.areturn, 1) := by decide +kernel
def Q1 (Z : State) (p0 : Int32) (c0 : Addr) (c1 : Addr) (c2 : Addr) (c3 : Addr) (c4 : Addr) (c5 : Addr) (c6 : Addr) (c7 : Addr) (h0 : Heap) (n0 : Nat) (v : Option Value) (h : Heap) (L : List Loc) : Prop := (v = some .null ∧ Fr n0 L ∧ h = h0 ∧ ¬ own_is p0) ∨ (∃ a, v = some (.ref a) ∧ Fr n0 L ∧ h = h0 ∧ own_rel p0 a c0 c1 c2 c3 c4 c5 c6 c7)
set_option maxRecDepth 65536 in
set_option maxHeartbeats 40000000 in
theorem rm1 (l : Launch) (Z : State) (ag : Array Value) (hw : ∀ d ∈ tables_1, d.before ag Z = true) (ws : List Jvm.Cond) (p0 : Int32) (c0 : Addr) (c1 : Addr) (c2 : Addr) (c3 : Addr) (c4 : Addr) (c5 : Addr) (c6 : Addr) (c7 : Addr) (h0 : Heap) (n0 : Nat) (Z0 : n0 ≤ h0.size) (O_ : Old Z n0 h0) (S_c0 : Sta Z Z.heap "com/example/chipmantle/chipmantle/Primitive" "BOOLEAN" "Lcom/example/chipmantle/chipmantle/Primitive;" (.ref c0)) (S_c1 : Sta Z Z.heap "com/example/chipmantle/chipmantle/Primitive" "BYTE" "Lcom/example/chipmantle/chipmantle/Primitive;" (.ref c1)) (S_c2 : Sta Z Z.heap "com/example/chipmantle/chipmantle/Primitive" "CHAR" "Lcom/example/chipmantle/chipmantle/Primitive;" (.ref c2)) (S_c3 : Sta Z Z.heap "com/example/chipmantle/chipmantle/Primitive" "SHORT" "Lcom/example/chipmantle/chipmantle/Primitive;" (.ref c3)) (S_c4 : Sta Z Z.heap "com/example/chipmantle/chipmantle/Primitive" "INT" "Lcom/example/chipmantle/chipmantle/Primitive;" (.ref c4)) (S_c5 : Sta Z Z.heap "com/example/chipmantle/chipmantle/Primitive" "LONG" "Lcom/example/chipmantle/chipmantle/Primitive;" (.ref c5)) (S_c6 : Sta Z Z.heap "com/example/chipmantle/chipmantle/Primitive" "FLOAT" "Lcom/example/chipmantle/chipmantle/Primitive;" (.ref c6)) (S_c7 : Sta Z Z.heap "com/example/chipmantle/chipmantle/Primitive" "DOUBLE" "Lcom/example/chipmantle/chipmantle/Primitive;" (.ref c7)) :
    MetFree l (⟨"com/example/chipmantle/chipmantle/PrimitiveOfPinLaw", "expected", "(C)Lcom/example/chipmantle/chipmantle/Primitive;"⟩ : MethodName) (head1 (Jvm.Cond.code (⟨"com/example/chipmantle/chipmantle/PrimitiveOfPinLaw", "expected", "(C)Lcom/example/chipmantle/chipmantle/Primitive;"⟩ : MethodName) method_2_code 1 (some (.object "com/example/chipmantle/chipmantle/Primitive")) :: ws) ({ frames := 0, cells := 0, slots := 0, locals := 0 } : Room)) (fun a U => a = #[(.int p0)] ∧ Z.Warmed39 U.vm ∧ U.heap = h0) (fun _ _ _ _ _ => True) (fun _ U o U' => ∃ v L, o = .returned v ∧ Q1 Z p0 c0 c1 c2 c3 c4 c5 c6 c7 h0 n0 v U'.heap L ∧ FrameEnd U o U' L ({ frames := 0, cells := 0, slots := 0, locals := 0 } : Room).cells ({ frames := 0, cells := 0, slots := 0, locals := 0 } : Room).slots) := by
  refine MetFree.of_bodySF (plainFor_of_name pn_1) hisR ?_
  intro p e s m args below meth c s₁ Bd hml0 hP hK
  obtain ⟨rfl, hZ, hh⟩ := hP
  have hx := Bd.exec
  have hby := Bd.bytes
  have hml : c.maxLocals = 1 := hml0
  have hown : s.vm.findClass "com/example/chipmantle/chipmantle/PrimitiveOfPinLaw" = some m.cls := findClass_of_methodNamed Bd.named
  have hnm := (name_of_methodNamed Bd.named Bd.method).1
  have X0 : Stand p l e ({ frames := 0, cells := 0, slots := 0, locals := 0 } : Room) s m #[(.int p0)] below meth c s₁ [] 0 0 := Stand.of_body Bd
  have e0 : s₁.heap = h0 := by rw [← hh, Bd.state]; rfl
  have N0 := Fr.nil n0
  have pre0 : ∀ t, Steps p.tables e below (s₁.setTop (mkF m 0 #[.val (.int p0)] [])) t → Steps p.tables e below (s₁.setTop (entryFrame m #[(.int p0)] 1)) t := fun t k => castTop (ef_1 m p0) k
  by_cases hc1 : p0 = (90 : Int32)
  · obtain ⟨T2, X2, e2, st2⟩ := getS2 X0 hx hZ hown (host := "") (Or.inl (hw _ (List.mem_of_getElem? (i := 98) rfl))) Via.refl e0 (Sta.ext O_.2 S_c0) (g := (mkF m 6 #[.val (.int p0)] [])) rfl (hb hby d1_6)
    obtain ⟨fs, hr, hrun, hended, hW, hsame⟩ := X2.leave (v := some (.ref c0)) (fun h => by rw [Bd.returns] at h; cases h)
    refine ⟨_, _, pre0 _ ?_, hrun, hended, _, _, rfl, ?_, ⟨_, rfl⟩, hW, hsame.mono (by decide) (by decide)⟩
    · show own_S p e below s₁ (mkF m 0 #[.val (.int p0)] []) _
      refine XS.iloadN X0.here hx rfl (hb hby d1_0) rfl ?_
      show own_S p e below s₁ (mkF m 1 #[.val (.int p0)] [(.int p0)]) _
      refine XS.bipush X0.here hx rfl (hb hby d1_1) ?_
      show own_S p e below s₁ (mkF m 3 #[.val (.int p0)] [.int 90, (.int p0)]) _
      refine XS.icmpNo X0.here hx rfl (hb hby d1_3) rfl (teq hc1).2 ?_
      show own_S p e below s₁ (mkF m 6 #[.val (.int p0)] []) _
      refine st2 _ ?_
      show own_S p e below T2 (mkF m 9 #[.val (.int p0)] [(.ref c0)]) _
      exact Jvm.RoadKit.retOut X2 hx Bd.returns rfl (Or.inr (Or.inr (Or.inr (Or.inr ⟨rfl, rfl, rfl⟩)))) (hb hby d1_9) hr
    · show Q1 Z p0 c0 c1 c2 c3 c4 c5 c6 c7 h0 n0 _ T2.heap _
      rw [e2]
      exact Or.inr ⟨c0, rfl, N0, rfl, Or.inl ⟨hc1, rfl⟩⟩
  · have cp4 : ∀ target, own_S p e below s₁ (mkF m 13 #[.val (.int p0)] [.int 66, (.int p0)]) target → own_S p e below s₁ (mkF m 0 #[.val (.int p0)] []) target := by
      intro target kt
      show own_S p e below s₁ (mkF m 0 #[.val (.int p0)] []) _
      refine XS.iloadN X0.here hx rfl (hb hby d1_0) rfl ?_
      show own_S p e below s₁ (mkF m 1 #[.val (.int p0)] [(.int p0)]) _
      refine XS.bipush X0.here hx rfl (hb hby d1_1) ?_
      show own_S p e below s₁ (mkF m 3 #[.val (.int p0)] [.int 90, (.int p0)]) _
      refine XS.icmpYes X0.here hx rfl (pc0 := 3) (pc' := 10) rfl (hb hby d1_3) rfl (feq hc1).2 (by decide) (by decide) ?_
      show own_S p e below s₁ (mkF m 10 #[.val (.int p0)] []) _
      refine XS.iloadN X0.here hx rfl (hb hby d1_10) rfl ?_
      show own_S p e below s₁ (mkF m 11 #[.val (.int p0)] [(.int p0)]) _
      refine XS.bipush X0.here hx rfl (hb hby d1_11) ?_
      exact kt
    by_cases hc3 : p0 = (66 : Int32)
    · obtain ⟨T5, X5, e5, st5⟩ := getS2 X0 hx hZ hown (host := "") (Or.inl (hw _ (List.mem_of_getElem? (i := 96) rfl))) Via.refl e0 (Sta.ext O_.2 S_c1) (g := (mkF m 16 #[.val (.int p0)] [])) rfl (hb hby d1_16)
      obtain ⟨fs, hr, hrun, hended, hW, hsame⟩ := X5.leave (v := some (.ref c1)) (fun h => by rw [Bd.returns] at h; cases h)
      refine ⟨_, _, pre0 _ ?_, hrun, hended, _, _, rfl, ?_, ⟨_, rfl⟩, hW, hsame.mono (by decide) (by decide)⟩
      · show own_S p e below s₁ (mkF m 0 #[.val (.int p0)] []) _
        refine cp4 _ ?_
        show own_S p e below s₁ (mkF m 13 #[.val (.int p0)] [.int 66, (.int p0)]) _
        refine XS.icmpNo X0.here hx rfl (hb hby d1_13) rfl (teq hc3).2 ?_
        show own_S p e below s₁ (mkF m 16 #[.val (.int p0)] []) _
        refine st5 _ ?_
        show own_S p e below T5 (mkF m 19 #[.val (.int p0)] [(.ref c1)]) _
        exact Jvm.RoadKit.retOut X5 hx Bd.returns rfl (Or.inr (Or.inr (Or.inr (Or.inr ⟨rfl, rfl, rfl⟩)))) (hb hby d1_19) hr
      · show Q1 Z p0 c0 c1 c2 c3 c4 c5 c6 c7 h0 n0 _ T5.heap _
        rw [e5]
        exact Or.inr ⟨c1, rfl, N0, rfl, Or.inr (Or.inl ⟨hc3, rfl⟩)⟩
    · have cp7 : ∀ target, own_S p e below s₁ (mkF m 23 #[.val (.int p0)] [.int 67, (.int p0)]) target → own_S p e below s₁ (mkF m 0 #[.val (.int p0)] []) target := by
        intro target kt
        show own_S p e below s₁ (mkF m 0 #[.val (.int p0)] []) _
        refine cp4 _ ?_
        show own_S p e below s₁ (mkF m 13 #[.val (.int p0)] [.int 66, (.int p0)]) _
        refine XS.icmpYes X0.here hx rfl (pc0 := 13) (pc' := 20) rfl (hb hby d1_13) rfl (feq hc3).2 (by decide) (by decide) ?_
        show own_S p e below s₁ (mkF m 20 #[.val (.int p0)] []) _
        refine XS.iloadN X0.here hx rfl (hb hby d1_20) rfl ?_
        show own_S p e below s₁ (mkF m 21 #[.val (.int p0)] [(.int p0)]) _
        refine XS.bipush X0.here hx rfl (hb hby d1_21) ?_
        exact kt
      by_cases hc6 : p0 = (67 : Int32)
      · obtain ⟨T8, X8, e8, st8⟩ := getS2 X0 hx hZ hown (host := "") (Or.inl (hw _ (List.mem_of_getElem? (i := 102) rfl))) Via.refl e0 (Sta.ext O_.2 S_c2) (g := (mkF m 26 #[.val (.int p0)] [])) rfl (hb hby d1_26)
        obtain ⟨fs, hr, hrun, hended, hW, hsame⟩ := X8.leave (v := some (.ref c2)) (fun h => by rw [Bd.returns] at h; cases h)
        refine ⟨_, _, pre0 _ ?_, hrun, hended, _, _, rfl, ?_, ⟨_, rfl⟩, hW, hsame.mono (by decide) (by decide)⟩
        · show own_S p e below s₁ (mkF m 0 #[.val (.int p0)] []) _
          refine cp7 _ ?_
          show own_S p e below s₁ (mkF m 23 #[.val (.int p0)] [.int 67, (.int p0)]) _
          refine XS.icmpNo X0.here hx rfl (hb hby d1_23) rfl (teq hc6).2 ?_
          show own_S p e below s₁ (mkF m 26 #[.val (.int p0)] []) _
          refine st8 _ ?_
          show own_S p e below T8 (mkF m 29 #[.val (.int p0)] [(.ref c2)]) _
          exact Jvm.RoadKit.retOut X8 hx Bd.returns rfl (Or.inr (Or.inr (Or.inr (Or.inr ⟨rfl, rfl, rfl⟩)))) (hb hby d1_29) hr
        · show Q1 Z p0 c0 c1 c2 c3 c4 c5 c6 c7 h0 n0 _ T8.heap _
          rw [e8]
          exact Or.inr ⟨c2, rfl, N0, rfl, Or.inr (Or.inr (Or.inl ⟨hc6, rfl⟩))⟩
      · have cp10 : ∀ target, own_S p e below s₁ (mkF m 33 #[.val (.int p0)] [.int 83, (.int p0)]) target → own_S p e below s₁ (mkF m 0 #[.val (.int p0)] []) target := by
          intro target kt
          show own_S p e below s₁ (mkF m 0 #[.val (.int p0)] []) _
          refine cp7 _ ?_
          show own_S p e below s₁ (mkF m 23 #[.val (.int p0)] [.int 67, (.int p0)]) _
          refine XS.icmpYes X0.here hx rfl (pc0 := 23) (pc' := 30) rfl (hb hby d1_23) rfl (feq hc6).2 (by decide) (by decide) ?_
          show own_S p e below s₁ (mkF m 30 #[.val (.int p0)] []) _
          refine XS.iloadN X0.here hx rfl (hb hby d1_30) rfl ?_
          show own_S p e below s₁ (mkF m 31 #[.val (.int p0)] [(.int p0)]) _
          refine XS.bipush X0.here hx rfl (hb hby d1_31) ?_
          exact kt
        by_cases hc9 : p0 = (83 : Int32)
        · obtain ⟨T11, X11, e11, st11⟩ := getS2 X0 hx hZ hown (host := "") (Or.inl (hw _ (List.mem_of_getElem? (i := 8) rfl))) Via.refl e0 (Sta.ext O_.2 S_c3) (g := (mkF m 36 #[.val (.int p0)] [])) rfl (hb hby d1_36)
          obtain ⟨fs, hr, hrun, hended, hW, hsame⟩ := X11.leave (v := some (.ref c3)) (fun h => by rw [Bd.returns] at h; cases h)
          refine ⟨_, _, pre0 _ ?_, hrun, hended, _, _, rfl, ?_, ⟨_, rfl⟩, hW, hsame.mono (by decide) (by decide)⟩
          · show own_S p e below s₁ (mkF m 0 #[.val (.int p0)] []) _
            refine cp10 _ ?_
            show own_S p e below s₁ (mkF m 33 #[.val (.int p0)] [.int 83, (.int p0)]) _
            refine XS.icmpNo X0.here hx rfl (hb hby d1_33) rfl (teq hc9).2 ?_
            show own_S p e below s₁ (mkF m 36 #[.val (.int p0)] []) _
            refine st11 _ ?_
            show own_S p e below T11 (mkF m 39 #[.val (.int p0)] [(.ref c3)]) _
            exact Jvm.RoadKit.retOut X11 hx Bd.returns rfl (Or.inr (Or.inr (Or.inr (Or.inr ⟨rfl, rfl, rfl⟩)))) (hb hby d1_39) hr
          · show Q1 Z p0 c0 c1 c2 c3 c4 c5 c6 c7 h0 n0 _ T11.heap _
            rw [e11]
            exact Or.inr ⟨c3, rfl, N0, rfl, Or.inr (Or.inr (Or.inr (Or.inl ⟨hc9, rfl⟩)))⟩
        · have cp13 : ∀ target, own_S p e below s₁ (mkF m 43 #[.val (.int p0)] [.int 73, (.int p0)]) target → own_S p e below s₁ (mkF m 0 #[.val (.int p0)] []) target := by
            intro target kt
            show own_S p e below s₁ (mkF m 0 #[.val (.int p0)] []) _
            refine cp10 _ ?_
            show own_S p e below s₁ (mkF m 33 #[.val (.int p0)] [.int 83, (.int p0)]) _
            refine XS.icmpYes X0.here hx rfl (pc0 := 33) (pc' := 40) rfl (hb hby d1_33) rfl (feq hc9).2 (by decide) (by decide) ?_
            show own_S p e below s₁ (mkF m 40 #[.val (.int p0)] []) _
            refine XS.iloadN X0.here hx rfl (hb hby d1_40) rfl ?_
            show own_S p e below s₁ (mkF m 41 #[.val (.int p0)] [(.int p0)]) _
            refine XS.bipush X0.here hx rfl (hb hby d1_41) ?_
            exact kt
          by_cases hc12 : p0 = (73 : Int32)
          · obtain ⟨T14, X14, e14, st14⟩ := getS2 X0 hx hZ hown (host := "") (Or.inl (hw _ (List.mem_of_getElem? (i := 97) rfl))) Via.refl e0 (Sta.ext O_.2 S_c4) (g := (mkF m 46 #[.val (.int p0)] [])) rfl (hb hby d1_46)
            obtain ⟨fs, hr, hrun, hended, hW, hsame⟩ := X14.leave (v := some (.ref c4)) (fun h => by rw [Bd.returns] at h; cases h)
            refine ⟨_, _, pre0 _ ?_, hrun, hended, _, _, rfl, ?_, ⟨_, rfl⟩, hW, hsame.mono (by decide) (by decide)⟩
            · show own_S p e below s₁ (mkF m 0 #[.val (.int p0)] []) _
              refine cp13 _ ?_
              show own_S p e below s₁ (mkF m 43 #[.val (.int p0)] [.int 73, (.int p0)]) _
              refine XS.icmpNo X0.here hx rfl (hb hby d1_43) rfl (teq hc12).2 ?_
              show own_S p e below s₁ (mkF m 46 #[.val (.int p0)] []) _
              refine st14 _ ?_
              show own_S p e below T14 (mkF m 49 #[.val (.int p0)] [(.ref c4)]) _
              exact Jvm.RoadKit.retOut X14 hx Bd.returns rfl (Or.inr (Or.inr (Or.inr (Or.inr ⟨rfl, rfl, rfl⟩)))) (hb hby d1_49) hr
            · show Q1 Z p0 c0 c1 c2 c3 c4 c5 c6 c7 h0 n0 _ T14.heap _
              rw [e14]
              exact Or.inr ⟨c4, rfl, N0, rfl, Or.inr (Or.inr (Or.inr (Or.inr (Or.inl ⟨hc12, rfl⟩))))⟩
          · have cp16 : ∀ target, own_S p e below s₁ (mkF m 53 #[.val (.int p0)] [.int 74, (.int p0)]) target → own_S p e below s₁ (mkF m 0 #[.val (.int p0)] []) target := by
              intro target kt
              show own_S p e below s₁ (mkF m 0 #[.val (.int p0)] []) _
              refine cp13 _ ?_
              show own_S p e below s₁ (mkF m 43 #[.val (.int p0)] [.int 73, (.int p0)]) _
              refine XS.icmpYes X0.here hx rfl (pc0 := 43) (pc' := 50) rfl (hb hby d1_43) rfl (feq hc12).2 (by decide) (by decide) ?_
              show own_S p e below s₁ (mkF m 50 #[.val (.int p0)] []) _
              refine XS.iloadN X0.here hx rfl (hb hby d1_50) rfl ?_
              show own_S p e below s₁ (mkF m 51 #[.val (.int p0)] [(.int p0)]) _
              refine XS.bipush X0.here hx rfl (hb hby d1_51) ?_
              exact kt
            by_cases hc15 : p0 = (74 : Int32)
            · obtain ⟨T17, X17, e17, st17⟩ := getS2 X0 hx hZ hown (host := "") (Or.inl (hw _ (List.mem_of_getElem? (i := 99) rfl))) Via.refl e0 (Sta.ext O_.2 S_c5) (g := (mkF m 56 #[.val (.int p0)] [])) rfl (hb hby d1_56)
              obtain ⟨fs, hr, hrun, hended, hW, hsame⟩ := X17.leave (v := some (.ref c5)) (fun h => by rw [Bd.returns] at h; cases h)
              refine ⟨_, _, pre0 _ ?_, hrun, hended, _, _, rfl, ?_, ⟨_, rfl⟩, hW, hsame.mono (by decide) (by decide)⟩
              · show own_S p e below s₁ (mkF m 0 #[.val (.int p0)] []) _
                refine cp16 _ ?_
                show own_S p e below s₁ (mkF m 53 #[.val (.int p0)] [.int 74, (.int p0)]) _
                refine XS.icmpNo X0.here hx rfl (hb hby d1_53) rfl (teq hc15).2 ?_
                show own_S p e below s₁ (mkF m 56 #[.val (.int p0)] []) _
                refine st17 _ ?_
                show own_S p e below T17 (mkF m 59 #[.val (.int p0)] [(.ref c5)]) _
                exact Jvm.RoadKit.retOut X17 hx Bd.returns rfl (Or.inr (Or.inr (Or.inr (Or.inr ⟨rfl, rfl, rfl⟩)))) (hb hby d1_59) hr
              · show Q1 Z p0 c0 c1 c2 c3 c4 c5 c6 c7 h0 n0 _ T17.heap _
                rw [e17]
                exact Or.inr ⟨c5, rfl, N0, rfl, Or.inr (Or.inr (Or.inr (Or.inr (Or.inr (Or.inl ⟨hc15, rfl⟩)))))⟩
            · have cp19 : ∀ target, own_S p e below s₁ (mkF m 63 #[.val (.int p0)] [.int 70, (.int p0)]) target → own_S p e below s₁ (mkF m 0 #[.val (.int p0)] []) target := by
                intro target kt
                show own_S p e below s₁ (mkF m 0 #[.val (.int p0)] []) _
                refine cp16 _ ?_
                show own_S p e below s₁ (mkF m 53 #[.val (.int p0)] [.int 74, (.int p0)]) _
                refine XS.icmpYes X0.here hx rfl (pc0 := 53) (pc' := 60) rfl (hb hby d1_53) rfl (feq hc15).2 (by decide) (by decide) ?_
                show own_S p e below s₁ (mkF m 60 #[.val (.int p0)] []) _
                refine XS.iloadN X0.here hx rfl (hb hby d1_60) rfl ?_
                show own_S p e below s₁ (mkF m 61 #[.val (.int p0)] [(.int p0)]) _
                refine XS.bipush X0.here hx rfl (hb hby d1_61) ?_
                exact kt
              by_cases hc18 : p0 = (70 : Int32)
              · obtain ⟨T20, X20, e20, st20⟩ := getS2 X0 hx hZ hown (host := "") (Or.inl (hw _ (List.mem_of_getElem? (i := 101) rfl))) Via.refl e0 (Sta.ext O_.2 S_c6) (g := (mkF m 66 #[.val (.int p0)] [])) rfl (hb hby d1_66)
                obtain ⟨fs, hr, hrun, hended, hW, hsame⟩ := X20.leave (v := some (.ref c6)) (fun h => by rw [Bd.returns] at h; cases h)
                refine ⟨_, _, pre0 _ ?_, hrun, hended, _, _, rfl, ?_, ⟨_, rfl⟩, hW, hsame.mono (by decide) (by decide)⟩
                · show own_S p e below s₁ (mkF m 0 #[.val (.int p0)] []) _
                  refine cp19 _ ?_
                  show own_S p e below s₁ (mkF m 63 #[.val (.int p0)] [.int 70, (.int p0)]) _
                  refine XS.icmpNo X0.here hx rfl (hb hby d1_63) rfl (teq hc18).2 ?_
                  show own_S p e below s₁ (mkF m 66 #[.val (.int p0)] []) _
                  refine st20 _ ?_
                  show own_S p e below T20 (mkF m 69 #[.val (.int p0)] [(.ref c6)]) _
                  exact Jvm.RoadKit.retOut X20 hx Bd.returns rfl (Or.inr (Or.inr (Or.inr (Or.inr ⟨rfl, rfl, rfl⟩)))) (hb hby d1_69) hr
                · show Q1 Z p0 c0 c1 c2 c3 c4 c5 c6 c7 h0 n0 _ T20.heap _
                  rw [e20]
                  exact Or.inr ⟨c6, rfl, N0, rfl, Or.inr (Or.inr (Or.inr (Or.inr (Or.inr (Or.inr (Or.inl ⟨hc18, rfl⟩))))))⟩
              · have cp22 : ∀ target, own_S p e below s₁ (mkF m 73 #[.val (.int p0)] [.int 68, (.int p0)]) target → own_S p e below s₁ (mkF m 0 #[.val (.int p0)] []) target := by
                  intro target kt
                  show own_S p e below s₁ (mkF m 0 #[.val (.int p0)] []) _
                  refine cp19 _ ?_
                  show own_S p e below s₁ (mkF m 63 #[.val (.int p0)] [.int 70, (.int p0)]) _
                  refine XS.icmpYes X0.here hx rfl (pc0 := 63) (pc' := 70) rfl (hb hby d1_63) rfl (feq hc18).2 (by decide) (by decide) ?_
                  show own_S p e below s₁ (mkF m 70 #[.val (.int p0)] []) _
                  refine XS.iloadN X0.here hx rfl (hb hby d1_70) rfl ?_
                  show own_S p e below s₁ (mkF m 71 #[.val (.int p0)] [(.int p0)]) _
                  refine XS.bipush X0.here hx rfl (hb hby d1_71) ?_
                  exact kt
                by_cases hc21 : p0 = (68 : Int32)
                · obtain ⟨T23, X23, e23, st23⟩ := getS2 X0 hx hZ hown (host := "") (Or.inl (hw _ (List.mem_of_getElem? (i := 100) rfl))) Via.refl e0 (Sta.ext O_.2 S_c7) (g := (mkF m 76 #[.val (.int p0)] [])) rfl (hb hby d1_76)
                  obtain ⟨fs, hr, hrun, hended, hW, hsame⟩ := X23.leave (v := some (.ref c7)) (fun h => by rw [Bd.returns] at h; cases h)
                  refine ⟨_, _, pre0 _ ?_, hrun, hended, _, _, rfl, ?_, ⟨_, rfl⟩, hW, hsame.mono (by decide) (by decide)⟩
                  · show own_S p e below s₁ (mkF m 0 #[.val (.int p0)] []) _
                    refine cp22 _ ?_
                    show own_S p e below s₁ (mkF m 73 #[.val (.int p0)] [.int 68, (.int p0)]) _
                    refine XS.icmpNo X0.here hx rfl (hb hby d1_73) rfl (teq hc21).2 ?_
                    show own_S p e below s₁ (mkF m 76 #[.val (.int p0)] []) _
                    refine st23 _ ?_
                    show own_S p e below T23 (mkF m 79 #[.val (.int p0)] [(.ref c7)]) _
                    exact Jvm.RoadKit.retOut X23 hx Bd.returns rfl (Or.inr (Or.inr (Or.inr (Or.inr ⟨rfl, rfl, rfl⟩)))) (hb hby d1_79) hr
                  · show Q1 Z p0 c0 c1 c2 c3 c4 c5 c6 c7 h0 n0 _ T23.heap _
                    rw [e23]
                    exact Or.inr ⟨c7, rfl, N0, rfl, Or.inr (Or.inr (Or.inr (Or.inr (Or.inr (Or.inr (Or.inr (⟨hc21, rfl⟩)))))))⟩
                · obtain ⟨fs, hr, hrun, hended, hW, hsame⟩ := X0.leave (v := some .null) (fun h => by rw [Bd.returns] at h; cases h)
                  refine ⟨_, _, pre0 _ ?_, hrun, hended, _, _, rfl, ?_, ⟨_, rfl⟩, hW, hsame.mono (by decide) (by decide)⟩
                  · show own_S p e below s₁ (mkF m 0 #[.val (.int p0)] []) _
                    refine cp22 _ ?_
                    show own_S p e below s₁ (mkF m 73 #[.val (.int p0)] [.int 68, (.int p0)]) _
                    refine XS.icmpYes X0.here hx rfl (pc0 := 73) (pc' := 80) rfl (hb hby d1_73) rfl (feq hc21).2 (by decide) (by decide) ?_
                    show own_S p e below s₁ (mkF m 80 #[.val (.int p0)] []) _
                    refine XS.aconstNull X0.here hx rfl (hb hby d1_80) ?_
                    show own_S p e below s₁ (mkF m 81 #[.val (.int p0)] [.null]) _
                    exact Jvm.RoadKit.retOut X0 hx Bd.returns rfl (Or.inr (Or.inr (Or.inr (Or.inr ⟨rfl, rfl, rfl⟩)))) (hb hby d1_81) hr
                  · show Q1 Z p0 c0 c1 c2 c3 c4 c5 c6 c7 h0 n0 _ s₁.heap _
                    rw [e0]
                    exact Or.inl ⟨rfl, N0, rfl, fun q => by rcases q with h | h | h | h | h | h | h | h <;> first | exact hc1 h | exact hc3 h | exact hc6 h | exact hc9 h | exact hc12 h | exact hc15 h | exact hc18 h | exact hc21 h⟩
theorem own_rel_is {c : Int32} {a c0 c1 c2 c3 c4 c5 c6 c7 : Addr} (r : own_rel c a c0 c1 c2 c3 c4 c5 c6 c7) : own_is c := by
  unfold own_is; rcases r with ⟨h, -⟩ | ⟨h, -⟩ | ⟨h, -⟩ | ⟨h, -⟩ | ⟨h, -⟩ | ⟨h, -⟩ | ⟨h, -⟩ | ⟨h, -⟩ <;> simp [h]
theorem ef_2 (m : MethodId) (p0 : Int32) : entryFrame m #[(.int p0)] 1 = mkF m 0 #[.val (.int p0)] [] := by first | (simp [entryFrame, mkF, argsToLocals, Value.category]; done) | rfl
theorem d2_0 : decode method_3_code 0 = .ok (.iload_n 0, 1) := by decide +kernel
theorem d2_1 : decode method_3_code 1 = .ok (.ifCond .ne 6, 3) := by decide +kernel
theorem d2_4 : decode method_3_code 4 = .ok (.bipush 90, 2) := by decide +kernel
theorem d2_7 : decode method_3_code 7 = .ok (.iload_n 0, 1) := by decide +kernel
theorem d2_8 : decode method_3_code 8 = .ok (.iconst 1, 1) := by decide +kernel
theorem d2_9 : decode method_3_code 9 = .ok (.if_icmp .ne 6, 3) := by decide +kernel
theorem d2_12 : decode method_3_code 12 = .ok (.bipush 66, 2) := by decide +kernel
theorem d2_15 : decode method_3_code 15 = .ok (.iload_n 0, 1) := by decide +kernel
theorem d2_16 : decode method_3_code 16 = .ok (.iconst 2, 1) := by decide +kernel
theorem d2_17 : decode method_3_code 17 = .ok (.if_icmp .ne 6, 3) := by decide +kernel
theorem d2_20 : decode method_3_code 20 = .ok (.bipush 67, 2) := by decide +kernel
theorem d2_23 : decode method_3_code 23 = .ok (.iload_n 0, 1) := by decide +kernel
theorem d2_24 : decode method_3_code 24 = .ok (.iconst 3, 1) := by decide +kernel
theorem d2_25 : decode method_3_code 25 = .ok (.if_icmp .ne 6, 3) := by decide +kernel
theorem d2_28 : decode method_3_code 28 = .ok (.bipush 83, 2) := by decide +kernel
theorem d2_31 : decode method_3_code 31 = .ok (.iload_n 0, 1) := by decide +kernel
theorem d2_32 : decode method_3_code 32 = .ok (.iconst 4, 1) := by decide +kernel
theorem d2_33 : decode method_3_code 33 = .ok (.if_icmp .ne 6, 3) := by decide +kernel
theorem d2_36 : decode method_3_code 36 = .ok (.bipush 73, 2) := by decide +kernel
theorem d2_39 : decode method_3_code 39 = .ok (.iload_n 0, 1) := by decide +kernel
theorem d2_40 : decode method_3_code 40 = .ok (.iconst 5, 1) := by decide +kernel
theorem d2_41 : decode method_3_code 41 = .ok (.if_icmp .ne 6, 3) := by decide +kernel
theorem d2_44 : decode method_3_code 44 = .ok (.bipush 74, 2) := by decide +kernel
theorem d2_47 : decode method_3_code 47 = .ok (.iload_n 0, 1) := by decide +kernel
theorem d2_48 : decode method_3_code 48 = .ok (.bipush 6, 2) := by decide +kernel
theorem d2_50 : decode method_3_code 50 = .ok (.if_icmp .ne 6, 3) := by decide +kernel
theorem d2_53 : decode method_3_code 53 = .ok (.bipush 70, 2) := by decide +kernel
theorem d2_56 : decode method_3_code 56 = .ok (.bipush 68, 2) := by decide +kernel
def own_pick (p0 : Int32) : Int32 := (if p0 = (0 : Int32) then (90 : Int32) else (if p0 = (1 : Int32) then (66 : Int32) else (if p0 = (2 : Int32) then (67 : Int32) else (if p0 = (3 : Int32) then (83 : Int32) else (if p0 = (4 : Int32) then (73 : Int32) else (if p0 = (5 : Int32) then (74 : Int32) else (if p0 = (6 : Int32) then (70 : Int32) else (68 : Int32))))))))
def Q2 (Z : State) (p0 : Int32) (h0 : Heap) (n0 : Nat) (v : Option Value) (h : Heap) (L : List Loc) : Prop := v = some (.int (own_pick p0)) ∧ Fr n0 L ∧ h = h0
theorem d2_6 : decode method_3_code 6 = .ok (.ireturn, 1) := by decide +kernel
theorem d2_14 : decode method_3_code 14 = .ok (.ireturn, 1) := by decide +kernel
theorem d2_22 : decode method_3_code 22 = .ok (.ireturn, 1) := by decide +kernel
theorem d2_30 : decode method_3_code 30 = .ok (.ireturn, 1) := by decide +kernel
theorem d2_38 : decode method_3_code 38 = .ok (.ireturn, 1) := by decide +kernel
theorem d2_46 : decode method_3_code 46 = .ok (.ireturn, 1) := by decide +kernel
theorem d2_55 : decode method_3_code 55 = .ok (.ireturn, 1) := by decide +kernel
theorem d2_58 : decode method_3_code 58 = .ok (.ireturn, 1) := by decide +kernel
set_option maxRecDepth 65536 in
set_option maxHeartbeats 40000000 in
theorem rm2 (l : Launch) (Z : State) (ag : Array Value) (hw : ∀ d ∈ tables_1, d.before ag Z = true) (ws : List Jvm.Cond) (p0 : Int32) (h0 : Heap) (n0 : Nat) (Z0 : n0 ≤ h0.size) :
    MetFree l (⟨"com/example/chipmantle/chipmantle/PrimitiveOfPinLaw", "pick", "(I)C"⟩ : MethodName) (head1 (Jvm.Cond.code (⟨"com/example/chipmantle/chipmantle/PrimitiveOfPinLaw", "pick", "(I)C"⟩ : MethodName) method_3_code 1 (some .char) :: ws) ({ frames := 0, cells := 0, slots := 0, locals := 0 } : Room)) (fun a U => a = #[(.int p0)] ∧ Z.Warmed39 U.vm ∧ U.heap = h0) (fun _ _ _ _ _ => True) (fun _ U o U' => ∃ v L, o = .returned v ∧ Q2 Z p0 h0 n0 v U'.heap L ∧ FrameEnd U o U' L ({ frames := 0, cells := 0, slots := 0, locals := 0 } : Room).cells ({ frames := 0, cells := 0, slots := 0, locals := 0 } : Room).slots) := by
  refine MetFree.of_bodySF (plainFor_of_name pn_1) hisR ?_
  intro p e s m args below meth c s₁ Bd hml0 hP hK
  obtain ⟨rfl, hZ, hh⟩ := hP
  have hx := Bd.exec
  have hby := Bd.bytes
  have hml : c.maxLocals = 1 := hml0
  have hown : s.vm.findClass "com/example/chipmantle/chipmantle/PrimitiveOfPinLaw" = some m.cls := findClass_of_methodNamed Bd.named
  have hnm := (name_of_methodNamed Bd.named Bd.method).1
  have X0 : Stand p l e ({ frames := 0, cells := 0, slots := 0, locals := 0 } : Room) s m #[(.int p0)] below meth c s₁ [] 0 0 := Stand.of_body Bd
  have e0 : s₁.heap = h0 := by rw [← hh, Bd.state]; rfl
  have N0 := Fr.nil n0
  have pre0 : ∀ t, Steps p.tables e below (s₁.setTop (mkF m 0 #[.val (.int p0)] [])) t → Steps p.tables e below (s₁.setTop (entryFrame m #[(.int p0)] 1)) t := fun t k => castTop (ef_2 m p0) k
  obtain ⟨fs, hr, hrun, hended, hW, hsame⟩ := X0.leave (v := some (.int (own_pick p0))) (fun h => by rw [Bd.returns] at h; cases h)
  refine ⟨_, _, pre0 _ ?_, hrun, hended, _, _, rfl, ?_, ⟨_, rfl⟩, hW, hsame.mono (by decide) (by decide)⟩
  · show own_S p e below s₁ (mkF m 0 #[.val (.int p0)] []) _
    refine XS.iloadN X0.here hx rfl (hb hby d2_0) rfl ?_
    by_cases hc24 : p0 = (0 : Int32)
    · show own_S p e below s₁ (mkF m 1 #[.val (.int p0)] [(.int p0)]) _
      refine XS.ifNo X0.here hx rfl (hb hby d2_1) rfl ((if0 _ _).trans (teq hc24).2) ?_
      show own_S p e below s₁ (mkF m 4 #[.val (.int p0)] []) _
      refine XS.bipush X0.here hx rfl (hb hby d2_4) ?_
      show own_S p e below s₁ (mkF m 6 #[.val (.int p0)] [.int 90]) _
      have q : (own_pick p0) = (90 : Int32) := by unfold own_pick; rw [if_pos hc24]
      have hr := own_cast (P := fun z => ∀ (f : JFrame) (acts : List Action), f.method = m → f.locked = none → f.entered = [] → (doReturn e (s₁.setTop f) acts (some (.int z))).1 = s₁.setFrames fs) q hr
      exact retN X0 hx (t := .char) Bd.returns (by simp) (hb hby d2_6) hr
    · show own_S p e below s₁ (mkF m 1 #[.val (.int p0)] [(.int p0)]) _
      refine XS.ifYes X0.here hx rfl (pc0 := 1) (pc' := 7) rfl (hb hby d2_1) rfl ((if0 _ _).trans (feq hc24).2) (by decide) (by decide) ?_
      show own_S p e below s₁ (mkF m 7 #[.val (.int p0)] []) _
      refine XS.iloadN X0.here hx rfl (hb hby d2_7) rfl ?_
      show own_S p e below s₁ (mkF m 8 #[.val (.int p0)] [(.int p0)]) _
      refine XS.iconst X0.here hx rfl (hb hby d2_8) ?_
      by_cases hc25 : p0 = (1 : Int32)
      · show own_S p e below s₁ (mkF m 9 #[.val (.int p0)] [.int 1, (.int p0)]) _
        refine XS.icmpNo X0.here hx rfl (hb hby d2_9) rfl (teq hc25).2 ?_
        show own_S p e below s₁ (mkF m 12 #[.val (.int p0)] []) _
        refine XS.bipush X0.here hx rfl (hb hby d2_12) ?_
        show own_S p e below s₁ (mkF m 14 #[.val (.int p0)] [.int 66]) _
        have q : (own_pick p0) = (66 : Int32) := by unfold own_pick; rw [if_neg hc24, if_pos hc25]
        have hr := own_cast (P := fun z => ∀ (f : JFrame) (acts : List Action), f.method = m → f.locked = none → f.entered = [] → (doReturn e (s₁.setTop f) acts (some (.int z))).1 = s₁.setFrames fs) q hr
        exact retN X0 hx (t := .char) Bd.returns (by simp) (hb hby d2_14) hr
      · show own_S p e below s₁ (mkF m 9 #[.val (.int p0)] [.int 1, (.int p0)]) _
        refine XS.icmpYes X0.here hx rfl (pc0 := 9) (pc' := 15) rfl (hb hby d2_9) rfl (feq hc25).2 (by decide) (by decide) ?_
        show own_S p e below s₁ (mkF m 15 #[.val (.int p0)] []) _
        refine XS.iloadN X0.here hx rfl (hb hby d2_15) rfl ?_
        show own_S p e below s₁ (mkF m 16 #[.val (.int p0)] [(.int p0)]) _
        refine XS.iconst X0.here hx rfl (hb hby d2_16) ?_
        by_cases hc26 : p0 = (2 : Int32)
        · show own_S p e below s₁ (mkF m 17 #[.val (.int p0)] [.int 2, (.int p0)]) _
          refine XS.icmpNo X0.here hx rfl (hb hby d2_17) rfl (teq hc26).2 ?_
          show own_S p e below s₁ (mkF m 20 #[.val (.int p0)] []) _
          refine XS.bipush X0.here hx rfl (hb hby d2_20) ?_
          show own_S p e below s₁ (mkF m 22 #[.val (.int p0)] [.int 67]) _
          have q : (own_pick p0) = (67 : Int32) := by unfold own_pick; rw [if_neg hc24, if_neg hc25, if_pos hc26]
          have hr := own_cast (P := fun z => ∀ (f : JFrame) (acts : List Action), f.method = m → f.locked = none → f.entered = [] → (doReturn e (s₁.setTop f) acts (some (.int z))).1 = s₁.setFrames fs) q hr
          exact retN X0 hx (t := .char) Bd.returns (by simp) (hb hby d2_22) hr
        · show own_S p e below s₁ (mkF m 17 #[.val (.int p0)] [.int 2, (.int p0)]) _
          refine XS.icmpYes X0.here hx rfl (pc0 := 17) (pc' := 23) rfl (hb hby d2_17) rfl (feq hc26).2 (by decide) (by decide) ?_
          show own_S p e below s₁ (mkF m 23 #[.val (.int p0)] []) _
          refine XS.iloadN X0.here hx rfl (hb hby d2_23) rfl ?_
          show own_S p e below s₁ (mkF m 24 #[.val (.int p0)] [(.int p0)]) _
          refine XS.iconst X0.here hx rfl (hb hby d2_24) ?_
          by_cases hc27 : p0 = (3 : Int32)
          · show own_S p e below s₁ (mkF m 25 #[.val (.int p0)] [.int 3, (.int p0)]) _
            refine XS.icmpNo X0.here hx rfl (hb hby d2_25) rfl (teq hc27).2 ?_
            show own_S p e below s₁ (mkF m 28 #[.val (.int p0)] []) _
            refine XS.bipush X0.here hx rfl (hb hby d2_28) ?_
            show own_S p e below s₁ (mkF m 30 #[.val (.int p0)] [.int 83]) _
            have q : (own_pick p0) = (83 : Int32) := by unfold own_pick; rw [if_neg hc24, if_neg hc25, if_neg hc26, if_pos hc27]
            have hr := own_cast (P := fun z => ∀ (f : JFrame) (acts : List Action), f.method = m → f.locked = none → f.entered = [] → (doReturn e (s₁.setTop f) acts (some (.int z))).1 = s₁.setFrames fs) q hr
            exact retN X0 hx (t := .char) Bd.returns (by simp) (hb hby d2_30) hr
          · show own_S p e below s₁ (mkF m 25 #[.val (.int p0)] [.int 3, (.int p0)]) _
            refine XS.icmpYes X0.here hx rfl (pc0 := 25) (pc' := 31) rfl (hb hby d2_25) rfl (feq hc27).2 (by decide) (by decide) ?_
            show own_S p e below s₁ (mkF m 31 #[.val (.int p0)] []) _
            refine XS.iloadN X0.here hx rfl (hb hby d2_31) rfl ?_
            show own_S p e below s₁ (mkF m 32 #[.val (.int p0)] [(.int p0)]) _
            refine XS.iconst X0.here hx rfl (hb hby d2_32) ?_
            by_cases hc28 : p0 = (4 : Int32)
            · show own_S p e below s₁ (mkF m 33 #[.val (.int p0)] [.int 4, (.int p0)]) _
              refine XS.icmpNo X0.here hx rfl (hb hby d2_33) rfl (teq hc28).2 ?_
              show own_S p e below s₁ (mkF m 36 #[.val (.int p0)] []) _
              refine XS.bipush X0.here hx rfl (hb hby d2_36) ?_
              show own_S p e below s₁ (mkF m 38 #[.val (.int p0)] [.int 73]) _
              have q : (own_pick p0) = (73 : Int32) := by unfold own_pick; rw [if_neg hc24, if_neg hc25, if_neg hc26, if_neg hc27, if_pos hc28]
              have hr := own_cast (P := fun z => ∀ (f : JFrame) (acts : List Action), f.method = m → f.locked = none → f.entered = [] → (doReturn e (s₁.setTop f) acts (some (.int z))).1 = s₁.setFrames fs) q hr
              exact retN X0 hx (t := .char) Bd.returns (by simp) (hb hby d2_38) hr
            · show own_S p e below s₁ (mkF m 33 #[.val (.int p0)] [.int 4, (.int p0)]) _
              refine XS.icmpYes X0.here hx rfl (pc0 := 33) (pc' := 39) rfl (hb hby d2_33) rfl (feq hc28).2 (by decide) (by decide) ?_
              show own_S p e below s₁ (mkF m 39 #[.val (.int p0)] []) _
              refine XS.iloadN X0.here hx rfl (hb hby d2_39) rfl ?_
              show own_S p e below s₁ (mkF m 40 #[.val (.int p0)] [(.int p0)]) _
              refine XS.iconst X0.here hx rfl (hb hby d2_40) ?_
              by_cases hc29 : p0 = (5 : Int32)
              · show own_S p e below s₁ (mkF m 41 #[.val (.int p0)] [.int 5, (.int p0)]) _
                refine XS.icmpNo X0.here hx rfl (hb hby d2_41) rfl (teq hc29).2 ?_
                show own_S p e below s₁ (mkF m 44 #[.val (.int p0)] []) _
                refine XS.bipush X0.here hx rfl (hb hby d2_44) ?_
                show own_S p e below s₁ (mkF m 46 #[.val (.int p0)] [.int 74]) _
                have q : (own_pick p0) = (74 : Int32) := by unfold own_pick; rw [if_neg hc24, if_neg hc25, if_neg hc26, if_neg hc27, if_neg hc28, if_pos hc29]
                have hr := own_cast (P := fun z => ∀ (f : JFrame) (acts : List Action), f.method = m → f.locked = none → f.entered = [] → (doReturn e (s₁.setTop f) acts (some (.int z))).1 = s₁.setFrames fs) q hr
                exact retN X0 hx (t := .char) Bd.returns (by simp) (hb hby d2_46) hr
              · show own_S p e below s₁ (mkF m 41 #[.val (.int p0)] [.int 5, (.int p0)]) _
                refine XS.icmpYes X0.here hx rfl (pc0 := 41) (pc' := 47) rfl (hb hby d2_41) rfl (feq hc29).2 (by decide) (by decide) ?_
                show own_S p e below s₁ (mkF m 47 #[.val (.int p0)] []) _
                refine XS.iloadN X0.here hx rfl (hb hby d2_47) rfl ?_
                show own_S p e below s₁ (mkF m 48 #[.val (.int p0)] [(.int p0)]) _
                refine XS.bipush X0.here hx rfl (hb hby d2_48) ?_
                by_cases hc30 : p0 = (6 : Int32)
                · show own_S p e below s₁ (mkF m 50 #[.val (.int p0)] [.int 6, (.int p0)]) _
                  refine XS.icmpNo X0.here hx rfl (hb hby d2_50) rfl (teq hc30).2 ?_
                  show own_S p e below s₁ (mkF m 53 #[.val (.int p0)] []) _
                  refine XS.bipush X0.here hx rfl (hb hby d2_53) ?_
                  show own_S p e below s₁ (mkF m 55 #[.val (.int p0)] [.int 70]) _
                  have q : (own_pick p0) = (70 : Int32) := by unfold own_pick; rw [if_neg hc24, if_neg hc25, if_neg hc26, if_neg hc27, if_neg hc28, if_neg hc29, if_pos hc30]
                  have hr := own_cast (P := fun z => ∀ (f : JFrame) (acts : List Action), f.method = m → f.locked = none → f.entered = [] → (doReturn e (s₁.setTop f) acts (some (.int z))).1 = s₁.setFrames fs) q hr
                  exact retN X0 hx (t := .char) Bd.returns (by simp) (hb hby d2_55) hr
                · show own_S p e below s₁ (mkF m 50 #[.val (.int p0)] [.int 6, (.int p0)]) _
                  refine XS.icmpYes X0.here hx rfl (pc0 := 50) (pc' := 56) rfl (hb hby d2_50) rfl (feq hc30).2 (by decide) (by decide) ?_
                  show own_S p e below s₁ (mkF m 56 #[.val (.int p0)] []) _
                  refine XS.bipush X0.here hx rfl (hb hby d2_56) ?_
                  show own_S p e below s₁ (mkF m 58 #[.val (.int p0)] [.int 68]) _
                  have q : (own_pick p0) = (68 : Int32) := by unfold own_pick; rw [if_neg hc24, if_neg hc25, if_neg hc26, if_neg hc27, if_neg hc28, if_neg hc29, if_neg hc30]
                  have hr := own_cast (P := fun z => ∀ (f : JFrame) (acts : List Action), f.method = m → f.locked = none → f.entered = [] → (doReturn e (s₁.setTop f) acts (some (.int z))).1 = s₁.setFrames fs) q hr
                  exact retN X0 hx (t := .char) Bd.returns (by simp) (hb hby d2_58) hr
  · show Q2 Z p0 h0 n0 _ s₁.heap _
    rw [e0]
    exact ⟨rfl, N0, rfl⟩
theorem own_pick_is (k : Int32) : own_is (own_pick (k &&& (7 : Int32))) := by
  generalize k &&& (7 : Int32) = j; unfold own_pick; repeat' split
  all_goals (unfold own_is; decide)
theorem pn_5 : plainName "jdk/internal/util/Preconditions" = true := by first | (simp [plainName, overriddenIn]; done) | decide +kernel
theorem ef_16 (m : MethodId) (p0 : Int32) (p1 : Int32) (v2 : Value) (rv_v2 : v2.isRef = true) : entryFrame m #[(.int p0), (.int p1), v2] 3 = mkF m 0 #[.val (.int p0), .val (.int p1), .val v2] [] := by rcases ref_cases rv_v2 with rfl | ⟨a, rfl⟩ <;> first | (simp [entryFrame, mkF, argsToLocals, Value.category]; done) | rfl
theorem d16_0 : decode jdk_41_method_11_code 0 = .ok (.iload_n 0, 1) := by decide +kernel
theorem d16_1 : decode jdk_41_method_11_code 1 = .ok (.ifCond .lt 8, 3) := by decide +kernel
theorem d16_4 : decode jdk_41_method_11_code 4 = .ok (.iload_n 0, 1) := by decide +kernel
theorem d16_5 : decode jdk_41_method_11_code 5 = .ok (.iload_n 1, 1) := by decide +kernel
theorem d16_6 : decode jdk_41_method_11_code 6 = .ok (.if_icmp .lt 10, 3) := by decide +kernel
theorem d16_16 : decode jdk_41_method_11_code 16 = .ok (.iload_n 0, 1) := by decide +kernel
theorem d16_17 : decode jdk_41_method_11_code 17 = .ok (.ireturn, 1) := by decide +kernel
def Q16 (Z : State) (p0 : Int32) (p1 : Int32) (v2 : Value) (h0 : Heap) (n0 : Nat) (v : Option Value) (h : Heap) (L : List Loc) : Prop := v = some (.int p0) ∧ Fr n0 L ∧ h = h0
set_option maxRecDepth 65536 in
set_option maxHeartbeats 40000000 in
theorem rm16 (l : Launch) (Z : State) (ag : Array Value) (hw : ∀ d ∈ tables_1, d.before ag Z = true) (ws : List Jvm.Cond) (p0 : Int32) (p1 : Int32) (v2 : Value) (h0 : Heap) (n0 : Nat) (Z0 : n0 ≤ h0.size) (rv_v2 : v2.isRef = true) (h1 : ¬ p0 < (0 : Int32)) (h2 : p0 < p1) :
    MetFree l (⟨"jdk/internal/util/Preconditions", "checkIndex", "(IILjava/util/function/BiFunction;)I"⟩ : MethodName) (head1 (Jvm.Cond.code (⟨"jdk/internal/util/Preconditions", "checkIndex", "(IILjava/util/function/BiFunction;)I"⟩ : MethodName) jdk_41_method_11_code 3 (some .int) :: ws) ({ frames := 0, cells := 0, slots := 0, locals := 0 } : Room)) (fun a U => a = #[(.int p0), (.int p1), v2] ∧ Z.Warmed39 U.vm ∧ U.heap = h0) (fun _ _ _ _ _ => True) (fun _ U o U' => ∃ v L, o = .returned v ∧ Q16 Z p0 p1 v2 h0 n0 v U'.heap L ∧ FrameEnd U o U' L ({ frames := 0, cells := 0, slots := 0, locals := 0 } : Room).cells ({ frames := 0, cells := 0, slots := 0, locals := 0 } : Room).slots) := by
  refine MetFree.of_bodySF (plainFor_of_name pn_5) hisR ?_
  intro p e s m args below meth c s₁ Bd hml0 hP hK
  obtain ⟨rfl, hZ, hh⟩ := hP
  have hx := Bd.exec
  have hby := Bd.bytes
  have hml : c.maxLocals = 3 := hml0
  have hown : s.vm.findClass "jdk/internal/util/Preconditions" = some m.cls := findClass_of_methodNamed Bd.named
  have hnm := (name_of_methodNamed Bd.named Bd.method).1
  have X0 : Stand p l e ({ frames := 0, cells := 0, slots := 0, locals := 0 } : Room) s m #[(.int p0), (.int p1), v2] below meth c s₁ [] 0 0 := Stand.of_body Bd
  have e0 : s₁.heap = h0 := by rw [← hh, Bd.state]; rfl
  have N0 := Fr.nil n0
  have pre0 : ∀ t, Steps p.tables e below (s₁.setTop (mkF m 0 #[.val (.int p0), .val (.int p1), .val v2] [])) t → Steps p.tables e below (s₁.setTop (entryFrame m #[(.int p0), (.int p1), v2] 3)) t := fun t k => castTop (ef_16 m p0 p1 v2 rv_v2) k
  obtain ⟨fs, hr, hrun, hended, hW, hsame⟩ := X0.leave (v := some (.int p0)) (fun h => by rw [Bd.returns] at h; cases h)
  refine ⟨_, _, pre0 _ ?_, hrun, hended, _, _, rfl, ?_, ⟨_, rfl⟩, hW, hsame.mono (by decide) (by decide)⟩
  · show own_S p e below s₁ (mkF m 0 #[.val (.int p0), .val (.int p1), .val v2] []) _
    refine XS.iloadN X0.here hx rfl (hb hby d16_0) rfl ?_
    show own_S p e below s₁ (mkF m 1 #[.val (.int p0), .val (.int p1), .val v2] [(.int p0)]) _
    refine XS.ifNo X0.here hx rfl (hb hby d16_1) rfl ((if0 _ _).trans (flt (show ¬ (p0 < (0 : Int32)) from h1)).1) ?_
    show own_S p e below s₁ (mkF m 4 #[.val (.int p0), .val (.int p1), .val v2] []) _
    refine XS.iloadN X0.here hx rfl (hb hby d16_4) rfl ?_
    show own_S p e below s₁ (mkF m 5 #[.val (.int p0), .val (.int p1), .val v2] [(.int p0)]) _
    refine XS.iloadN X0.here hx rfl (hb hby d16_5) rfl ?_
    show own_S p e below s₁ (mkF m 6 #[.val (.int p0), .val (.int p1), .val v2] [(.int p1), (.int p0)]) _
    refine XS.icmpYes X0.here hx rfl (pc0 := 6) (pc' := 16) rfl (hb hby d16_6) rfl (tlt (show p0 < p1 from h2)).1 (by decide) (by decide) ?_
    show own_S p e below s₁ (mkF m 16 #[.val (.int p0), .val (.int p1), .val v2] []) _
    refine XS.iloadN X0.here hx rfl (hb hby d16_16) rfl ?_
    show own_S p e below s₁ (mkF m 17 #[.val (.int p0), .val (.int p1), .val v2] [(.int p0)]) _
    exact retI X0 hx Bd.returns (hb hby d16_17) hr
  · show Q16 Z p0 p1 v2 h0 n0 _ s₁.heap _
    rw [e0]
    exact ⟨rfl, N0, rfl⟩
theorem pn_3 : plainName "java/lang/String" = true := by first | (simp [plainName, overriddenIn]; done) | decide +kernel
theorem ef_15 (m : MethodId) (p0 : Int32) (p1 : Int32) : entryFrame m #[(.int p0), (.int p1)] 2 = mkF m 0 #[.val (.int p0), .val (.int p1)] [] := by first | (simp [entryFrame, mkF, argsToLocals, Value.category]; done) | rfl
theorem d15_0 : decode jdk_42_method_155_code 0 = .ok (.iload_n 0, 1) := by decide +kernel
theorem d15_1 : decode jdk_42_method_155_code 1 = .ok (.iload_n 1, 1) := by decide +kernel
theorem d15_2 : decode jdk_42_method_155_code 2 = .ok (.getstatic 1053, 3) := by decide +kernel
theorem pd_12 : parseMethodDescriptor "(IILjava/util/function/BiFunction;)I" = some ⟨[.int, .int, (.object "java/util/function/BiFunction")], some .int⟩ := by decide +kernel
theorem d15_5 : decode jdk_42_method_155_code 5 = .ok (.invokestatic 1059, 3) := by decide +kernel
theorem d15_8 : decode jdk_42_method_155_code 8 = .ok (.pop, 1) := by decide +kernel
theorem d15_9 : decode jdk_42_method_155_code 9 = .ok (.return_, 1) := by decide +kernel
def Q15 (Z : State) (p0 : Int32) (p1 : Int32) (gf : Value) (h0 : Heap) (n0 : Nat) (v : Option Value) (h : Heap) (L : List Loc) : Prop := v = none ∧ Fr n0 L ∧ h = h0
set_option maxRecDepth 65536 in
set_option maxHeartbeats 40000000 in
theorem rm15 (l : Launch) (Z : State) (ag : Array Value) (hw : ∀ d ∈ tables_1, d.before ag Z = true) (ws : List Jvm.Cond) (p0 : Int32) (p1 : Int32) (gf : Value) (h0 : Heap) (n0 : Nat) (Z0 : n0 ≤ h0.size) (h1 : ¬ p0 < (0 : Int32)) (h2 : p0 < p1) (O_ : Old Z n0 h0) (S_gf : Sta Z Z.heap "jdk/internal/util/Preconditions" "SIOOBE_FORMATTER" "Ljava/util/function/BiFunction;" gf) (rv_gf : gf.isRef = true) :
    MetFree l (⟨"java/lang/String", "checkIndex", "(II)V"⟩ : MethodName) (head1 (Jvm.Cond.code (⟨"java/lang/String", "checkIndex", "(II)V"⟩ : MethodName) jdk_42_method_155_code 2 none :: ws) ({ frames := 1, cells := 0, slots := 0, locals := 14 } : Room)) (fun a U => a = #[(.int p0), (.int p1)] ∧ Z.Warmed39 U.vm ∧ U.heap = h0) (fun _ _ _ _ _ => True) (fun _ U o U' => ∃ v L, o = .returned v ∧ Q15 Z p0 p1 gf h0 n0 v U'.heap L ∧ FrameEnd U o U' L ({ frames := 1, cells := 0, slots := 0, locals := 14 } : Room).cells ({ frames := 1, cells := 0, slots := 0, locals := 14 } : Room).slots) := by
  refine MetFree.of_bodySF (plainFor_of_name pn_3) hisR ?_
  intro p e s m args below meth c s₁ Bd hml0 hP hK
  obtain ⟨rfl, hZ, hh⟩ := hP
  have hx := Bd.exec
  have hby := Bd.bytes
  have hml : c.maxLocals = 2 := hml0
  have hown : s.vm.findClass "java/lang/String" = some m.cls := findClass_of_methodNamed Bd.named
  have hnm := (name_of_methodNamed Bd.named Bd.method).1
  have X0 : Stand p l e ({ frames := 1, cells := 0, slots := 0, locals := 14 } : Room) s m #[(.int p0), (.int p1)] below meth c s₁ [] 0 0 := Stand.of_body Bd
  have e0 : s₁.heap = h0 := by rw [← hh, Bd.state]; rfl
  have N0 := Fr.nil n0
  have pre0 : ∀ t, Steps p.tables e below (s₁.setTop (mkF m 0 #[.val (.int p0), .val (.int p1)] [])) t → Steps p.tables e below (s₁.setTop (entryFrame m #[(.int p0), (.int p1)] 2)) t := fun t k => castTop (ef_15 m p0 p1) k
  obtain ⟨T31, X31, e31, st31⟩ := getS2 X0 hx hZ hown (host := "") (Or.inl (hw _ (List.mem_of_getElem? (i := 88) rfl))) Via.refl e0 (Sta.ext O_.2 S_gf) (g := (mkF m 2 #[.val (.int p0), .val (.int p1)] [(.int p1), (.int p0)])) rfl (hb hby d15_2)
  obtain ⟨_, _, ⟨T32, L32, k32, n32⟩, -, X32, ⟨Lc32, hQ32, l32, y32, z32⟩, st32⟩ := Jvm.LawKit.callS X31 hx (y := (⟨"jdk/internal/util/Preconditions", "checkIndex", "(IILjava/util/function/BiFunction;)I"⟩ : MethodName)) hown (mvT hZ (hw _ (List.mem_of_getElem? (i := 90) rfl))) (mvT hZ (hw _ (List.mem_of_getElem? (i := 91) rfl))) (mvT hZ (hw _ (List.mem_of_getElem? (i := 89) rfl))) (mvT hZ (hw _ (List.mem_of_getElem? (i := 92) rfl))) (by decide) (backOf (W := 0) (rm16 l Z ag hw [] p0 p1 gf  h0 n0 Z0 rv_gf h1 h2) hZ (hw _ (List.mem_of_getElem? (i := 92) rfl)) (hw _ (List.mem_of_getElem? (i := 89) rfl)) (by decide) (by decide)) (g := (mkF m 5 #[.val (.int p0), .val (.int p1)] [gf, (.int p1), (.int p0)])) rfl (by rw [hml]; rfl) (argsL := [(.int p0), (.int p1), gf]) (rest := []) (lenOf pd_12 rfl) rfl (by show 2 * 0 + _ ≤ _; exact Nat.le_of_eq rfl) (hb hby d15_5) (fun _ _ => ⟨rfl, e31, (by decide : 0 + 0 ≤ _), (by decide : 0 + 0 ≤ _)⟩)
  dsimp only [Pt.U, Pt.locs, Pt.cells, Pt.slots] at X32 l32 y32 z32 st32 hQ32
  subst l32 y32 z32
  obtain ⟨rfl, N32q, e32⟩ := hQ32
  have N32 := Fr.app N0 N32q
  obtain ⟨fs, hr, hrun, hended, hW, hsame⟩ := X32.leave (v := none) (fun _ => rfl)
  refine ⟨_, _, pre0 _ ?_, hrun, hended, _, _, rfl, ?_, ⟨_, rfl⟩, hW, hsame.mono (by decide) (by decide)⟩
  · show own_S p e below s₁ (mkF m 0 #[.val (.int p0), .val (.int p1)] []) _
    refine XS.iloadN X0.here hx rfl (hb hby d15_0) rfl ?_
    show own_S p e below s₁ (mkF m 1 #[.val (.int p0), .val (.int p1)] [(.int p0)]) _
    refine XS.iloadN X0.here hx rfl (hb hby d15_1) rfl ?_
    show own_S p e below s₁ (mkF m 2 #[.val (.int p0), .val (.int p1)] [(.int p1), (.int p0)]) _
    refine st31 _ ?_
    show own_S p e below T31 (mkF m 5 #[.val (.int p0), .val (.int p1)] [gf, (.int p1), (.int p0)]) _
    refine st32 _ ?_
    show own_S p e below T32 (mkF m 8 #[.val (.int p0), .val (.int p1)] [(.int p0)]) _
    refine XS.pop X32.here hx rfl (hb hby d15_8) rfl rfl ?_
    show own_S p e below T32 (mkF m 9 #[.val (.int p0), .val (.int p1)] []) _
    exact X32.returnOut hx Bd.returns (hb hby d15_9) hr
  · show Q15 Z p0 p1 gf h0 n0 _ T32.heap _
    rw [e32]
    exact ⟨rfl, N32, rfl⟩
theorem ef_13 (m : MethodId) (a0 : Addr) : entryFrame m #[(.ref a0)] 1 = mkF m 0 #[.val (.ref a0)] [] := by first | (simp [entryFrame, mkF, argsToLocals, Value.category]; done) | rfl
theorem d13_0 : decode jdk_42_method_154_code 0 = .ok (.getstatic 38, 3) := by decide +kernel
theorem d13_3 : decode jdk_42_method_154_code 3 = .ok (.ifCond .eq 14, 3) := by decide +kernel
theorem d13_6 : decode jdk_42_method_154_code 6 = .ok (.aload_n 0, 1) := by decide +kernel
theorem d13_7 : decode jdk_42_method_154_code 7 = .ok (.getfield 15, 3) := by decide +kernel
theorem d13_10 : decode jdk_42_method_154_code 10 = .ok (.ifCond .ne 7, 3) := by decide +kernel
theorem d13_13 : decode jdk_42_method_154_code 13 = .ok (.iconst 1, 1) := by decide +kernel
theorem d13_14 : decode jdk_42_method_154_code 14 = .ok (.goto 4, 3) := by decide +kernel
theorem d13_18 : decode jdk_42_method_154_code 18 = .ok (.ireturn, 1) := by decide +kernel
def Q13_0 (Z : State) (a0 : Addr) (cs : Int32) (h0 : Heap) (n0 : Nat) (v : Option Value) (h : Heap) (L : List Loc) : Prop := v = some (.int (1 : Int32)) ∧ Fr n0 L ∧ h = h0
set_option maxRecDepth 65536 in
set_option maxHeartbeats 40000000 in
theorem rm13_0 (l : Launch) (Z : State) (ag : Array Value) (hw : ∀ d ∈ tables_1, d.before ag Z = true) (ws : List Jvm.Cond) (a0 : Addr) (cs : Int32) (h0 : Heap) (n0 : Nat) (Z0 : n0 ≤ h0.size) (F_coder_a0 : Fld Z h0 a0 "java/lang/String" "coder" "B" (.int (0 : Int32))) (O_ : Old Z n0 h0) (S_cs : Sta Z Z.heap "java/lang/String" "COMPACT_STRINGS" "Z" (.int cs)) (hcs : ¬ cs = (0 : Int32)) :
    MetFree l (⟨"java/lang/String", "isLatin1", "()Z"⟩ : MethodName) (head1 (Jvm.Cond.code (⟨"java/lang/String", "isLatin1", "()Z"⟩ : MethodName) jdk_42_method_154_code 1 (some .boolean) :: ws) ({ frames := 0, cells := 0, slots := 0, locals := 0 } : Room)) (fun a U => a = #[(.ref a0)] ∧ Z.Warmed39 U.vm ∧ U.heap = h0) (fun _ _ _ _ _ => True) (fun _ U o U' => ∃ v L, o = .returned v ∧ Q13_0 Z a0 cs h0 n0 v U'.heap L ∧ FrameEnd U o U' L ({ frames := 0, cells := 0, slots := 0, locals := 0 } : Room).cells ({ frames := 0, cells := 0, slots := 0, locals := 0 } : Room).slots) := by
  refine MetFree.of_bodySF (plainFor_of_name pn_3) hisR ?_
  intro p e s m args below meth c s₁ Bd hml0 hP hK
  obtain ⟨rfl, hZ, hh⟩ := hP
  have hx := Bd.exec
  have hby := Bd.bytes
  have hml : c.maxLocals = 1 := hml0
  have hown : s.vm.findClass "java/lang/String" = some m.cls := findClass_of_methodNamed Bd.named
  have hnm := (name_of_methodNamed Bd.named Bd.method).1
  have X0 : Stand p l e ({ frames := 0, cells := 0, slots := 0, locals := 0 } : Room) s m #[(.ref a0)] below meth c s₁ [] 0 0 := Stand.of_body Bd
  have e0 : s₁.heap = h0 := by rw [← hh, Bd.state]; rfl
  have N0 := Fr.nil n0
  have pre0 : ∀ t, Steps p.tables e below (s₁.setTop (mkF m 0 #[.val (.ref a0)] [])) t → Steps p.tables e below (s₁.setTop (entryFrame m #[(.ref a0)] 1)) t := fun t k => castTop (ef_13 m a0) k
  obtain ⟨T33, X33, e33, st33⟩ := getS2 X0 hx hZ hown (host := "") (Or.inl (hw _ (List.mem_of_getElem? (i := 15) rfl))) Via.refl e0 (Sta.ext O_.2 S_cs) (g := (mkF m 0 #[.val (.ref a0)] [])) rfl (hb hby d13_0)
  obtain ⟨T34, X34, e34, st34⟩ := getF X33 hx hZ hown (host := "") (Or.inl (hw _ (List.mem_of_getElem? (i := 35) rfl))) Via.refl e33 F_coder_a0 (g := (mkF m 7 #[.val (.ref a0)] [(.ref a0)])) rfl rfl (hb hby d13_7)
  obtain ⟨fs, hr, hrun, hended, hW, hsame⟩ := X34.leave (v := some (.int (1 : Int32))) (fun h => by rw [Bd.returns] at h; cases h)
  refine ⟨_, _, pre0 _ ?_, hrun, hended, _, _, rfl, ?_, ⟨_, rfl⟩, hW, hsame.mono (by decide) (by decide)⟩
  · show own_S p e below s₁ (mkF m 0 #[.val (.ref a0)] []) _
    refine st33 _ ?_
    show own_S p e below T33 (mkF m 3 #[.val (.ref a0)] [(.int cs)]) _
    refine XS.ifNo X33.here hx rfl (hb hby d13_3) rfl ((if0 _ _).trans (feq (show ¬ (cs = (0 : Int32)) from hcs)).1) ?_
    show own_S p e below T33 (mkF m 6 #[.val (.ref a0)] []) _
    refine XS.aloadN X33.here hx rfl (hb hby d13_6) rfl rfl ?_
    show own_S p e below T33 (mkF m 7 #[.val (.ref a0)] [(.ref a0)]) _
    refine st34 _ ?_
    show own_S p e below T34 (mkF m 10 #[.val (.ref a0)] [.int 0]) _
    refine XS.ifNo X34.here hx rfl (hb hby d13_10) rfl ((if0 _ _).trans (teq (by decide : (0 : Int32) = (0 : Int32))).2) ?_
    show own_S p e below T34 (mkF m 13 #[.val (.ref a0)] []) _
    refine XS.iconst X34.here hx rfl (hb hby d13_13) ?_
    show own_S p e below T34 (mkF m 14 #[.val (.ref a0)] [.int 1]) _
    refine XS.goto X34.here hx rfl (pc0 := 14) (pc' := 18) rfl (hb hby d13_14) (by decide) (by decide) ?_
    show own_S p e below T34 (mkF m 18 #[.val (.ref a0)] [.int 1]) _
    exact retN X34 hx (t := .boolean) Bd.returns (by simp) (hb hby d13_18) hr
  · show Q13_0 Z a0 cs h0 n0 _ T34.heap _
    rw [e34]
    exact ⟨rfl, N0, rfl⟩
theorem d13_17 : decode jdk_42_method_154_code 17 = .ok (.iconst 0, 1) := by decide +kernel
def Q13_1 (Z : State) (a0 : Addr) (cs : Int32) (h0 : Heap) (n0 : Nat) (v : Option Value) (h : Heap) (L : List Loc) : Prop := v = some (.int (0 : Int32)) ∧ Fr n0 L ∧ h = h0
set_option maxRecDepth 65536 in
set_option maxHeartbeats 40000000 in
theorem rm13_1 (l : Launch) (Z : State) (ag : Array Value) (hw : ∀ d ∈ tables_1, d.before ag Z = true) (ws : List Jvm.Cond) (a0 : Addr) (cs : Int32) (h0 : Heap) (n0 : Nat) (Z0 : n0 ≤ h0.size) (F_coder_a0 : Fld Z h0 a0 "java/lang/String" "coder" "B" (.int (1 : Int32))) (O_ : Old Z n0 h0) (S_cs : Sta Z Z.heap "java/lang/String" "COMPACT_STRINGS" "Z" (.int cs)) (hcs : ¬ cs = (0 : Int32)) :
    MetFree l (⟨"java/lang/String", "isLatin1", "()Z"⟩ : MethodName) (head1 (Jvm.Cond.code (⟨"java/lang/String", "isLatin1", "()Z"⟩ : MethodName) jdk_42_method_154_code 1 (some .boolean) :: ws) ({ frames := 0, cells := 0, slots := 0, locals := 0 } : Room)) (fun a U => a = #[(.ref a0)] ∧ Z.Warmed39 U.vm ∧ U.heap = h0) (fun _ _ _ _ _ => True) (fun _ U o U' => ∃ v L, o = .returned v ∧ Q13_1 Z a0 cs h0 n0 v U'.heap L ∧ FrameEnd U o U' L ({ frames := 0, cells := 0, slots := 0, locals := 0 } : Room).cells ({ frames := 0, cells := 0, slots := 0, locals := 0 } : Room).slots) := by
  refine MetFree.of_bodySF (plainFor_of_name pn_3) hisR ?_
  intro p e s m args below meth c s₁ Bd hml0 hP hK
  obtain ⟨rfl, hZ, hh⟩ := hP
  have hx := Bd.exec
  have hby := Bd.bytes
  have hml : c.maxLocals = 1 := hml0
  have hown : s.vm.findClass "java/lang/String" = some m.cls := findClass_of_methodNamed Bd.named
  have hnm := (name_of_methodNamed Bd.named Bd.method).1
  have X0 : Stand p l e ({ frames := 0, cells := 0, slots := 0, locals := 0 } : Room) s m #[(.ref a0)] below meth c s₁ [] 0 0 := Stand.of_body Bd
  have e0 : s₁.heap = h0 := by rw [← hh, Bd.state]; rfl
  have N0 := Fr.nil n0
  have pre0 : ∀ t, Steps p.tables e below (s₁.setTop (mkF m 0 #[.val (.ref a0)] [])) t → Steps p.tables e below (s₁.setTop (entryFrame m #[(.ref a0)] 1)) t := fun t k => castTop (ef_13 m a0) k
  obtain ⟨T35, X35, e35, st35⟩ := getS2 X0 hx hZ hown (host := "") (Or.inl (hw _ (List.mem_of_getElem? (i := 15) rfl))) Via.refl e0 (Sta.ext O_.2 S_cs) (g := (mkF m 0 #[.val (.ref a0)] [])) rfl (hb hby d13_0)
  obtain ⟨T36, X36, e36, st36⟩ := getF X35 hx hZ hown (host := "") (Or.inl (hw _ (List.mem_of_getElem? (i := 35) rfl))) Via.refl e35 F_coder_a0 (g := (mkF m 7 #[.val (.ref a0)] [(.ref a0)])) rfl rfl (hb hby d13_7)
  obtain ⟨fs, hr, hrun, hended, hW, hsame⟩ := X36.leave (v := some (.int (0 : Int32))) (fun h => by rw [Bd.returns] at h; cases h)
  refine ⟨_, _, pre0 _ ?_, hrun, hended, _, _, rfl, ?_, ⟨_, rfl⟩, hW, hsame.mono (by decide) (by decide)⟩
  · show own_S p e below s₁ (mkF m 0 #[.val (.ref a0)] []) _
    refine st35 _ ?_
    show own_S p e below T35 (mkF m 3 #[.val (.ref a0)] [(.int cs)]) _
    refine XS.ifNo X35.here hx rfl (hb hby d13_3) rfl ((if0 _ _).trans (feq (show ¬ (cs = (0 : Int32)) from hcs)).1) ?_
    show own_S p e below T35 (mkF m 6 #[.val (.ref a0)] []) _
    refine XS.aloadN X35.here hx rfl (hb hby d13_6) rfl rfl ?_
    show own_S p e below T35 (mkF m 7 #[.val (.ref a0)] [(.ref a0)]) _
    refine st36 _ ?_
    show own_S p e below T36 (mkF m 10 #[.val (.ref a0)] [.int 1]) _
    refine XS.ifYes X36.here hx rfl (pc0 := 10) (pc' := 17) rfl (hb hby d13_10) rfl ((if0 _ _).trans (feq (by decide : ¬ ((1 : Int32) = (0 : Int32)))).2) (by decide) (by decide) ?_
    show own_S p e below T36 (mkF m 17 #[.val (.ref a0)] []) _
    refine XS.iconst X36.here hx rfl (hb hby d13_17) ?_
    show own_S p e below T36 (mkF m 18 #[.val (.ref a0)] [.int 0]) _
    exact retN X36 hx (t := .boolean) Bd.returns (by simp) (hb hby d13_18) hr
  · show Q13_1 Z a0 cs h0 n0 _ T36.heap _
    rw [e36]
    exact ⟨rfl, N0, rfl⟩
theorem pn_4 : plainName "java/lang/StringLatin1" = true := by first | (simp [plainName, overriddenIn]; done) | decide +kernel
theorem ef_14 (m : MethodId) (a0 : Addr) (p1 : Int32) : entryFrame m #[(.ref a0), (.int p1)] 2 = mkF m 0 #[.val (.ref a0), .val (.int p1)] [] := by first | (simp [entryFrame, mkF, argsToLocals, Value.category]; done) | rfl
theorem d14_0 : decode jdk_43_method_2_code 0 = .ok (.iload_n 1, 1) := by decide +kernel
theorem d14_1 : decode jdk_43_method_2_code 1 = .ok (.aload_n 0, 1) := by decide +kernel
theorem d14_2 : decode jdk_43_method_2_code 2 = .ok (.arraylength, 1) := by decide +kernel
theorem pd_11 : parseMethodDescriptor "(II)V" = some ⟨[.int, .int], none⟩ := by decide +kernel
theorem d14_3 : decode jdk_43_method_2_code 3 = .ok (.invokestatic 9, 3) := by decide +kernel
theorem d14_6 : decode jdk_43_method_2_code 6 = .ok (.aload_n 0, 1) := by decide +kernel
theorem d14_7 : decode jdk_43_method_2_code 7 = .ok (.iload_n 1, 1) := by decide +kernel
theorem d14_8 : decode jdk_43_method_2_code 8 = .ok (.baload, 1) := by decide +kernel
theorem d14_9 : decode jdk_43_method_2_code 9 = .ok (.sipush 255, 3) := by decide +kernel
theorem d14_12 : decode jdk_43_method_2_code 12 = .ok (.iand, 1) := by decide +kernel
theorem d14_13 : decode jdk_43_method_2_code 13 = .ok (.i2c, 1) := by decide +kernel
theorem d14_14 : decode jdk_43_method_2_code 14 = .ok (.ireturn, 1) := by decide +kernel
def Q14 (Z : State) (a0 : Addr) (p1 : Int32) (kb : ClassId) (nb : Int32) (bs : List Value) (u : Int32) (gf : Value) (h0 : Heap) (n0 : Nat) (v : Option Value) (h : Heap) (L : List Loc) : Prop := v = some (.int (nar .char ((u &&& (255 : Int32)).toUInt32.toUInt16.toUInt32.toInt32))) ∧ Fr n0 L ∧ h = h0
set_option maxRecDepth 65536 in
set_option maxHeartbeats 40000000 in
theorem rm14 (l : Launch) (Z : State) (ag : Array Value) (hw : ∀ d ∈ tables_1, d.before ag Z = true) (ws : List Jvm.Cond) (a0 : Addr) (p1 : Int32) (kb : ClassId) (nb : Int32) (bs : List Value) (u : Int32) (gf : Value) (h0 : Heap) (n0 : Nat) (Z0 : n0 ≤ h0.size) (V_a0 : Arv Z h0 a0 kb .byte nb bs (.int (0 : Int32))) (h1 : ¬ p1 < (0 : Int32)) (h2 : p1 < nb) (hu : bs.getD (p1).toNatClampNeg (.int (0 : Int32)) = .int u) (O_ : Old Z n0 h0) (S_gf : Sta Z Z.heap "jdk/internal/util/Preconditions" "SIOOBE_FORMATTER" "Ljava/util/function/BiFunction;" gf) (rv_gf : gf.isRef = true) :
    MetFree l (⟨"java/lang/StringLatin1", "charAt", "([BI)C"⟩ : MethodName) (head1 (Jvm.Cond.code (⟨"java/lang/StringLatin1", "charAt", "([BI)C"⟩ : MethodName) jdk_43_method_2_code 2 (some .char) :: ws) ({ frames := 2, cells := 0, slots := 0, locals := 27 } : Room)) (fun a U => a = #[(.ref a0), (.int p1)] ∧ Z.Warmed39 U.vm ∧ U.heap = h0) (fun _ _ _ _ _ => True) (fun _ U o U' => ∃ v L, o = .returned v ∧ Q14 Z a0 p1 kb nb bs u gf h0 n0 v U'.heap L ∧ FrameEnd U o U' L ({ frames := 2, cells := 0, slots := 0, locals := 27 } : Room).cells ({ frames := 2, cells := 0, slots := 0, locals := 27 } : Room).slots) := by
  refine MetFree.of_bodySF (plainFor_of_name pn_4) hisR ?_
  intro p e s m args below meth c s₁ Bd hml0 hP hK
  obtain ⟨rfl, hZ, hh⟩ := hP
  have hx := Bd.exec
  have hby := Bd.bytes
  have hml : c.maxLocals = 2 := hml0
  have hown : s.vm.findClass "java/lang/StringLatin1" = some m.cls := findClass_of_methodNamed Bd.named
  have hnm := (name_of_methodNamed Bd.named Bd.method).1
  have X0 : Stand p l e ({ frames := 2, cells := 0, slots := 0, locals := 27 } : Room) s m #[(.ref a0), (.int p1)] below meth c s₁ [] 0 0 := Stand.of_body Bd
  have e0 : s₁.heap = h0 := by rw [← hh, Bd.state]; rfl
  have N0 := Fr.nil n0
  have pre0 : ∀ t, Steps p.tables e below (s₁.setTop (mkF m 0 #[.val (.ref a0), .val (.int p1)] [])) t → Steps p.tables e below (s₁.setTop (entryFrame m #[(.ref a0), (.int p1)] 2)) t := fun t k => castTop (ef_14 m a0 p1) k
  obtain ⟨cl37, Ar37, -, S37, M37, -, -⟩ := id V_a0
  have ld37 := X0.arraylength hx (by rw [e0]; exact Ar37.1) (State.isArrayOf_alike hZ.alike Ar37.2.1) (g := (mkF m 2 #[.val (.ref a0), .val (.int p1)] [(.ref a0), (.int p1)])) rfl rfl (hb hby d14_2)
  obtain ⟨_, _, ⟨T38, L38, k38, n38⟩, -, X38, ⟨Lc38, hQ38, l38, y38, z38⟩, st38⟩ := Jvm.LawKit.callS X0 hx (y := (⟨"java/lang/String", "checkIndex", "(II)V"⟩ : MethodName)) hown (mvT hZ (hw _ (List.mem_of_getElem? (i := 85) rfl))) (mvT hZ (hw _ (List.mem_of_getElem? (i := 86) rfl))) (mvT hZ (hw _ (List.mem_of_getElem? (i := 13) rfl))) (mvT hZ (hw _ (List.mem_of_getElem? (i := 87) rfl))) (by decide) (backOf (W := 0) (rm15 l Z ag hw [] p1 nb gf h0 n0 Z0 h1 h2 O_ S_gf rv_gf) hZ (hw _ (List.mem_of_getElem? (i := 87) rfl)) (hw _ (List.mem_of_getElem? (i := 13) rfl)) (by decide) (by decide)) (g := (mkF m 3 #[.val (.ref a0), .val (.int p1)] [(.int nb), (.int p1)])) rfl (by rw [hml]; rfl) (argsL := [(.int p1), (.int nb)]) (rest := []) (lenOf pd_11 rfl) rfl (by show 2 * 0 + _ ≤ _; exact Nat.le_of_eq rfl) (hb hby d14_3) (fun _ _ => ⟨rfl, e0, (by decide : 0 + 0 ≤ _), (by decide : 0 + 0 ≤ _)⟩)
  dsimp only [Pt.U, Pt.locs, Pt.cells, Pt.slots] at X38 l38 y38 z38 st38 hQ38
  subst l38 y38 z38
  obtain ⟨rfl, N38q, e38⟩ := hQ38
  have N38 := Fr.app N0 N38q
  obtain ⟨cl39, Ar39, q39, S39, M39, H39, G39⟩ := id V_a0
  have hin39 : ¬ (p1 < 0 ∨ cl39.slots.size ≤ (p1).toNatClampNeg) := inb_of S39 ⟨h1, h2⟩
  have hat39 : cl39.slots[(p1).toNatClampNeg]? = some (.int u) := Has.at H39 hin39 hu
  have ld39 := X38.baloadBytes hx (j := p1) (v := (.int u)) (by rw [e38]; exact Ar39.1) (State.isArrayOf_alike hZ.alike Ar39.2.1) Ar39.2.2 hin39 hat39 (g := (mkF m 8 #[.val (.ref a0), .val (.int p1)] [(.int p1), (.ref a0)])) rfl rfl (hb hby d14_8)
  obtain ⟨fs, hr, hrun, hended, hW, hsame⟩ := X38.leave (v := some (.int (nar .char ((u &&& (255 : Int32)).toUInt32.toUInt16.toUInt32.toInt32)))) (fun h => by rw [Bd.returns] at h; cases h)
  refine ⟨_, _, pre0 _ ?_, hrun, hended, _, _, rfl, ?_, ⟨_, rfl⟩, hW, hsame.mono (by decide) (by decide)⟩
  · show own_S p e below s₁ (mkF m 0 #[.val (.ref a0), .val (.int p1)] []) _
    refine XS.iloadN X0.here hx rfl (hb hby d14_0) rfl ?_
    show own_S p e below s₁ (mkF m 1 #[.val (.ref a0), .val (.int p1)] [(.int p1)]) _
    refine XS.aloadN X0.here hx rfl (hb hby d14_1) rfl rfl ?_
    show own_S p e below s₁ (mkF m 2 #[.val (.ref a0), .val (.int p1)] [(.ref a0), (.int p1)]) _
    refine ld37 _ ?_
    rw [len_of S37 M37]
    show own_S p e below s₁ (mkF m 3 #[.val (.ref a0), .val (.int p1)] [(.int nb), (.int p1)]) _
    refine st38 _ ?_
    show own_S p e below T38 (mkF m 6 #[.val (.ref a0), .val (.int p1)] []) _
    refine XS.aloadN X38.here hx rfl (hb hby d14_6) rfl rfl ?_
    show own_S p e below T38 (mkF m 7 #[.val (.ref a0), .val (.int p1)] [(.ref a0)]) _
    refine XS.iloadN X38.here hx rfl (hb hby d14_7) rfl ?_
    show own_S p e below T38 (mkF m 8 #[.val (.ref a0), .val (.int p1)] [(.int p1), (.ref a0)]) _
    refine ld39 _ ?_
    show own_S p e below T38 (mkF m 9 #[.val (.ref a0), .val (.int p1)] [(.int u)]) _
    refine XS.sipush X38.here hx rfl (hb hby d14_9) ?_
    show own_S p e below T38 (mkF m 12 #[.val (.ref a0), .val (.int p1)] [.int 255, (.int u)]) _
    refine XS.iand X38.here hx rfl (hb hby d14_12) rfl ?_
    show own_S p e below T38 (mkF m 13 #[.val (.ref a0), .val (.int p1)] [(.int (u &&& (255 : Int32)))]) _
    refine XS.i2c X38.here hx rfl (hb hby d14_13) rfl ?_
    show own_S p e below T38 (mkF m 14 #[.val (.ref a0), .val (.int p1)] [(.int ((u &&& (255 : Int32)).toUInt32.toUInt16.toUInt32.toInt32))]) _
    exact retN X38 hx (t := .char) Bd.returns (by simp) (hb hby d14_14) hr
  · show Q14 Z a0 p1 kb nb bs u gf h0 n0 _ T38.heap _
    rw [e38]
    exact ⟨rfl, N38, rfl⟩
theorem ef_12 (m : MethodId) (a0 : Addr) (p1 : Int32) : entryFrame m #[(.ref a0), (.int p1)] 2 = mkF m 0 #[.val (.ref a0), .val (.int p1)] [] := by first | (simp [entryFrame, mkF, argsToLocals, Value.category]; done) | rfl
theorem d12_0 : decode jdk_42_method_56_code 0 = .ok (.aload_n 0, 1) := by decide +kernel
theorem pd_4 : parseMethodDescriptor "()Z" = some ⟨[], some .boolean⟩ := by decide +kernel
theorem d12_1 : decode jdk_42_method_56_code 1 = .ok (.invokevirtual 492, 3) := by decide +kernel
theorem d12_4 : decode jdk_42_method_56_code 4 = .ok (.ifCond .eq 12, 3) := by decide +kernel
theorem d12_7 : decode jdk_42_method_56_code 7 = .ok (.aload_n 0, 1) := by decide +kernel
theorem d12_8 : decode jdk_42_method_56_code 8 = .ok (.getfield 9, 3) := by decide +kernel
theorem d12_11 : decode jdk_42_method_56_code 11 = .ok (.iload_n 1, 1) := by decide +kernel
theorem pd_15 : parseMethodDescriptor "([BI)C" = some ⟨[(.array .byte), .int], some .char⟩ := by decide +kernel
theorem d12_12 : decode jdk_42_method_56_code 12 = .ok (.invokestatic 495, 3) := by decide +kernel
theorem d12_15 : decode jdk_42_method_56_code 15 = .ok (.ireturn, 1) := by decide +kernel
def Q12 (Z : State) (a0 : Addr) (p1 : Int32) (b : Addr) (kb : ClassId) (nb : Int32) (bs : List Value) (u : Int32) (cs : Int32) (gf : Value) (h0 : Heap) (n0 : Nat) (v : Option Value) (h : Heap) (L : List Loc) : Prop := v = some (.int (nar .char (nar .char ((u &&& (255 : Int32)).toUInt32.toUInt16.toUInt32.toInt32)))) ∧ Fr n0 L ∧ h = h0
set_option maxRecDepth 65536 in
set_option maxHeartbeats 40000000 in
theorem rm12 (l : Launch) (Z : State) (ag : Array Value) (hw : ∀ d ∈ tables_1, d.before ag Z = true) (ws : List Jvm.Cond) (a0 : Addr) (p1 : Int32) (b : Addr) (kb : ClassId) (nb : Int32) (bs : List Value) (u : Int32) (cs : Int32) (gf : Value) (h0 : Heap) (n0 : Nat) (Z0 : n0 ≤ h0.size) (E_a0 : Exa Z h0 a0 "java/lang/String") (F_value_a0 : Fld Z h0 a0 "java/lang/String" "value" "[B" (.ref b)) (F_coder_a0 : Fld Z h0 a0 "java/lang/String" "coder" "B" (.int (0 : Int32))) (V_b : Arv Z h0 b kb .byte nb bs (.int (0 : Int32))) (h1 : ¬ p1 < (0 : Int32)) (h2 : p1 < nb) (hu : bs.getD (p1).toNatClampNeg (.int (0 : Int32)) = .int u) (O_ : Old Z n0 h0) (S_cs : Sta Z Z.heap "java/lang/String" "COMPACT_STRINGS" "Z" (.int cs)) (hcs : ¬ cs = (0 : Int32)) (S_gf : Sta Z Z.heap "jdk/internal/util/Preconditions" "SIOOBE_FORMATTER" "Ljava/util/function/BiFunction;" gf) (rv_gf : gf.isRef = true) :
    MetFree l (⟨"java/lang/String", "charAt", "(I)C"⟩ : MethodName) (head1 (Jvm.Cond.code (⟨"java/lang/String", "charAt", "(I)C"⟩ : MethodName) jdk_42_method_56_code 2 (some .char) :: ws) ({ frames := 3, cells := 0, slots := 0, locals := 40 } : Room)) (fun a U => a = #[(.ref a0), (.int p1)] ∧ Z.Warmed39 U.vm ∧ U.heap = h0) (fun _ _ _ _ _ => True) (fun _ U o U' => ∃ v L, o = .returned v ∧ Q12 Z a0 p1 b kb nb bs u cs gf h0 n0 v U'.heap L ∧ FrameEnd U o U' L ({ frames := 3, cells := 0, slots := 0, locals := 40 } : Room).cells ({ frames := 3, cells := 0, slots := 0, locals := 40 } : Room).slots) := by
  refine MetFree.of_bodySF (plainFor_of_name pn_3) hisR ?_
  intro p e s m args below meth c s₁ Bd hml0 hP hK
  obtain ⟨rfl, hZ, hh⟩ := hP
  have hx := Bd.exec
  have hby := Bd.bytes
  have hml : c.maxLocals = 2 := hml0
  have hown : s.vm.findClass "java/lang/String" = some m.cls := findClass_of_methodNamed Bd.named
  have hnm := (name_of_methodNamed Bd.named Bd.method).1
  have X0 : Stand p l e ({ frames := 3, cells := 0, slots := 0, locals := 40 } : Room) s m #[(.ref a0), (.int p1)] below meth c s₁ [] 0 0 := Stand.of_body Bd
  have e0 : s₁.heap = h0 := by rw [← hh, Bd.state]; rfl
  have N0 := Fr.nil n0
  have pre0 : ∀ t, Steps p.tables e below (s₁.setTop (mkF m 0 #[.val (.ref a0), .val (.int p1)] [])) t → Steps p.tables e below (s₁.setTop (entryFrame m #[(.ref a0), (.int p1)] 2)) t := fun t k => castTop (ef_12 m a0 p1) k
  obtain ⟨cq40, kq40, q40a, q40b, q40c⟩ := isOf hZ e0 E_a0
  obtain ⟨_, _, ⟨T40, L40, k40, n40⟩, -, X40, ⟨Lc40, hQ40, l40, y40, z40⟩, st40⟩ := X0.virtualBack hx (y := (⟨"java/lang/String", "isLatin1", "()Z"⟩ : MethodName)) (z := (⟨"java/lang/String", "isLatin1", "()Z"⟩ : MethodName)) hown (mvT hZ (hw _ (List.mem_of_getElem? (i := 77) rfl))) (mvT hZ (hw _ (List.mem_of_getElem? (i := 78) rfl))) (notFace_of_selects (args := #[]) (mvT hZ (hw _ (List.mem_of_getElem? (i := 80) rfl)))) (mvT hZ (hw _ (List.mem_of_getElem? (i := 80) rfl))) (mvT hZ (hw _ (List.mem_of_getElem? (i := 79) rfl))) (by decide) (backOf (W := 0) (rm13_0 l Z ag hw [] a0 cs h0 n0 Z0 F_coder_a0 O_ S_cs hcs) hZ (hw _ (List.mem_of_getElem? (i := 81) rfl)) (hw _ (List.mem_of_getElem? (i := 13) rfl)) (by decide) (by decide)) q40a q40c (g := (mkF m 1 #[.val (.ref a0), .val (.int p1)] [(.ref a0)])) rfl (by rw [hml]; rfl) (Steps.refl _) (argsL := []) (rest := []) (lenOf pd_4 rfl) rfl (by show 2 * 0 + _ ≤ _; exact Nat.le_of_eq rfl) (hb hby d12_1) (fun _ _ => ⟨rfl, e0, (by decide : 0 + 0 ≤ _), (by decide : 0 + 0 ≤ _)⟩)
  dsimp only [Pt.U, Pt.locs, Pt.cells, Pt.slots] at X40 l40 y40 z40 st40 hQ40
  subst l40 y40 z40
  obtain ⟨rfl, N40q, e40⟩ := hQ40
  have N40 := Fr.app N0 N40q
  obtain ⟨T41, X41, e41, st41⟩ := getF X40 hx hZ hown (host := "") (Or.inl (hw _ (List.mem_of_getElem? (i := 33) rfl))) Via.refl e40 F_value_a0 (g := (mkF m 8 #[.val (.ref a0), .val (.int p1)] [(.ref a0)])) rfl rfl (hb hby d12_8)
  obtain ⟨_, _, ⟨T42, L42, k42, n42⟩, -, X42, ⟨Lc42, hQ42, l42, y42, z42⟩, st42⟩ := Jvm.LawKit.callS X41 hx (y := (⟨"java/lang/StringLatin1", "charAt", "([BI)C"⟩ : MethodName)) hown (mvT hZ (hw _ (List.mem_of_getElem? (i := 82) rfl))) (mvT hZ (hw _ (List.mem_of_getElem? (i := 83) rfl))) (mvT hZ (hw _ (List.mem_of_getElem? (i := 18) rfl))) (mvT hZ (hw _ (List.mem_of_getElem? (i := 84) rfl))) (by decide) (backOf (W := 0) (rm14 l Z ag hw [] b p1 kb nb bs u gf h0 n0 Z0 V_b h1 h2 hu O_ S_gf rv_gf) hZ (hw _ (List.mem_of_getElem? (i := 84) rfl)) (hw _ (List.mem_of_getElem? (i := 18) rfl)) (by decide) (by decide)) (g := (mkF m 12 #[.val (.ref a0), .val (.int p1)] [(.int p1), (.ref b)])) rfl (by rw [hml]; rfl) (argsL := [(.ref b), (.int p1)]) (rest := []) (lenOf pd_15 rfl) rfl (by show 2 * 0 + _ ≤ _; exact Nat.le_of_eq rfl) (hb hby d12_12) (fun _ _ => ⟨rfl, e41, (by decide : 0 + 0 ≤ _), (by decide : 0 + 0 ≤ _)⟩)
  dsimp only [Pt.U, Pt.locs, Pt.cells, Pt.slots] at X42 l42 y42 z42 st42 hQ42
  subst l42 y42 z42
  obtain ⟨rfl, N42q, e42⟩ := hQ42
  have N42 := Fr.app N40 N42q
  obtain ⟨fs, hr, hrun, hended, hW, hsame⟩ := X42.leave (v := some (.int (nar .char (nar .char ((u &&& (255 : Int32)).toUInt32.toUInt16.toUInt32.toInt32))))) (fun h => by rw [Bd.returns] at h; cases h)
  refine ⟨_, _, pre0 _ ?_, hrun, hended, _, _, rfl, ?_, ⟨_, rfl⟩, hW, hsame.mono (by decide) (by decide)⟩
  · show own_S p e below s₁ (mkF m 0 #[.val (.ref a0), .val (.int p1)] []) _
    refine XS.aloadN X0.here hx rfl (hb hby d12_0) rfl rfl ?_
    show own_S p e below s₁ (mkF m 1 #[.val (.ref a0), .val (.int p1)] [(.ref a0)]) _
    refine st40.trans ?_
    show own_S p e below T40 (mkF m 4 #[.val (.ref a0), .val (.int p1)] [.int 1]) _
    refine XS.ifNo X40.here hx rfl (hb hby d12_4) rfl ((if0 _ _).trans (feq (by decide : ¬ ((1 : Int32) = (0 : Int32)))).1) ?_
    show own_S p e below T40 (mkF m 7 #[.val (.ref a0), .val (.int p1)] []) _
    refine XS.aloadN X40.here hx rfl (hb hby d12_7) rfl rfl ?_
    show own_S p e below T40 (mkF m 8 #[.val (.ref a0), .val (.int p1)] [(.ref a0)]) _
    refine st41 _ ?_
    show own_S p e below T41 (mkF m 11 #[.val (.ref a0), .val (.int p1)] [(.ref b)]) _
    refine XS.iloadN X41.here hx rfl (hb hby d12_11) rfl ?_
    show own_S p e below T41 (mkF m 12 #[.val (.ref a0), .val (.int p1)] [(.int p1), (.ref b)]) _
    refine st42 _ ?_
    show own_S p e below T42 (mkF m 15 #[.val (.ref a0), .val (.int p1)] [(.int (nar .char ((u &&& (255 : Int32)).toUInt32.toUInt16.toUInt32.toInt32)))]) _
    exact retN X42 hx (t := .char) Bd.returns (by simp) (hb hby d12_15) hr
  · show Q12 Z a0 p1 b kb nb bs u cs gf h0 n0 _ T42.heap _
    rw [e42]
    exact ⟨rfl, N42, rfl⟩
theorem ef_11 (m : MethodId) (a0 : Addr) : entryFrame m #[(.ref a0)] 1 = mkF m 0 #[.val (.ref a0)] [] := by first | (simp [entryFrame, mkF, argsToLocals, Value.category]; done) | rfl
theorem d11_0 : decode jdk_42_method_152_code 0 = .ok (.getstatic 38, 3) := by decide +kernel
theorem d11_3 : decode jdk_42_method_152_code 3 = .ok (.ifCond .eq 10, 3) := by decide +kernel
theorem d11_6 : decode jdk_42_method_152_code 6 = .ok (.aload_n 0, 1) := by decide +kernel
theorem d11_7 : decode jdk_42_method_152_code 7 = .ok (.getfield 15, 3) := by decide +kernel
theorem d11_10 : decode jdk_42_method_152_code 10 = .ok (.goto 4, 3) := by decide +kernel
theorem d11_14 : decode jdk_42_method_152_code 14 = .ok (.ireturn, 1) := by decide +kernel
def Q11 (Z : State) (a0 : Addr) (cd : Int32) (cs : Int32) (h0 : Heap) (n0 : Nat) (v : Option Value) (h : Heap) (L : List Loc) : Prop := v = some (.int (nar .byte cd)) ∧ Fr n0 L ∧ h = h0
set_option maxRecDepth 65536 in
set_option maxHeartbeats 40000000 in
theorem rm11 (l : Launch) (Z : State) (ag : Array Value) (hw : ∀ d ∈ tables_1, d.before ag Z = true) (ws : List Jvm.Cond) (a0 : Addr) (cd : Int32) (cs : Int32) (h0 : Heap) (n0 : Nat) (Z0 : n0 ≤ h0.size) (F_coder_a0 : Fld Z h0 a0 "java/lang/String" "coder" "B" (.int cd)) (O_ : Old Z n0 h0) (S_cs : Sta Z Z.heap "java/lang/String" "COMPACT_STRINGS" "Z" (.int cs)) (hcs : ¬ cs = (0 : Int32)) :
    MetFree l (⟨"java/lang/String", "coder", "()B"⟩ : MethodName) (head1 (Jvm.Cond.code (⟨"java/lang/String", "coder", "()B"⟩ : MethodName) jdk_42_method_152_code 1 (some .byte) :: ws) ({ frames := 0, cells := 0, slots := 0, locals := 0 } : Room)) (fun a U => a = #[(.ref a0)] ∧ Z.Warmed39 U.vm ∧ U.heap = h0) (fun _ _ _ _ _ => True) (fun _ U o U' => ∃ v L, o = .returned v ∧ Q11 Z a0 cd cs h0 n0 v U'.heap L ∧ FrameEnd U o U' L ({ frames := 0, cells := 0, slots := 0, locals := 0 } : Room).cells ({ frames := 0, cells := 0, slots := 0, locals := 0 } : Room).slots) := by
  refine MetFree.of_bodySF (plainFor_of_name pn_3) hisR ?_
  intro p e s m args below meth c s₁ Bd hml0 hP hK
  obtain ⟨rfl, hZ, hh⟩ := hP
  have hx := Bd.exec
  have hby := Bd.bytes
  have hml : c.maxLocals = 1 := hml0
  have hown : s.vm.findClass "java/lang/String" = some m.cls := findClass_of_methodNamed Bd.named
  have hnm := (name_of_methodNamed Bd.named Bd.method).1
  have X0 : Stand p l e ({ frames := 0, cells := 0, slots := 0, locals := 0 } : Room) s m #[(.ref a0)] below meth c s₁ [] 0 0 := Stand.of_body Bd
  have e0 : s₁.heap = h0 := by rw [← hh, Bd.state]; rfl
  have N0 := Fr.nil n0
  have pre0 : ∀ t, Steps p.tables e below (s₁.setTop (mkF m 0 #[.val (.ref a0)] [])) t → Steps p.tables e below (s₁.setTop (entryFrame m #[(.ref a0)] 1)) t := fun t k => castTop (ef_11 m a0) k
  obtain ⟨T43, X43, e43, st43⟩ := getS2 X0 hx hZ hown (host := "") (Or.inl (hw _ (List.mem_of_getElem? (i := 15) rfl))) Via.refl e0 (Sta.ext O_.2 S_cs) (g := (mkF m 0 #[.val (.ref a0)] [])) rfl (hb hby d11_0)
  obtain ⟨T44, X44, e44, st44⟩ := getF X43 hx hZ hown (host := "") (Or.inl (hw _ (List.mem_of_getElem? (i := 35) rfl))) Via.refl e43 F_coder_a0 (g := (mkF m 7 #[.val (.ref a0)] [(.ref a0)])) rfl rfl (hb hby d11_7)
  obtain ⟨fs, hr, hrun, hended, hW, hsame⟩ := X44.leave (v := some (.int (nar .byte cd))) (fun h => by rw [Bd.returns] at h; cases h)
  refine ⟨_, _, pre0 _ ?_, hrun, hended, _, _, rfl, ?_, ⟨_, rfl⟩, hW, hsame.mono (by decide) (by decide)⟩
  · show own_S p e below s₁ (mkF m 0 #[.val (.ref a0)] []) _
    refine st43 _ ?_
    show own_S p e below T43 (mkF m 3 #[.val (.ref a0)] [(.int cs)]) _
    refine XS.ifNo X43.here hx rfl (hb hby d11_3) rfl ((if0 _ _).trans (feq (show ¬ (cs = (0 : Int32)) from hcs)).1) ?_
    show own_S p e below T43 (mkF m 6 #[.val (.ref a0)] []) _
    refine XS.aloadN X43.here hx rfl (hb hby d11_6) rfl rfl ?_
    show own_S p e below T43 (mkF m 7 #[.val (.ref a0)] [(.ref a0)]) _
    refine st44 _ ?_
    show own_S p e below T44 (mkF m 10 #[.val (.ref a0)] [(.int cd)]) _
    refine XS.goto X44.here hx rfl (pc0 := 10) (pc' := 14) rfl (hb hby d11_10) (by decide) (by decide) ?_
    show own_S p e below T44 (mkF m 14 #[.val (.ref a0)] [(.int cd)]) _
    exact retN X44 hx (t := .byte) Bd.returns (by simp) (hb hby d11_14) hr
  · show Q11 Z a0 cd cs h0 n0 _ T44.heap _
    rw [e44]
    exact ⟨rfl, N0, rfl⟩
theorem ef_10 (m : MethodId) (a0 : Addr) : entryFrame m #[(.ref a0)] 1 = mkF m 0 #[.val (.ref a0)] [] := by first | (simp [entryFrame, mkF, argsToLocals, Value.category]; done) | rfl
theorem d10_0 : decode jdk_42_method_54_code 0 = .ok (.aload_n 0, 1) := by decide +kernel
theorem d10_1 : decode jdk_42_method_54_code 1 = .ok (.getfield 9, 3) := by decide +kernel
theorem d10_4 : decode jdk_42_method_54_code 4 = .ok (.arraylength, 1) := by decide +kernel
theorem d10_5 : decode jdk_42_method_54_code 5 = .ok (.aload_n 0, 1) := by decide +kernel
theorem pd_0 : parseMethodDescriptor "()B" = some ⟨[], some .byte⟩ := by decide +kernel
theorem d10_6 : decode jdk_42_method_54_code 6 = .ok (.invokevirtual 335, 3) := by decide +kernel
theorem d10_9 : decode jdk_42_method_54_code 9 = .ok (.ishr, 1) := by decide +kernel
theorem d10_10 : decode jdk_42_method_54_code 10 = .ok (.ireturn, 1) := by decide +kernel
def Q10 (Z : State) (a0 : Addr) (b : Addr) (kb : ClassId) (nb : Int32) (bs : List Value) (cd : Int32) (cs : Int32) (h0 : Heap) (n0 : Nat) (v : Option Value) (h : Heap) (L : List Loc) : Prop := v = some (.int (nb >>> ((nar .byte cd) &&& 31))) ∧ Fr n0 L ∧ h = h0
set_option maxRecDepth 65536 in
set_option maxHeartbeats 40000000 in
theorem rm10 (l : Launch) (Z : State) (ag : Array Value) (hw : ∀ d ∈ tables_1, d.before ag Z = true) (ws : List Jvm.Cond) (a0 : Addr) (b : Addr) (kb : ClassId) (nb : Int32) (bs : List Value) (cd : Int32) (cs : Int32) (h0 : Heap) (n0 : Nat) (Z0 : n0 ≤ h0.size) (E_a0 : Exa Z h0 a0 "java/lang/String") (F_value_a0 : Fld Z h0 a0 "java/lang/String" "value" "[B" (.ref b)) (F_coder_a0 : Fld Z h0 a0 "java/lang/String" "coder" "B" (.int cd)) (V_b : Arv Z h0 b kb .byte nb bs (.int (0 : Int32))) (O_ : Old Z n0 h0) (S_cs : Sta Z Z.heap "java/lang/String" "COMPACT_STRINGS" "Z" (.int cs)) (hcs : ¬ cs = (0 : Int32)) :
    MetFree l (⟨"java/lang/String", "length", "()I"⟩ : MethodName) (head1 (Jvm.Cond.code (⟨"java/lang/String", "length", "()I"⟩ : MethodName) jdk_42_method_54_code 1 (some .int) :: ws) ({ frames := 1, cells := 0, slots := 0, locals := 13 } : Room)) (fun a U => a = #[(.ref a0)] ∧ Z.Warmed39 U.vm ∧ U.heap = h0) (fun _ _ _ _ _ => True) (fun _ U o U' => ∃ v L, o = .returned v ∧ Q10 Z a0 b kb nb bs cd cs h0 n0 v U'.heap L ∧ FrameEnd U o U' L ({ frames := 1, cells := 0, slots := 0, locals := 13 } : Room).cells ({ frames := 1, cells := 0, slots := 0, locals := 13 } : Room).slots) := by
  refine MetFree.of_bodySF (plainFor_of_name pn_3) hisR ?_
  intro p e s m args below meth c s₁ Bd hml0 hP hK
  obtain ⟨rfl, hZ, hh⟩ := hP
  have hx := Bd.exec
  have hby := Bd.bytes
  have hml : c.maxLocals = 1 := hml0
  have hown : s.vm.findClass "java/lang/String" = some m.cls := findClass_of_methodNamed Bd.named
  have hnm := (name_of_methodNamed Bd.named Bd.method).1
  have X0 : Stand p l e ({ frames := 1, cells := 0, slots := 0, locals := 13 } : Room) s m #[(.ref a0)] below meth c s₁ [] 0 0 := Stand.of_body Bd
  have e0 : s₁.heap = h0 := by rw [← hh, Bd.state]; rfl
  have N0 := Fr.nil n0
  have pre0 : ∀ t, Steps p.tables e below (s₁.setTop (mkF m 0 #[.val (.ref a0)] [])) t → Steps p.tables e below (s₁.setTop (entryFrame m #[(.ref a0)] 1)) t := fun t k => castTop (ef_10 m a0) k
  obtain ⟨T45, X45, e45, st45⟩ := getF X0 hx hZ hown (host := "") (Or.inl (hw _ (List.mem_of_getElem? (i := 33) rfl))) Via.refl e0 F_value_a0 (g := (mkF m 1 #[.val (.ref a0)] [(.ref a0)])) rfl rfl (hb hby d10_1)
  obtain ⟨cl46, Ar46, -, S46, M46, -, -⟩ := id V_b
  have ld46 := X45.arraylength hx (by rw [e45]; exact Ar46.1) (State.isArrayOf_alike hZ.alike Ar46.2.1) (g := (mkF m 4 #[.val (.ref a0)] [(.ref b)])) rfl rfl (hb hby d10_4)
  obtain ⟨cq47, kq47, q47a, q47b, q47c⟩ := isOf hZ e45 E_a0
  obtain ⟨_, _, ⟨T47, L47, k47, n47⟩, -, X47, ⟨Lc47, hQ47, l47, y47, z47⟩, st47⟩ := X45.virtualBack hx (y := (⟨"java/lang/String", "coder", "()B"⟩ : MethodName)) (z := (⟨"java/lang/String", "coder", "()B"⟩ : MethodName)) hown (mvT hZ (hw _ (List.mem_of_getElem? (i := 67) rfl))) (mvT hZ (hw _ (List.mem_of_getElem? (i := 68) rfl))) (notFace_of_selects (args := #[]) (mvT hZ (hw _ (List.mem_of_getElem? (i := 70) rfl)))) (mvT hZ (hw _ (List.mem_of_getElem? (i := 70) rfl))) (mvT hZ (hw _ (List.mem_of_getElem? (i := 69) rfl))) (by decide) (backOf (W := 1) (rm11 l Z ag hw [] a0 cd cs h0 n0 Z0 F_coder_a0 O_ S_cs hcs) hZ (hw _ (List.mem_of_getElem? (i := 71) rfl)) (hw _ (List.mem_of_getElem? (i := 13) rfl)) (by decide) (by decide)) q47a q47c (g := (mkF m 6 #[.val (.ref a0)] [(.ref a0), (.int nb)])) rfl (by rw [hml]; rfl) (Steps.refl _) (argsL := []) (rest := [(.int nb)]) (lenOf pd_0 rfl) rfl (by show 2 * 0 + _ ≤ _; exact Nat.le_of_eq rfl) (hb hby d10_6) (fun _ _ => ⟨rfl, e45, (by decide : 0 + 0 ≤ _), (by decide : 0 + 0 ≤ _)⟩)
  dsimp only [Pt.U, Pt.locs, Pt.cells, Pt.slots] at X47 l47 y47 z47 st47 hQ47
  subst l47 y47 z47
  obtain ⟨rfl, N47q, e47⟩ := hQ47
  have N47 := Fr.app N0 N47q
  obtain ⟨fs, hr, hrun, hended, hW, hsame⟩ := X47.leave (v := some (.int (nb >>> ((nar .byte cd) &&& 31)))) (fun h => by rw [Bd.returns] at h; cases h)
  refine ⟨_, _, pre0 _ ?_, hrun, hended, _, _, rfl, ?_, ⟨_, rfl⟩, hW, hsame.mono (by decide) (by decide)⟩
  · show own_S p e below s₁ (mkF m 0 #[.val (.ref a0)] []) _
    refine XS.aloadN X0.here hx rfl (hb hby d10_0) rfl rfl ?_
    show own_S p e below s₁ (mkF m 1 #[.val (.ref a0)] [(.ref a0)]) _
    refine st45 _ ?_
    show own_S p e below T45 (mkF m 4 #[.val (.ref a0)] [(.ref b)]) _
    refine ld46 _ ?_
    rw [len_of S46 M46]
    show own_S p e below T45 (mkF m 5 #[.val (.ref a0)] [(.int nb)]) _
    refine XS.aloadN X45.here hx rfl (hb hby d10_5) rfl rfl ?_
    show own_S p e below T45 (mkF m 6 #[.val (.ref a0)] [(.ref a0), (.int nb)]) _
    refine st47.trans ?_
    show own_S p e below T47 (mkF m 9 #[.val (.ref a0)] [(.int (nar .byte cd)), (.int nb)]) _
    refine XS.ishr X47.here hx rfl (hb hby d10_9) rfl ?_
    show own_S p e below T47 (mkF m 10 #[.val (.ref a0)] [(.int (nb >>> ((nar .byte cd) &&& 31)))]) _
    exact retI X47 hx Bd.returns (hb hby d10_10) hr
  · show Q10 Z a0 b kb nb bs cd cs h0 n0 _ T47.heap _
    rw [e47]
    exact ⟨rfl, N47, rfl⟩
theorem ef_4 (m : MethodId) (p0 : Int32) : entryFrame m #[(.int p0)] 1 = mkF m 0 #[.val (.int p0)] [] := by first | (simp [entryFrame, mkF, argsToLocals, Value.category]; done) | rfl
theorem d4_0 : decode jdk_43_method_3_code 0 = .ok (.iload_n 0, 1) := by decide +kernel
theorem d4_1 : decode jdk_43_method_3_code 1 = .ok (.sipush 255, 3) := by decide +kernel
theorem d4_4 : decode jdk_43_method_3_code 4 = .ok (.if_icmp .gt 7, 3) := by decide +kernel
theorem d4_11 : decode jdk_43_method_3_code 11 = .ok (.iconst 0, 1) := by decide +kernel
theorem d4_7 : decode jdk_43_method_3_code 7 = .ok (.iconst 1, 1) := by decide +kernel
theorem d4_8 : decode jdk_43_method_3_code 8 = .ok (.goto 4, 3) := by decide +kernel
def own_canenc (p0 : Int32) : Int32 := (if (255 : Int32) < p0 then (0 : Int32) else (1 : Int32))
def Q4 (Z : State) (p0 : Int32) (h0 : Heap) (n0 : Nat) (v : Option Value) (h : Heap) (L : List Loc) : Prop := v = some (.int (own_canenc p0)) ∧ Fr n0 L ∧ h = h0
theorem d4_12 : decode jdk_43_method_3_code 12 = .ok (.ireturn, 1) := by decide +kernel
set_option maxRecDepth 65536 in
set_option maxHeartbeats 40000000 in
theorem rm4 (l : Launch) (Z : State) (ag : Array Value) (hw : ∀ d ∈ tables_1, d.before ag Z = true) (ws : List Jvm.Cond) (p0 : Int32) (h0 : Heap) (n0 : Nat) (Z0 : n0 ≤ h0.size) :
    MetFree l (⟨"java/lang/StringLatin1", "canEncode", "(C)Z"⟩ : MethodName) (head1 (Jvm.Cond.code (⟨"java/lang/StringLatin1", "canEncode", "(C)Z"⟩ : MethodName) jdk_43_method_3_code 1 (some .boolean) :: ws) ({ frames := 0, cells := 0, slots := 0, locals := 0 } : Room)) (fun a U => a = #[(.int p0)] ∧ Z.Warmed39 U.vm ∧ U.heap = h0) (fun _ _ _ _ _ => True) (fun _ U o U' => ∃ v L, o = .returned v ∧ Q4 Z p0 h0 n0 v U'.heap L ∧ FrameEnd U o U' L ({ frames := 0, cells := 0, slots := 0, locals := 0 } : Room).cells ({ frames := 0, cells := 0, slots := 0, locals := 0 } : Room).slots) := by
  refine MetFree.of_bodySF (plainFor_of_name pn_4) hisR ?_
  intro p e s m args below meth c s₁ Bd hml0 hP hK
  obtain ⟨rfl, hZ, hh⟩ := hP
  have hx := Bd.exec
  have hby := Bd.bytes
  have hml : c.maxLocals = 1 := hml0
  have hown : s.vm.findClass "java/lang/StringLatin1" = some m.cls := findClass_of_methodNamed Bd.named
  have hnm := (name_of_methodNamed Bd.named Bd.method).1
  have X0 : Stand p l e ({ frames := 0, cells := 0, slots := 0, locals := 0 } : Room) s m #[(.int p0)] below meth c s₁ [] 0 0 := Stand.of_body Bd
  have e0 : s₁.heap = h0 := by rw [← hh, Bd.state]; rfl
  have N0 := Fr.nil n0
  have pre0 : ∀ t, Steps p.tables e below (s₁.setTop (mkF m 0 #[.val (.int p0)] [])) t → Steps p.tables e below (s₁.setTop (entryFrame m #[(.int p0)] 1)) t := fun t k => castTop (ef_4 m p0) k
  obtain ⟨fs, hr, hrun, hended, hW, hsame⟩ := X0.leave (v := some (.int (own_canenc p0))) (fun h => by rw [Bd.returns] at h; cases h)
  refine ⟨_, _, pre0 _ ?_, hrun, hended, _, _, rfl, ?_, ⟨_, rfl⟩, hW, hsame.mono (by decide) (by decide)⟩
  · show own_S p e below s₁ (mkF m 0 #[.val (.int p0)] []) _
    refine XS.iloadN X0.here hx rfl (hb hby d4_0) rfl ?_
    show own_S p e below s₁ (mkF m 1 #[.val (.int p0)] [(.int p0)]) _
    refine XS.sipush X0.here hx rfl (hb hby d4_1) ?_
    by_cases hc48 : (255 : Int32) < p0
    · show own_S p e below s₁ (mkF m 4 #[.val (.int p0)] [.int 255, (.int p0)]) _
      refine XS.icmpYes X0.here hx rfl (pc0 := 4) (pc' := 11) rfl (hb hby d4_4) rfl (tlt hc48).2.2.1 (by decide) (by decide) ?_
      show own_S p e below s₁ (mkF m 11 #[.val (.int p0)] []) _
      refine XS.iconst X0.here hx rfl (hb hby d4_11) ?_
      show own_S p e below s₁ (mkF m 12 #[.val (.int p0)] [.int 0]) _
      have q : (own_canenc p0) = (0 : Int32) := by unfold own_canenc; rw [if_pos hc48]
      have hr := own_cast (P := fun z => ∀ (f : JFrame) (acts : List Action), f.method = m → f.locked = none → f.entered = [] → (doReturn e (s₁.setTop f) acts (some (.int z))).1 = s₁.setFrames fs) q hr
      exact retN X0 hx (t := .boolean) Bd.returns (by simp) (hb hby d4_12) hr
    · show own_S p e below s₁ (mkF m 4 #[.val (.int p0)] [.int 255, (.int p0)]) _
      refine XS.icmpNo X0.here hx rfl (hb hby d4_4) rfl (flt hc48).2.2.1 ?_
      show own_S p e below s₁ (mkF m 7 #[.val (.int p0)] []) _
      refine XS.iconst X0.here hx rfl (hb hby d4_7) ?_
      show own_S p e below s₁ (mkF m 8 #[.val (.int p0)] [.int 1]) _
      refine XS.goto X0.here hx rfl (pc0 := 8) (pc' := 12) rfl (hb hby d4_8) (by decide) (by decide) ?_
      show own_S p e below s₁ (mkF m 12 #[.val (.int p0)] [.int 1]) _
      have q : (own_canenc p0) = (1 : Int32) := by unfold own_canenc; rw [if_neg hc48]
      have hr := own_cast (P := fun z => ∀ (f : JFrame) (acts : List Action), f.method = m → f.locked = none → f.entered = [] → (doReturn e (s₁.setTop f) acts (some (.int z))).1 = s₁.setFrames fs) q hr
      exact retN X0 hx (t := .boolean) Bd.returns (by simp) (hb hby d4_12) hr
  · show Q4 Z p0 h0 n0 _ s₁.heap _
    rw [e0]
    exact ⟨rfl, N0, rfl⟩
theorem ef_5 (m : MethodId) (p0 : Int32) : entryFrame m #[(.int p0)] 1 = mkF m 0 #[.val (.int p0)] [] := by first | (simp [entryFrame, mkF, argsToLocals, Value.category]; done) | rfl
theorem d5_0 : decode jdk_43_method_46_code 0 = .ok (.iconst 1, 1) := by decide +kernel
theorem d5_1 : decode jdk_43_method_46_code 1 = .ok (.newarray .byte, 2) := by decide +kernel
theorem d5_3 : decode jdk_43_method_46_code 3 = .ok (.dup, 1) := by decide +kernel
theorem d5_4 : decode jdk_43_method_46_code 4 = .ok (.iconst 0, 1) := by decide +kernel
theorem d5_5 : decode jdk_43_method_46_code 5 = .ok (.iload_n 0, 1) := by decide +kernel
theorem d5_6 : decode jdk_43_method_46_code 6 = .ok (.i2b, 1) := by decide +kernel
theorem d5_7 : decode jdk_43_method_46_code 7 = .ok (.bastore, 1) := by decide +kernel
theorem d5_8 : decode jdk_43_method_46_code 8 = .ok (.areturn, 1) := by decide +kernel
def Q5 (Z : State) (p0 : Int32) (h0 : Heap) (n0 : Nat) (v : Option Value) (h : Heap) (L : List Loc) : Prop := ∃ (r : Addr) (k : ClassId), v = some (.ref r) ∧ Fr n0 L ∧ Keep h0 h [] ∧ n0 ≤ r ∧ h0.size ≤ r ∧ Arv Z h r k .byte (1 : Int32) [(.int (nar .byte (p0.toInt8.toInt32)))] (.int (0 : Int32))
set_option maxRecDepth 65536 in
set_option maxHeartbeats 40000000 in
theorem rm5 (l : Launch) (Z : State) (ag : Array Value) (hw : ∀ d ∈ tables_1, d.before ag Z = true) (ws : List Jvm.Cond) (p0 : Int32) (h0 : Heap) (n0 : Nat) (Z0 : n0 ≤ h0.size) :
    MetFree l (⟨"java/lang/StringLatin1", "toBytes", "(C)[B"⟩ : MethodName) (head1 (Jvm.Cond.code (⟨"java/lang/StringLatin1", "toBytes", "(C)[B"⟩ : MethodName) jdk_43_method_46_code 1 (some (.array .byte)) :: ws) ({ frames := 0, cells := 1, slots := 1, locals := 0 } : Room)) (fun a U => a = #[(.int p0)] ∧ Z.Warmed39 U.vm ∧ U.heap = h0) (fun _ _ _ _ _ => True) (fun _ U o U' => ∃ v L, o = .returned v ∧ Q5 Z p0 h0 n0 v U'.heap L ∧ FrameEnd U o U' L ({ frames := 0, cells := 1, slots := 1, locals := 0 } : Room).cells ({ frames := 0, cells := 1, slots := 1, locals := 0 } : Room).slots) := by
  refine MetFree.of_bodySF (plainFor_of_name pn_4) hisR ?_
  intro p e s m args below meth c s₁ Bd hml0 hP hK
  obtain ⟨rfl, hZ, hh⟩ := hP
  have hx := Bd.exec
  have hby := Bd.bytes
  have hml : c.maxLocals = 1 := hml0
  have hown : s.vm.findClass "java/lang/StringLatin1" = some m.cls := findClass_of_methodNamed Bd.named
  have hnm := (name_of_methodNamed Bd.named Bd.method).1
  have X0 : Stand p l e ({ frames := 0, cells := 1, slots := 1, locals := 0 } : Room) s m #[(.int p0)] below meth c s₁ [] 0 0 := Stand.of_body Bd
  have e0 : s₁.heap = h0 := by rw [← hh, Bd.state]; rfl
  have N0 := Fr.nil n0
  have pre0 : ∀ t, Steps p.tables e below (s₁.setTop (mkF m 0 #[.val (.int p0)] [])) t → Steps p.tables e below (s₁.setTop (entryFrame m #[(.int p0)] 1)) t := fun t k => castTop (ef_5 m p0) k
  obtain ⟨T49, h49, k49, X49, e49, E49, A49, st49⟩ := newP X0 hx hZ (hw _ (List.mem_of_getElem? (i := 25) rfl)) e0 (g := (mkF m 1 #[.val (.int p0)] [.int 1])) rfl (hb hby d5_1) rfl (by decide) (cap := 1) (by decide) (by decide) (by decide) (by decide)
  obtain ⟨b49, g49⟩ : ∃ z, z = h0.size := ⟨_, rfl⟩
  have ge_b49 : n0 ≤ b49 := Nat.le_trans Z0 (Nat.le_of_eq g49.symm)
  have gs_b49 : h0.size ≤ b49 := Nat.le_trans (Keep.refl h0 []).1 (Nat.le_of_eq g49.symm)
  rw [← g49] at A49 st49
  have sz50 : n0 ≤ h49.size := Nat.le_trans Z0 E49.1
  have kp51 : Keep h0 h49 [] := (Keep.refl h0 []).ext E49
  have V49 : Arv Z h49 b49 k49 .byte (1 : Int32) [(.int (0 : Int32))] (.int (0 : Int32)) := (Arv.new A49 (by decide)).pad (pad_rep [] (.int (0 : Int32)) 1)
  obtain ⟨cl52, Ar52, q52, S52, M52, H52, G52⟩ := id V49
  have hin52 : ¬ ((0 : Int32) < 0 ∨ cl52.slots.size ≤ ((0 : Int32)).toNatClampNeg) := inb_of S52 ⟨(by decide : ¬ (0 : Int32) < 0), (by decide : (0 : Int32) < (1 : Int32))⟩
  obtain ⟨T52, h52, X52, e52, W52, st52⟩ := stB X49 hx hZ e49 Ar52 (j := (0 : Int32)) hin52 (g := (mkF m 7 #[.val (.int p0)] [(.int (p0.toInt8.toInt32)), .int 0, (.ref b49), (.ref b49)])) rfl rfl (hb hby d5_7)
  have V52 : Arv Z h52 b49 k49 .byte (1 : Int32) [(.int (nar .byte (p0.toInt8.toInt32)))] (.int (0 : Int32)) := Arv.set Ar52 q52 S52 M52 H52 G52 (fits_nar_byte _) W52 0 rfl (Nat.le_of_ble_eq_true rfl)
  have sz53 : n0 ≤ h52.size := Nat.le_trans sz50 (Keep.of_wr W52).1
  have kp54 : Keep h0 h52 [] := kp51.wr W52 (Or.inr gs_b49)
  have N52 := Fr.snoc X52 N0 ge_b49
  obtain ⟨fs, hr, hrun, hended, hW, hsame⟩ := X52.leave (v := some (.ref b49)) (fun h => by rw [Bd.returns] at h; cases h)
  refine ⟨_, _, pre0 _ ?_, hrun, hended, _, _, rfl, ?_, ⟨_, rfl⟩, hW, hsame.mono (by decide) (by decide)⟩
  · show own_S p e below s₁ (mkF m 0 #[.val (.int p0)] []) _
    refine XS.iconst X0.here hx rfl (hb hby d5_0) ?_
    show own_S p e below s₁ (mkF m 1 #[.val (.int p0)] [.int 1]) _
    refine st49 _ ?_
    show own_S p e below T49 (mkF m 3 #[.val (.int p0)] [(.ref b49)]) _
    refine XS.dup X49.here hx rfl (hb hby d5_3) rfl rfl ?_
    show own_S p e below T49 (mkF m 4 #[.val (.int p0)] [(.ref b49), (.ref b49)]) _
    refine XS.iconst X49.here hx rfl (hb hby d5_4) ?_
    show own_S p e below T49 (mkF m 5 #[.val (.int p0)] [.int 0, (.ref b49), (.ref b49)]) _
    refine XS.iloadN X49.here hx rfl (hb hby d5_5) rfl ?_
    show own_S p e below T49 (mkF m 6 #[.val (.int p0)] [(.int p0), .int 0, (.ref b49), (.ref b49)]) _
    refine XS.i2b X49.here hx rfl (hb hby d5_6) rfl ?_
    show own_S p e below T49 (mkF m 7 #[.val (.int p0)] [(.int (p0.toInt8.toInt32)), .int 0, (.ref b49), (.ref b49)]) _
    refine st52 _ ?_
    show own_S p e below T52 (mkF m 8 #[.val (.int p0)] [(.ref b49)]) _
    exact Jvm.RoadKit.retOut X52 hx Bd.returns rfl (Or.inr (Or.inr (Or.inr (Or.inr ⟨rfl, rfl, rfl⟩)))) (hb hby d5_8) hr
  · show Q5 Z p0 h0 n0 _ T52.heap _
    rw [e52]
    exact ⟨b49, k49, rfl, N52, kp54, ge_b49, gs_b49, V52⟩
theorem ef_6 (m : MethodId) (a0 : Addr) (a1 : Addr) (p2 : Int32) : entryFrame m #[(.ref a0), (.ref a1), (.int p2)] 3 = mkF m 0 #[.val (.ref a0), .val (.ref a1), .val (.int p2)] [] := by first | (simp [entryFrame, mkF, argsToLocals, Value.category]; done) | rfl
theorem d6_0 : decode jdk_42_method_151_code 0 = .ok (.aload_n 0, 1) := by decide +kernel
theorem d6_1 : decode jdk_42_method_151_code 1 = .ok (.invokespecial 1, 3) := by decide +kernel
theorem d6_4 : decode jdk_42_method_151_code 4 = .ok (.aload_n 0, 1) := by decide +kernel
theorem d6_5 : decode jdk_42_method_151_code 5 = .ok (.aload_n 1, 1) := by decide +kernel
theorem d6_6 : decode jdk_42_method_151_code 6 = .ok (.putfield 9, 3) := by decide +kernel
theorem d6_9 : decode jdk_42_method_151_code 9 = .ok (.aload_n 0, 1) := by decide +kernel
theorem d6_10 : decode jdk_42_method_151_code 10 = .ok (.iload_n 2, 1) := by decide +kernel
theorem d6_11 : decode jdk_42_method_151_code 11 = .ok (.putfield 15, 3) := by decide +kernel
theorem d6_14 : decode jdk_42_method_151_code 14 = .ok (.return_, 1) := by decide +kernel
def Q6 (Z : State) (a0 : Addr) (a1 : Addr) (p2 : Int32) (h0 : Heap) (n0 : Nat) (v : Option Value) (h : Heap) (L : List Loc) : Prop := v = none ∧ Fr n0 L ∧ Keep h0 h [a0] ∧ Fld Z h a0 "java/lang/String" "value" "[B" (.ref a1) ∧ Fld Z h a0 "java/lang/String" "coder" "B" (.int (nar .byte p2))
set_option maxRecDepth 65536 in
set_option maxHeartbeats 40000000 in
theorem rm6 (l : Launch) (Z : State) (ag : Array Value) (hw : ∀ d ∈ tables_1, d.before ag Z = true) (ws : List Jvm.Cond) (a0 : Addr) (a1 : Addr) (p2 : Int32) (h0 : Heap) (n0 : Nat) (Z0 : n0 ≤ h0.size) (E_a0 : Exa Z h0 a0 "java/lang/String") (F_value_a0 : Fld Z h0 a0 "java/lang/String" "value" "[B" .null) (F_coder_a0 : Fld Z h0 a0 "java/lang/String" "coder" "B" (.int (0 : Int32))) (ge_a0 : n0 ≤ a0) :
    MetFree l (⟨"java/lang/String", "<init>", "([BB)V"⟩ : MethodName) (head1 (Jvm.Cond.code (⟨"java/lang/String", "<init>", "([BB)V"⟩ : MethodName) jdk_42_method_151_code 3 none :: ws) ({ frames := 1, cells := 0, slots := 0, locals := 12 } : Room)) (fun a U => a = #[(.ref a0), (.ref a1), (.int p2)] ∧ Z.Warmed39 U.vm ∧ U.heap = h0) (fun _ _ _ _ _ => True) (fun _ U o U' => ∃ v L, o = .returned v ∧ Q6 Z a0 a1 p2 h0 n0 v U'.heap L ∧ FrameEnd U o U' L ({ frames := 1, cells := 0, slots := 0, locals := 12 } : Room).cells ({ frames := 1, cells := 0, slots := 0, locals := 12 } : Room).slots) := by
  refine MetFree.of_bodySF (plainFor_of_name pn_3) hisR ?_
  intro p e s m args below meth c s₁ Bd hml0 hP hK
  obtain ⟨rfl, hZ, hh⟩ := hP
  have hx := Bd.exec
  have hby := Bd.bytes
  have hml : c.maxLocals = 3 := hml0
  have hown : s.vm.findClass "java/lang/String" = some m.cls := findClass_of_methodNamed Bd.named
  have hnm := (name_of_methodNamed Bd.named Bd.method).1
  have X0 : Stand p l e ({ frames := 1, cells := 0, slots := 0, locals := 12 } : Room) s m #[(.ref a0), (.ref a1), (.int p2)] below meth c s₁ [] 0 0 := Stand.of_body Bd
  have e0 : s₁.heap = h0 := by rw [← hh, Bd.state]; rfl
  have N0 := Fr.nil n0
  have pre0 : ∀ t, Steps p.tables e below (s₁.setTop (mkF m 0 #[.val (.ref a0), .val (.ref a1), .val (.int p2)] [])) t → Steps p.tables e below (s₁.setTop (entryFrame m #[(.ref a0), (.ref a1), (.int p2)] 3)) t := fun t k => castTop (ef_6 m a0 a1 p2) k
  obtain ⟨T55, X55, e55, st55⟩ := initO X0 hx hZ hown (hw _ (List.mem_of_getElem? (i := 30) rfl)) (hw _ (List.mem_of_getElem? (i := 31) rfl)) (hw _ (List.mem_of_getElem? (i := 32) rfl)) e0 (g := (mkF m 1 #[.val (.ref a0), .val (.ref a1), .val (.int p2)] [(.ref a0)])) rfl (by rw [hml]; rfl) rfl (hb hby d6_1) (by decide) (W := 0) (by show 2 * 0 + _ ≤ _; exact Nat.le_of_eq rfl) (by decide)
  obtain ⟨T56, h56, X56, e56, W56, st56⟩ := putF X55 hx hZ hown (host := "") (Or.inl (hw _ (List.mem_of_getElem? (i := 33) rfl))) Via.refl e55 F_value_a0 E_a0 (Or.inr ⟨(hw _ (List.mem_of_getElem? (i := 34) rfl)), rfl, hnm⟩) (hw _ (List.mem_of_getElem? (i := 21) rfl)) (ty := (.array .byte)) (by decide) rfl rfl (g := (mkF m 6 #[.val (.ref a0), .val (.ref a1), .val (.int p2)] [(.ref a1), (.ref a0)])) rfl rfl (hb hby d6_6)
  have Fw56 := F_value_a0.same W56
  have x57 := E_a0.wr W56
  have x58 := F_coder_a0.other W56 (Or.inr (slot_ne (Or.inr (hw _ (List.mem_of_getElem? (i := 36) rfl))) (Or.inr (hw _ (List.mem_of_getElem? (i := 34) rfl))) (by decide) (t := .byte) (t' := (.array .byte)) (by decide) (by decide)))
  have sz59 : n0 ≤ h56.size := Nat.le_trans Z0 (Keep.of_wr W56).1
  have kp60 : Keep h0 h56 [a0] := (Keep.refl h0 [a0]).wr W56 (Or.inl (List.mem_of_getElem? (i := 0) rfl))
  have N56 := Fr.snoc X56 N0 ge_a0
  obtain ⟨T61, h61, X61, e61, W61, st61⟩ := putFN X56 hx hZ hown (hw _ (List.mem_of_getElem? (i := 35) rfl)) Via.refl e56 x58 x57 (Or.inr ⟨(hw _ (List.mem_of_getElem? (i := 36) rfl)), rfl, hnm⟩) (hw _ (List.mem_of_getElem? (i := 21) rfl)) (ty := .byte) (v' := (.int (nar .byte p2))) (by decide) rfl (fits_nar_byte p2) (g := (mkF m 11 #[.val (.ref a0), .val (.ref a1), .val (.int p2)] [(.int p2), (.ref a0)])) rfl rfl (hb hby d6_11)
  have Fw61 := x58.same W61
  have x62 := x57.wr W61
  have x63 := Fw56.other W61 (Or.inr (slot_ne (Or.inr (hw _ (List.mem_of_getElem? (i := 34) rfl))) (Or.inr (hw _ (List.mem_of_getElem? (i := 36) rfl))) (by decide) (t := (.array .byte)) (t' := .byte) (by decide) (by decide)))
  have sz64 : n0 ≤ h61.size := Nat.le_trans sz59 (Keep.of_wr W61).1
  have kp65 : Keep h0 h61 [a0] := kp60.wr W61 (Or.inl (List.mem_of_getElem? (i := 0) rfl))
  have N61 := Fr.snoc X61 N56 ge_a0
  obtain ⟨fs, hr, hrun, hended, hW, hsame⟩ := X61.leave (v := none) (fun _ => rfl)
  refine ⟨_, _, pre0 _ ?_, hrun, hended, _, _, rfl, ?_, ⟨_, rfl⟩, hW, hsame.mono (by decide) (by decide)⟩
  · show own_S p e below s₁ (mkF m 0 #[.val (.ref a0), .val (.ref a1), .val (.int p2)] []) _
    refine XS.aloadN X0.here hx rfl (hb hby d6_0) rfl rfl ?_
    show own_S p e below s₁ (mkF m 1 #[.val (.ref a0), .val (.ref a1), .val (.int p2)] [(.ref a0)]) _
    refine st55 _ ?_
    show own_S p e below T55 (mkF m 4 #[.val (.ref a0), .val (.ref a1), .val (.int p2)] []) _
    refine XS.aloadN X55.here hx rfl (hb hby d6_4) rfl rfl ?_
    show own_S p e below T55 (mkF m 5 #[.val (.ref a0), .val (.ref a1), .val (.int p2)] [(.ref a0)]) _
    refine XS.aloadN X55.here hx rfl (hb hby d6_5) rfl rfl ?_
    show own_S p e below T55 (mkF m 6 #[.val (.ref a0), .val (.ref a1), .val (.int p2)] [(.ref a1), (.ref a0)]) _
    refine st56 _ ?_
    show own_S p e below T56 (mkF m 9 #[.val (.ref a0), .val (.ref a1), .val (.int p2)] []) _
    refine XS.aloadN X56.here hx rfl (hb hby d6_9) rfl rfl ?_
    show own_S p e below T56 (mkF m 10 #[.val (.ref a0), .val (.ref a1), .val (.int p2)] [(.ref a0)]) _
    refine XS.iloadN X56.here hx rfl (hb hby d6_10) rfl ?_
    show own_S p e below T56 (mkF m 11 #[.val (.ref a0), .val (.ref a1), .val (.int p2)] [(.int p2), (.ref a0)]) _
    refine st61 _ ?_
    show own_S p e below T61 (mkF m 14 #[.val (.ref a0), .val (.ref a1), .val (.int p2)] []) _
    exact X61.returnOut hx Bd.returns (hb hby d6_14) hr
  · show Q6 Z a0 a1 p2 h0 n0 _ T61.heap _
    rw [e61]
    exact ⟨rfl, N61, kp65, x63, Fw61⟩
theorem ef_3 (m : MethodId) (p0 : Int32) : entryFrame m #[(.int p0)] 1 = mkF m 0 #[.val (.int p0)] [] := by first | (simp [entryFrame, mkF, argsToLocals, Value.category]; done) | rfl
theorem d3_0 : decode jdk_42_method_139_code 0 = .ok (.getstatic 38, 3) := by decide +kernel
theorem d3_3 : decode jdk_42_method_139_code 3 = .ok (.ifCond .eq 23, 3) := by decide +kernel
theorem d3_6 : decode jdk_42_method_139_code 6 = .ok (.iload_n 0, 1) := by decide +kernel
theorem pd_8 : parseMethodDescriptor "(C)Z" = some ⟨[.char], some .boolean⟩ := by decide +kernel
theorem d3_7 : decode jdk_42_method_139_code 7 = .ok (.invokestatic 1015, 3) := by decide +kernel
theorem d3_10 : decode jdk_42_method_139_code 10 = .ok (.ifCond .eq 16, 3) := by decide +kernel
theorem d3_13 : decode jdk_42_method_139_code 13 = .ok (.new 10, 3) := by decide +kernel
theorem d3_16 : decode jdk_42_method_139_code 16 = .ok (.dup, 1) := by decide +kernel
theorem d3_17 : decode jdk_42_method_139_code 17 = .ok (.iload_n 0, 1) := by decide +kernel
theorem pd_9 : parseMethodDescriptor "(C)[B" = some ⟨[.char], some (.array .byte)⟩ := by decide +kernel
theorem d3_18 : decode jdk_42_method_139_code 18 = .ok (.invokestatic 1018, 3) := by decide +kernel
theorem d3_21 : decode jdk_42_method_139_code 21 = .ok (.iconst 0, 1) := by decide +kernel
theorem pd_14 : parseMethodDescriptor "([BB)V" = some ⟨[(.array .byte), .byte], none⟩ := by decide +kernel
theorem d3_22 : decode jdk_42_method_139_code 22 = .ok (.invokespecial 209, 3) := by decide +kernel
theorem d3_25 : decode jdk_42_method_139_code 25 = .ok (.areturn, 1) := by decide +kernel
def Q3 (Z : State) (p0 : Int32) (cs : Int32) (h0 : Heap) (n0 : Nat) (v : Option Value) (h : Heap) (L : List Loc) : Prop := ∃ (r b : Addr) (k : ClassId), v = some (.ref r) ∧ Fr n0 L ∧ Keep h0 h [] ∧ n0 ≤ r ∧ h0.size ≤ r ∧ n0 ≤ b ∧ h0.size ≤ b ∧ Exa Z h r "java/lang/String" ∧ Fld Z h r "java/lang/String" "value" "[B" (.ref b) ∧ Fld Z h r "java/lang/String" "coder" "B" (.int (0 : Int32)) ∧ Arv Z h b k .byte (1 : Int32) [(.int (nar .byte (p0.toInt8.toInt32)))] (.int (0 : Int32))
set_option maxRecDepth 65536 in
set_option maxHeartbeats 40000000 in
theorem rm3 (l : Launch) (Z : State) (ag : Array Value) (hw : ∀ d ∈ tables_1, d.before ag Z = true) (ws : List Jvm.Cond) (p0 : Int32) (cs : Int32) (h0 : Heap) (n0 : Nat) (Z0 : n0 ≤ h0.size) (O_ : Old Z n0 h0) (S_cs : Sta Z Z.heap "java/lang/String" "COMPACT_STRINGS" "Z" (.int cs)) (hcs : ¬ cs = (0 : Int32)) (hlat : own_canenc p0 = 1) :
    MetFree l (⟨"java/lang/String", "valueOf", "(C)Ljava/lang/String;"⟩ : MethodName) (head1 (Jvm.Cond.code (⟨"java/lang/String", "valueOf", "(C)Ljava/lang/String;"⟩ : MethodName) jdk_42_method_139_code 1 (some (.object "java/lang/String")) :: ws) ({ frames := 2, cells := 2, slots := 5, locals := 27 } : Room)) (fun a U => a = #[(.int p0)] ∧ Z.Warmed39 U.vm ∧ U.heap = h0) (fun _ _ _ _ _ => True) (fun _ U o U' => ∃ v L, o = .returned v ∧ Q3 Z p0 cs h0 n0 v U'.heap L ∧ FrameEnd U o U' L ({ frames := 2, cells := 2, slots := 5, locals := 27 } : Room).cells ({ frames := 2, cells := 2, slots := 5, locals := 27 } : Room).slots) := by
  refine MetFree.of_bodySF (plainFor_of_name pn_3) hisR ?_
  intro p e s m args below meth c s₁ Bd hml0 hP hK
  obtain ⟨rfl, hZ, hh⟩ := hP
  have hx := Bd.exec
  have hby := Bd.bytes
  have hml : c.maxLocals = 1 := hml0
  have hown : s.vm.findClass "java/lang/String" = some m.cls := findClass_of_methodNamed Bd.named
  have hnm := (name_of_methodNamed Bd.named Bd.method).1
  have X0 : Stand p l e ({ frames := 2, cells := 2, slots := 5, locals := 27 } : Room) s m #[(.int p0)] below meth c s₁ [] 0 0 := Stand.of_body Bd
  have e0 : s₁.heap = h0 := by rw [← hh, Bd.state]; rfl
  have N0 := Fr.nil n0
  have pre0 : ∀ t, Steps p.tables e below (s₁.setTop (mkF m 0 #[.val (.int p0)] [])) t → Steps p.tables e below (s₁.setTop (entryFrame m #[(.int p0)] 1)) t := fun t k => castTop (ef_3 m p0) k
  obtain ⟨T66, X66, e66, st66⟩ := getS2 X0 hx hZ hown (host := "") (Or.inl (hw _ (List.mem_of_getElem? (i := 15) rfl))) Via.refl e0 (Sta.ext O_.2 S_cs) (g := (mkF m 0 #[.val (.int p0)] [])) rfl (hb hby d3_0)
  obtain ⟨_, _, ⟨T67, L67, k67, n67⟩, -, X67, ⟨Lc67, hQ67, l67, y67, z67⟩, st67⟩ := Jvm.LawKit.callS X66 hx (y := (⟨"java/lang/StringLatin1", "canEncode", "(C)Z"⟩ : MethodName)) hown (mvT hZ (hw _ (List.mem_of_getElem? (i := 16) rfl))) (mvT hZ (hw _ (List.mem_of_getElem? (i := 17) rfl))) (mvT hZ (hw _ (List.mem_of_getElem? (i := 18) rfl))) (mvT hZ (hw _ (List.mem_of_getElem? (i := 19) rfl))) (by decide) (backOf (W := 0) (rm4 l Z ag hw [] p0  h0 n0 Z0 ) hZ (hw _ (List.mem_of_getElem? (i := 19) rfl)) (hw _ (List.mem_of_getElem? (i := 18) rfl)) (by decide) (by decide)) (g := (mkF m 7 #[.val (.int p0)] [(.int p0)])) rfl (by rw [hml]; rfl) (argsL := [(.int p0)]) (rest := []) (lenOf pd_8 rfl) rfl (by show 2 * 0 + _ ≤ _; exact Nat.le_of_eq rfl) (hb hby d3_7) (fun _ _ => ⟨rfl, e66, (by decide : 0 + 0 ≤ _), (by decide : 0 + 0 ≤ _)⟩)
  dsimp only [Pt.U, Pt.locs, Pt.cells, Pt.slots] at X67 l67 y67 z67 st67 hQ67
  subst l67 y67 z67
  obtain ⟨rfl, N67q, e67⟩ := hQ67
  have N67 := Fr.app N0 N67q
  obtain ⟨T68, h68, X68, e68, E68, A68, D68, -, st68⟩ := newO X67 hx hZ hown (hw _ (List.mem_of_getElem? (i := 20) rfl)) (hw _ (List.mem_of_getElem? (i := 21) rfl)) (hw _ (List.mem_of_getElem? (i := 13) rfl)) e67 (g := (mkF m 13 #[.val (.int p0)] [])) rfl (hb hby d3_13) (by decide) (by decide)
  obtain ⟨b68, g68⟩ : ∃ z, z = h0.size := ⟨_, rfl⟩
  have ge_b68 : n0 ≤ b68 := Nat.le_trans Z0 (Nat.le_of_eq g68.symm)
  have gs_b68 : h0.size ≤ b68 := Nat.le_trans (Keep.refl h0 []).1 (Nat.le_of_eq g68.symm)
  rw [← g68] at A68 D68 st68
  have x69 := O_.ext E68
  have sz70 : n0 ≤ h68.size := Nat.le_trans Z0 E68.1
  have kp71 : Keep h0 h68 [] := (Keep.refl h0 []).ext E68
  have F68_value : Fld Z h68 b68 "java/lang/String" "value" "[B" .null := D68 (Or.inr (hw _ (List.mem_of_getElem? (i := 34) rfl))) (ty := (.array .byte)) (by decide)
  have F68_coder : Fld Z h68 b68 "java/lang/String" "coder" "B" (.int (0 : Int32)) := D68 (Or.inr (hw _ (List.mem_of_getElem? (i := 36) rfl))) (ty := .byte) (by decide)
  obtain ⟨_, _, ⟨T72, L72, k72, n72⟩, -, X72, ⟨Lc72, hQ72, l72, y72, z72⟩, st72⟩ := Jvm.LawKit.callS X68 hx (y := (⟨"java/lang/StringLatin1", "toBytes", "(C)[B"⟩ : MethodName)) hown (mvT hZ (hw _ (List.mem_of_getElem? (i := 22) rfl))) (mvT hZ (hw _ (List.mem_of_getElem? (i := 23) rfl))) (mvT hZ (hw _ (List.mem_of_getElem? (i := 18) rfl))) (mvT hZ (hw _ (List.mem_of_getElem? (i := 24) rfl))) (by decide) (backOf (W := 2) (rm5 l Z ag hw [] p0  h68 n0 sz70 ) hZ (hw _ (List.mem_of_getElem? (i := 24) rfl)) (hw _ (List.mem_of_getElem? (i := 18) rfl)) (by decide) (by decide)) (g := (mkF m 18 #[.val (.int p0)] [(.int p0), (.ref b68), (.ref b68)])) rfl (by rw [hml]; rfl) (argsL := [(.int p0)]) (rest := [(.ref b68), (.ref b68)]) (lenOf pd_9 rfl) rfl (by show 2 * 0 + _ ≤ _; exact Nat.le_of_eq rfl) (hb hby d3_18) (fun _ _ => ⟨rfl, e68, (by decide : 1 + 1 ≤ _), (by decide : 4 + 1 ≤ _)⟩)
  dsimp only [Pt.U, Pt.locs, Pt.cells, Pt.slots] at X72 l72 y72 z72 st72 hQ72
  subst l72 y72 z72
  obtain ⟨r72, kr72, rfl, N72q, K72, ge_r72, gq_r72, Vr72⟩ := hQ72
  have N72 := Fr.app N67 N72q
  have ne73 : b68 ≠ r72 := Nat.ne_of_lt (Nat.lt_of_lt_of_le A68.lt gq_r72)
  have gs_r72 : h0.size ≤ r72 := Nat.le_trans kp71.1 gq_r72
  have x74 := x69.keep K72 all0
  have x75 := A68.keep K72
  have x76 := F68_value.keep K72 nin0
  have x77 := F68_coder.keep K72 nin0
  have sz78 : n0 ≤ T72.heap.size := Nat.le_trans sz70 K72.1
  have kp79 : Keep h0 T72.heap [] := kp71.trans K72 all0
  obtain ⟨_, _, ⟨T80, L80, k80, n80⟩, -, X80, ⟨Lc80, hQ80, l80, y80, z80⟩, st80⟩ := X72.specialBack hx (y := (⟨"java/lang/String", "<init>", "([BB)V"⟩ : MethodName)) rfl hown (mvT hZ (hw _ (List.mem_of_getElem? (i := 26) rfl))) (mvT hZ (hw _ (List.mem_of_getElem? (i := 27) rfl))) (mvT hZ (hw _ (List.mem_of_getElem? (i := 29) rfl))) (by decide) (backOf (W := 1) (rm6 l Z ag hw [] b68 r72 (0 : Int32)  T72.heap n0 sz78 x75 x76 x77 ge_b68) hZ (hw _ (List.mem_of_getElem? (i := 29) rfl)) (hw _ (List.mem_of_getElem? (i := 13) rfl)) (by decide) (by decide)) (g := (mkF m 22 #[.val (.int p0)] [.int 0, (.ref r72), (.ref b68), (.ref b68)])) rfl (by rw [hml]; rfl) (Steps.refl _) (a := b68) (argsL := [(.ref r72), (.int (0 : Int32))]) (rest := [(.ref b68)]) (lenOf pd_14 rfl) rfl (by show 2 * 0 + _ ≤ _; exact Nat.le_of_eq rfl) (hb hby d3_22) (fun _ _ => ⟨rfl, rfl, (by decide : 2 + 0 ≤ _), (by decide : 5 + 0 ≤ _)⟩)
  dsimp only [Pt.U, Pt.locs, Pt.cells, Pt.slots] at X80 l80 y80 z80 st80 hQ80
  subst l80 y80 z80
  obtain ⟨rfl, N80q, K80, Fv80, Fc80⟩ := hQ80
  have N80 := Fr.app N72 N80q
  have Fc80 : Fld Z T80.heap b68 "java/lang/String" "coder" "B" (.int (0 : Int32)) := Fc80
  have x81 := x74.keep K80 (allS ge_b68 all0)
  have x82 := x75.keep K80
  have x83 := Vr72.keep K80 (ninS (Ne.symm ne73) nin0)
  have sz84 : n0 ≤ T80.heap.size := Nat.le_trans sz78 K80.1
  have kp85 : Keep h0 T80.heap [] := kp79.trans K80 (allS (Or.inr gs_b68) all0)
  obtain ⟨fs, hr, hrun, hended, hW, hsame⟩ := X80.leave (v := some (.ref b68)) (fun h => by rw [Bd.returns] at h; cases h)
  refine ⟨_, _, pre0 _ ?_, hrun, hended, _, _, rfl, ?_, ⟨_, rfl⟩, hW, hsame.mono (by decide) (by decide)⟩
  · show own_S p e below s₁ (mkF m 0 #[.val (.int p0)] []) _
    refine st66 _ ?_
    show own_S p e below T66 (mkF m 3 #[.val (.int p0)] [(.int cs)]) _
    refine XS.ifNo X66.here hx rfl (hb hby d3_3) rfl ((if0 _ _).trans (feq (show ¬ (cs = (0 : Int32)) from hcs)).1) ?_
    show own_S p e below T66 (mkF m 6 #[.val (.int p0)] []) _
    refine XS.iloadN X66.here hx rfl (hb hby d3_6) rfl ?_
    show own_S p e below T66 (mkF m 7 #[.val (.int p0)] [(.int p0)]) _
    refine st67 _ ?_
    show own_S p e below T67 (mkF m 10 #[.val (.int p0)] [(.int (own_canenc p0))]) _
    refine XS.ifNo X67.here hx rfl (hb hby d3_10) rfl ((if0 _ _).trans (feq (show ¬ ((own_canenc p0) = (0 : Int32)) from (by rw [hlat]; decide))).1) ?_
    show own_S p e below T67 (mkF m 13 #[.val (.int p0)] []) _
    refine st68 _ ?_
    show own_S p e below T68 (mkF m 16 #[.val (.int p0)] [(.ref b68)]) _
    refine XS.dup X68.here hx rfl (hb hby d3_16) rfl rfl ?_
    show own_S p e below T68 (mkF m 17 #[.val (.int p0)] [(.ref b68), (.ref b68)]) _
    refine XS.iloadN X68.here hx rfl (hb hby d3_17) rfl ?_
    show own_S p e below T68 (mkF m 18 #[.val (.int p0)] [(.int p0), (.ref b68), (.ref b68)]) _
    refine st72 _ ?_
    show own_S p e below T72 (mkF m 21 #[.val (.int p0)] [(.ref r72), (.ref b68), (.ref b68)]) _
    refine XS.iconst X72.here hx rfl (hb hby d3_21) ?_
    show own_S p e below T72 (mkF m 22 #[.val (.int p0)] [.int 0, (.ref r72), (.ref b68), (.ref b68)]) _
    refine st80.trans ?_
    show own_S p e below T80 (mkF m 25 #[.val (.int p0)] [(.ref b68)]) _
    exact Jvm.RoadKit.retOut X80 hx Bd.returns rfl (Or.inr (Or.inr (Or.inr (Or.inr ⟨rfl, rfl, rfl⟩)))) (hb hby d3_25) hr
  · show Q3 Z p0 cs h0 n0 _ T80.heap _
    exact ⟨b68, r72, kr72, rfl, N80, kp85, ge_b68, gs_b68, ge_r72, gs_r72, x82, Fv80, Fc80, x83⟩
theorem pn_0 : plainName "com/example/chipmantle/chipmantle/Primitive" = true := by first | (simp [plainName, overriddenIn]; done) | decide +kernel
theorem ef_9 (m : MethodId)  : entryFrame m #[] 0 = mkF m 0 #[] [] := by first | (simp [entryFrame, mkF, argsToLocals, Value.category]; done) | rfl
theorem d9_0 : decode prog_7_method_1_code 0 = .ok (.getstatic 28, 3) := by decide +kernel
theorem d9_3 : decode prog_7_method_1_code 3 = .ok (.invokevirtual 32, 3) := by decide +kernel
theorem d9_6 : decode prog_7_method_1_code 6 = .ok (.checkcast 33, 3) := by decide +kernel
theorem d9_9 : decode prog_7_method_1_code 9 = .ok (.areturn, 1) := by decide +kernel
def Q9 (Z : State) (c0 : Addr) (c1 : Addr) (c2 : Addr) (c3 : Addr) (c4 : Addr) (c5 : Addr) (c6 : Addr) (c7 : Addr) (va : Addr) (kv : ClassId) (h0 : Heap) (n0 : Nat) (v : Option Value) (h : Heap) (L : List Loc) : Prop := ∃ r : Addr, v = some (.ref r) ∧ Fr n0 L ∧ Keep h0 h [] ∧ n0 ≤ r ∧ h0.size ≤ r ∧ Arv Z h r kv (.object "com/example/chipmantle/chipmantle/Primitive") (8 : Int32) [(.ref c0), (.ref c1), (.ref c2), (.ref c3), (.ref c4), (.ref c5), (.ref c6), (.ref c7)] .null
set_option maxRecDepth 65536 in
set_option maxHeartbeats 40000000 in
theorem rm9 (l : Launch) (Z : State) (ag : Array Value) (hw : ∀ d ∈ tables_1, d.before ag Z = true) (ws : List Jvm.Cond) (c0 : Addr) (c1 : Addr) (c2 : Addr) (c3 : Addr) (c4 : Addr) (c5 : Addr) (c6 : Addr) (c7 : Addr) (va : Addr) (kv : ClassId) (h0 : Heap) (n0 : Nat) (Z0 : n0 ≤ h0.size) (O_ : Old Z n0 h0) (S_va : Sta Z Z.heap "com/example/chipmantle/chipmantle/Primitive" "$VALUES" "[Lcom/example/chipmantle/chipmantle/Primitive;" (.ref va)) (V_va : Arv Z h0 va kv (.object "com/example/chipmantle/chipmantle/Primitive") (8 : Int32) [(.ref c0), (.ref c1), (.ref c2), (.ref c3), (.ref c4), (.ref c5), (.ref c6), (.ref c7)] .null) (E_va : Exa Z h0 va "[Lcom/example/chipmantle/chipmantle/Primitive;") :
    MetFree l (⟨"com/example/chipmantle/chipmantle/Primitive", "values", "()[Lcom/example/chipmantle/chipmantle/Primitive;"⟩ : MethodName) (head1 (Jvm.Cond.code (⟨"com/example/chipmantle/chipmantle/Primitive", "values", "()[Lcom/example/chipmantle/chipmantle/Primitive;"⟩ : MethodName) prog_7_method_1_code 0 (some (.array (.object "com/example/chipmantle/chipmantle/Primitive"))) :: ws) ({ frames := 1, cells := 1, slots := 8, locals := 14 } : Room)) (fun a U => a = #[] ∧ Z.Warmed39 U.vm ∧ U.heap = h0) (fun _ _ _ _ _ => True) (fun _ U o U' => ∃ v L, o = .returned v ∧ Q9 Z c0 c1 c2 c3 c4 c5 c6 c7 va kv h0 n0 v U'.heap L ∧ FrameEnd U o U' L ({ frames := 1, cells := 1, slots := 8, locals := 14 } : Room).cells ({ frames := 1, cells := 1, slots := 8, locals := 14 } : Room).slots) := by
  refine MetFree.of_bodySF (plainFor_of_name pn_0) hisR ?_
  intro p e s m args below meth c s₁ Bd hml0 hP hK
  obtain ⟨rfl, hZ, hh⟩ := hP
  have hx := Bd.exec
  have hby := Bd.bytes
  have hml : c.maxLocals = 0 := hml0
  have hown : s.vm.findClass "com/example/chipmantle/chipmantle/Primitive" = some m.cls := findClass_of_methodNamed Bd.named
  have hnm := (name_of_methodNamed Bd.named Bd.method).1
  have X0 : Stand p l e ({ frames := 1, cells := 1, slots := 8, locals := 14 } : Room) s m #[] below meth c s₁ [] 0 0 := Stand.of_body Bd
  have e0 : s₁.heap = h0 := by rw [← hh, Bd.state]; rfl
  have N0 := Fr.nil n0
  have pre0 : ∀ t, Steps p.tables e below (s₁.setTop (mkF m 0 #[] [])) t → Steps p.tables e below (s₁.setTop (entryFrame m #[] 0)) t := fun t k => castTop (ef_9 m ) k
  obtain ⟨T86, X86, e86, st86⟩ := getS2 X0 hx hZ hown (host := "") (Or.inl (hw _ (List.mem_of_getElem? (i := 43) rfl))) Via.refl e0 (Sta.ext O_.2 S_va) (g := (mkF m 0 #[] [])) rfl (hb hby d9_0)
  obtain ⟨T87, h87, X87, e87, E87, Vc87, Ec87, st87⟩ := cloneH X86 hx hZ hown (hw _ (List.mem_of_getElem? (i := 45) rfl)) (hw _ (List.mem_of_getElem? (i := 46) rfl)) (hw _ (List.mem_of_getElem? (i := 50) rfl)) (hw _ (List.mem_of_getElem? (i := 48) rfl)) (hw _ (List.mem_of_getElem? (i := 49) rfl)) (hw _ (List.mem_of_getElem? (i := 51) rfl)) e86 (Arv.arh V_va) E_va (g := (mkF m 3 #[] [(.ref va)])) rfl (by rw [hml]; rfl) rfl (hb hby d9_3) (by decide) (W := 0) (by show 2 * 0 + _ ≤ _; exact Nat.le_of_eq rfl) (by decide) (cap := 8) (by decide) (by decide) (by decide)
  obtain ⟨b87, g87⟩ : ∃ z, z = h0.size := ⟨_, rfl⟩
  have ne88 : va ≠ b87 := Nat.ne_of_lt (Nat.lt_of_lt_of_le V_va.lt (Nat.le_of_eq g87.symm))
  have ge_b87 : n0 ≤ b87 := Nat.le_trans Z0 (Nat.le_of_eq g87.symm)
  have gs_b87 : h0.size ≤ b87 := Nat.le_trans (Keep.refl h0 []).1 (Nat.le_of_eq g87.symm)
  rw [← g87] at Vc87 Ec87 st87
  have x89 := O_.ext E87
  have x90 := V_va.ext E87
  have x91 := E_va.ext E87
  have sz92 : n0 ≤ h87.size := Nat.le_trans Z0 E87.1
  have kp93 : Keep h0 h87 [] := (Keep.refl h0 []).ext E87
  have Vd87 : Arv Z h87 b87 kv (.object "com/example/chipmantle/chipmantle/Primitive") (8 : Int32) [(.ref c0), (.ref c1), (.ref c2), (.ref c3), (.ref c4), (.ref c5), (.ref c6), (.ref c7)] .null := Vc87
  obtain ⟨T94, X94, e94, st94⟩ := castY X87 hx hZ hown (hw _ (List.mem_of_getElem? (i := 60) rfl)) e87 (Ins.self Ec87) (g := (mkF m 6 #[] [(.ref b87)])) rfl rfl (hb hby d9_6)
  obtain ⟨fs, hr, hrun, hended, hW, hsame⟩ := X94.leave (v := some (.ref b87)) (fun h => by rw [Bd.returns] at h; cases h)
  refine ⟨_, _, pre0 _ ?_, hrun, hended, _, _, rfl, ?_, ⟨_, rfl⟩, hW, hsame.mono (by decide) (by decide)⟩
  · show own_S p e below s₁ (mkF m 0 #[] []) _
    refine st86 _ ?_
    show own_S p e below T86 (mkF m 3 #[] [(.ref va)]) _
    refine st87 _ ?_
    show own_S p e below T87 (mkF m 6 #[] [(.ref b87)]) _
    refine st94 _ ?_
    show own_S p e below T94 (mkF m 9 #[] [(.ref b87)]) _
    exact Jvm.RoadKit.retOut X94 hx Bd.returns rfl (Or.inr (Or.inr (Or.inr (Or.inr ⟨rfl, rfl, rfl⟩)))) (hb hby d9_9) hr
  · show Q9 Z c0 c1 c2 c3 c4 c5 c6 c7 va kv h0 n0 _ T94.heap _
    rw [e94]
    exact ⟨b87, rfl, N0, kp93, ge_b87, gs_b87, Vd87⟩
theorem own_last {c : Int32} (h : own_is c) (h0 : ¬ c = (90 : Int32)) (h1 : ¬ c = (66 : Int32)) (h2 : ¬ c = (67 : Int32)) (h3 : ¬ c = (83 : Int32)) (h4 : ¬ c = (73 : Int32)) (h5 : ¬ c = (74 : Int32)) (h6 : ¬ c = (70 : Int32)) : c = (68 : Int32) := by
  rcases h with h | h | h | h | h | h | h | h <;> first | exact h | contradiction
theorem ef_8 (m : MethodId) (a0 : Addr) : entryFrame m #[(.ref a0)] 5 = mkF m 0 #[.val (.ref a0), .unset, .unset, .unset, .unset] [] := by first | (simp [entryFrame, mkF, argsToLocals, Value.category]; done) | rfl
theorem pd_5 : parseMethodDescriptor "()[Lcom/example/chipmantle/chipmantle/Primitive;" = some ⟨[], some (.array (.object "com/example/chipmantle/chipmantle/Primitive"))⟩ := by decide +kernel
theorem d8_0 : decode prog_7_method_4_code 0 = .ok (.invokestatic 62, 3) := by decide +kernel
theorem d8_3 : decode prog_7_method_4_code 3 = .ok (.astore_n 1, 1) := by decide +kernel
theorem d8_4 : decode prog_7_method_4_code 4 = .ok (.aload_n 1, 1) := by decide +kernel
theorem d8_5 : decode prog_7_method_4_code 5 = .ok (.arraylength, 1) := by decide +kernel
theorem d8_6 : decode prog_7_method_4_code 6 = .ok (.istore_n 2, 1) := by decide +kernel
theorem d8_7 : decode prog_7_method_4_code 7 = .ok (.iconst 0, 1) := by decide +kernel
theorem d8_8 : decode prog_7_method_4_code 8 = .ok (.istore_n 3, 1) := by decide +kernel
theorem d8_9 : decode prog_7_method_4_code 9 = .ok (.iload_n 3, 1) := by decide +kernel
theorem d8_10 : decode prog_7_method_4_code 10 = .ok (.iload_n 2, 1) := by decide +kernel
theorem d8_11 : decode prog_7_method_4_code 11 = .ok (.if_icmp .ge 38, 3) := by decide +kernel
theorem d8_14 : decode prog_7_method_4_code 14 = .ok (.aload_n 1, 1) := by decide +kernel
theorem d8_15 : decode prog_7_method_4_code 15 = .ok (.iload_n 3, 1) := by decide +kernel
theorem d8_16 : decode prog_7_method_4_code 16 = .ok (.aaload, 1) := by decide +kernel
theorem d8_17 : decode prog_7_method_4_code 17 = .ok (.astore 4, 2) := by decide +kernel
theorem d8_19 : decode prog_7_method_4_code 19 = .ok (.aload_n 0, 1) := by decide +kernel
theorem pd_1 : parseMethodDescriptor "()I" = some ⟨[], some .int⟩ := by decide +kernel
theorem d8_20 : decode prog_7_method_4_code 20 = .ok (.invokevirtual 66, 3) := by decide +kernel
theorem d8_23 : decode prog_7_method_4_code 23 = .ok (.iconst 1, 1) := by decide +kernel
theorem d8_24 : decode prog_7_method_4_code 24 = .ok (.if_icmp .ne 19, 3) := by decide +kernel
theorem d8_27 : decode prog_7_method_4_code 27 = .ok (.aload_n 0, 1) := by decide +kernel
theorem d8_28 : decode prog_7_method_4_code 28 = .ok (.iconst 0, 1) := by decide +kernel
theorem pd_10 : parseMethodDescriptor "(I)C" = some ⟨[.int], some .char⟩ := by decide +kernel
theorem d8_29 : decode prog_7_method_4_code 29 = .ok (.invokevirtual 72, 3) := by decide +kernel
theorem d8_32 : decode prog_7_method_4_code 32 = .ok (.aload 4, 2) := by decide +kernel
theorem d8_34 : decode prog_7_method_4_code 34 = .ok (.getfield 47, 3) := by decide +kernel
theorem d8_37 : decode prog_7_method_4_code 37 = .ok (.if_icmp .ne 6, 3) := by decide +kernel
theorem d8_40 : decode prog_7_method_4_code 40 = .ok (.aload 4, 2) := by decide +kernel
theorem d8_42 : decode prog_7_method_4_code 42 = .ok (.areturn, 1) := by decide +kernel
theorem d8_43 : decode prog_7_method_4_code 43 = .ok (.iinc 3 1, 3) := by decide +kernel
theorem d8_46 : decode prog_7_method_4_code 46 = .ok (.goto (-37), 3) := by decide +kernel
def Q8 (Z : State) (a0 : Addr) (b : Addr) (kb : ClassId) (u : Int32) (c0 : Addr) (c1 : Addr) (c2 : Addr) (c3 : Addr) (c4 : Addr) (c5 : Addr) (c6 : Addr) (c7 : Addr) (cs : Int32) (gf : Value) (va : Addr) (kv : ClassId) (h0 : Heap) (n0 : Nat) (v : Option Value) (h : Heap) (L : List Loc) : Prop := ∃ r : Addr, v = some (.ref r) ∧ Fr n0 L ∧ Keep h0 h [] ∧ own_rel (nar .char (nar .char ((u &&& (255 : Int32)).toUInt32.toUInt16.toUInt32.toInt32))) r c0 c1 c2 c3 c4 c5 c6 c7
set_option maxRecDepth 65536 in
set_option maxHeartbeats 40000000 in
theorem rm8 (l : Launch) (Z : State) (ag : Array Value) (hw : ∀ d ∈ tables_1, d.before ag Z = true) (ws : List Jvm.Cond) (a0 : Addr) (b : Addr) (kb : ClassId) (u : Int32) (c0 : Addr) (c1 : Addr) (c2 : Addr) (c3 : Addr) (c4 : Addr) (c5 : Addr) (c6 : Addr) (c7 : Addr) (cs : Int32) (gf : Value) (va : Addr) (kv : ClassId) (h0 : Heap) (n0 : Nat) (Z0 : n0 ≤ h0.size) (E_a0 : Exa Z h0 a0 "java/lang/String") (F_value_a0 : Fld Z h0 a0 "java/lang/String" "value" "[B" (.ref b)) (F_coder_a0 : Fld Z h0 a0 "java/lang/String" "coder" "B" (.int (0 : Int32))) (V_b : Arv Z h0 b kb .byte (1 : Int32) [(.int u)] (.int (0 : Int32))) (O_ : Old Z n0 h0) (S_cs : Sta Z Z.heap "java/lang/String" "COMPACT_STRINGS" "Z" (.int cs)) (hcs : ¬ cs = (0 : Int32)) (S_gf : Sta Z Z.heap "jdk/internal/util/Preconditions" "SIOOBE_FORMATTER" "Ljava/util/function/BiFunction;" gf) (rv_gf : gf.isRef = true) (S_va : Sta Z Z.heap "com/example/chipmantle/chipmantle/Primitive" "$VALUES" "[Lcom/example/chipmantle/chipmantle/Primitive;" (.ref va)) (V_va : Arv Z h0 va kv (.object "com/example/chipmantle/chipmantle/Primitive") (8 : Int32) [(.ref c0), (.ref c1), (.ref c2), (.ref c3), (.ref c4), (.ref c5), (.ref c6), (.ref c7)] .null) (E_va : Exa Z h0 va "[Lcom/example/chipmantle/chipmantle/Primitive;") (F_descriptor_c0 : Fld Z h0 c0 "com/example/chipmantle/chipmantle/Primitive" "descriptor" "C" (.int (90 : Int32))) (F_descriptor_c1 : Fld Z h0 c1 "com/example/chipmantle/chipmantle/Primitive" "descriptor" "C" (.int (66 : Int32))) (F_descriptor_c2 : Fld Z h0 c2 "com/example/chipmantle/chipmantle/Primitive" "descriptor" "C" (.int (67 : Int32))) (F_descriptor_c3 : Fld Z h0 c3 "com/example/chipmantle/chipmantle/Primitive" "descriptor" "C" (.int (83 : Int32))) (F_descriptor_c4 : Fld Z h0 c4 "com/example/chipmantle/chipmantle/Primitive" "descriptor" "C" (.int (73 : Int32))) (F_descriptor_c5 : Fld Z h0 c5 "com/example/chipmantle/chipmantle/Primitive" "descriptor" "C" (.int (74 : Int32))) (F_descriptor_c6 : Fld Z h0 c6 "com/example/chipmantle/chipmantle/Primitive" "descriptor" "C" (.int (70 : Int32))) (F_descriptor_c7 : Fld Z h0 c7 "com/example/chipmantle/chipmantle/Primitive" "descriptor" "C" (.int (68 : Int32))) (his : own_is (nar .char (nar .char ((u &&& (255 : Int32)).toUInt32.toUInt16.toUInt32.toInt32)))) :
    MetFree l (⟨"com/example/chipmantle/chipmantle/Primitive", "of", "(Ljava/lang/String;)Lcom/example/chipmantle/chipmantle/Primitive;"⟩ : MethodName) (head1 (Jvm.Cond.code (⟨"com/example/chipmantle/chipmantle/Primitive", "of", "(Ljava/lang/String;)Lcom/example/chipmantle/chipmantle/Primitive;"⟩ : MethodName) prog_7_method_4_code 5 (some (.object "com/example/chipmantle/chipmantle/Primitive")) :: ws) ({ frames := 4, cells := 1, slots := 8, locals := 53 } : Room)) (fun a U => a = #[(.ref a0)] ∧ Z.Warmed39 U.vm ∧ U.heap = h0) (fun _ _ _ _ _ => True) (fun _ U o U' => ∃ v L, o = .returned v ∧ Q8 Z a0 b kb u c0 c1 c2 c3 c4 c5 c6 c7 cs gf va kv h0 n0 v U'.heap L ∧ FrameEnd U o U' L ({ frames := 4, cells := 1, slots := 8, locals := 53 } : Room).cells ({ frames := 4, cells := 1, slots := 8, locals := 53 } : Room).slots) := by
  refine MetFree.of_bodySF (plainFor_of_name pn_0) hisR ?_
  intro p e s m args below meth c s₁ Bd hml0 hP hK
  obtain ⟨rfl, hZ, hh⟩ := hP
  have hx := Bd.exec
  have hby := Bd.bytes
  have hml : c.maxLocals = 5 := hml0
  have hown : s.vm.findClass "com/example/chipmantle/chipmantle/Primitive" = some m.cls := findClass_of_methodNamed Bd.named
  have hnm := (name_of_methodNamed Bd.named Bd.method).1
  have X0 : Stand p l e ({ frames := 4, cells := 1, slots := 8, locals := 53 } : Room) s m #[(.ref a0)] below meth c s₁ [] 0 0 := Stand.of_body Bd
  have e0 : s₁.heap = h0 := by rw [← hh, Bd.state]; rfl
  have N0 := Fr.nil n0
  have pre0 : ∀ t, Steps p.tables e below (s₁.setTop (mkF m 0 #[.val (.ref a0), .unset, .unset, .unset, .unset] [])) t → Steps p.tables e below (s₁.setTop (entryFrame m #[(.ref a0)] 5)) t := fun t k => castTop (ef_8 m a0) k
  obtain ⟨_, _, ⟨T95, L95, k95, n95⟩, -, X95, ⟨Lc95, hQ95, l95, y95, z95⟩, st95⟩ := Jvm.LawKit.callS X0 hx (y := (⟨"com/example/chipmantle/chipmantle/Primitive", "values", "()[Lcom/example/chipmantle/chipmantle/Primitive;"⟩ : MethodName)) hown (mvT hZ (hw _ (List.mem_of_getElem? (i := 40) rfl))) (mvT hZ (hw _ (List.mem_of_getElem? (i := 41) rfl))) (mvT hZ (hw _ (List.mem_of_getElem? (i := 9) rfl))) (mvT hZ (hw _ (List.mem_of_getElem? (i := 42) rfl))) (by decide) (backOf (W := 0) (rm9 l Z ag hw []  c0 c1 c2 c3 c4 c5 c6 c7 va kv h0 n0 Z0 O_ S_va V_va E_va) hZ (hw _ (List.mem_of_getElem? (i := 42) rfl)) (hw _ (List.mem_of_getElem? (i := 9) rfl)) (by decide) (by decide)) (g := (mkF m 0 #[.val (.ref a0), .unset, .unset, .unset, .unset] [])) rfl (by rw [hml]; rfl) (argsL := []) (rest := []) (lenOf pd_5 rfl) rfl (by show 2 * 0 + _ ≤ _; exact Nat.le_of_eq rfl) (hb hby d8_0) (fun _ _ => ⟨rfl, e0, (by decide : 0 + 1 ≤ _), (by decide : 0 + 8 ≤ _)⟩)
  dsimp only [Pt.U, Pt.locs, Pt.cells, Pt.slots] at X95 l95 y95 z95 st95 hQ95
  subst l95 y95 z95
  obtain ⟨r95, rfl, N95q, K95, ge_r95, gq_r95, Vr95⟩ := hQ95
  have N95 := Fr.app N0 N95q
  have ne96 : a0 ≠ r95 := Nat.ne_of_lt (Nat.lt_of_lt_of_le E_a0.lt gq_r95)
  have ne97 : b ≠ r95 := Nat.ne_of_lt (Nat.lt_of_lt_of_le V_b.lt gq_r95)
  have ne98 : va ≠ r95 := Nat.ne_of_lt (Nat.lt_of_lt_of_le V_va.lt gq_r95)
  have ne99 : c0 ≠ r95 := Nat.ne_of_lt (Nat.lt_of_lt_of_le F_descriptor_c0.lt gq_r95)
  have ne100 : c1 ≠ r95 := Nat.ne_of_lt (Nat.lt_of_lt_of_le F_descriptor_c1.lt gq_r95)
  have ne101 : c2 ≠ r95 := Nat.ne_of_lt (Nat.lt_of_lt_of_le F_descriptor_c2.lt gq_r95)
  have ne102 : c3 ≠ r95 := Nat.ne_of_lt (Nat.lt_of_lt_of_le F_descriptor_c3.lt gq_r95)
  have ne103 : c4 ≠ r95 := Nat.ne_of_lt (Nat.lt_of_lt_of_le F_descriptor_c4.lt gq_r95)
  have ne104 : c5 ≠ r95 := Nat.ne_of_lt (Nat.lt_of_lt_of_le F_descriptor_c5.lt gq_r95)
  have ne105 : c6 ≠ r95 := Nat.ne_of_lt (Nat.lt_of_lt_of_le F_descriptor_c6.lt gq_r95)
  have ne106 : c7 ≠ r95 := Nat.ne_of_lt (Nat.lt_of_lt_of_le F_descriptor_c7.lt gq_r95)
  have gs_r95 : h0.size ≤ r95 := Nat.le_trans (Keep.refl h0 []).1 gq_r95
  have x107 := E_a0.keep K95
  have x108 := F_value_a0.keep K95 nin0
  have x109 := F_coder_a0.keep K95 nin0
  have x110 := V_b.keep K95 nin0
  have x111 := O_.keep K95 all0
  have x112 := V_va.keep K95 nin0
  have x113 := E_va.keep K95
  have x114 := F_descriptor_c0.keep K95 nin0
  have x115 := F_descriptor_c1.keep K95 nin0
  have x116 := F_descriptor_c2.keep K95 nin0
  have x117 := F_descriptor_c3.keep K95 nin0
  have x118 := F_descriptor_c4.keep K95 nin0
  have x119 := F_descriptor_c5.keep K95 nin0
  have x120 := F_descriptor_c6.keep K95 nin0
  have x121 := F_descriptor_c7.keep K95 nin0
  have sz122 : n0 ≤ T95.heap.size := Nat.le_trans Z0 K95.1
  have kp123 : Keep h0 T95.heap [] := (Keep.refl h0 []).trans K95 all0
  obtain ⟨cl124, Ar124, -, S124, M124, -, -⟩ := id Vr95
  have ld124 := X95.arraylength hx Ar124.1 (State.isArrayOf_alike hZ.alike Ar124.2.1) (g := (mkF m 5 #[.val (.ref a0), .val (.ref r95), .unset, .unset, .unset] [(.ref r95)])) rfl rfl (hb hby d8_5)
  obtain ⟨cl125, Ar125, q125, S125, M125, H125, G125⟩ := id Vr95
  have hin125 : ¬ ((0 : Int32) < 0 ∨ cl125.slots.size ≤ ((0 : Int32)).toNatClampNeg) := inb_of S125 ⟨(by decide : ¬ (0 : Int32) < 0), (by decide : (0 : Int32) < (8 : Int32))⟩
  have hat125 : cl125.slots[((0 : Int32)).toNatClampNeg]? = some (.ref c0) := Has.at H125 hin125 rfl
  have ld125 := X95.aaload hx (j := (0 : Int32)) (v := (.ref c0)) Ar125.1 (State.isArrayOf_alike hZ.alike Ar125.2.1) rfl Ar125.2.2 hin125 hat125 (g := (mkF m 16 #[.val (.ref a0), .val (.ref r95), .val (.int 8), .val (.int 0), .unset] [.int 0, (.ref r95)])) rfl rfl (hb hby d8_16)
  have cp126 : ∀ target, own_S p e below T95 (mkF m 20 #[.val (.ref a0), .val (.ref r95), .val (.int 8), .val (.int 0), .val (.ref c0)] [(.ref a0)]) target → own_S p e below s₁ (mkF m 0 #[.val (.ref a0), .unset, .unset, .unset, .unset] []) target := by
    intro target kt
    show own_S p e below s₁ (mkF m 0 #[.val (.ref a0), .unset, .unset, .unset, .unset] []) _
    refine st95 _ ?_
    show own_S p e below T95 (mkF m 3 #[.val (.ref a0), .unset, .unset, .unset, .unset] [(.ref r95)]) _
    refine XS.astoreN X95.here hx rfl (hb hby d8_3) rfl rfl (l' := #[.val (.ref a0), .val (.ref r95), .unset, .unset, .unset]) rfl ?_
    show own_S p e below T95 (mkF m 4 #[.val (.ref a0), .val (.ref r95), .unset, .unset, .unset] []) _
    refine XS.aloadN X95.here hx rfl (hb hby d8_4) rfl rfl ?_
    show own_S p e below T95 (mkF m 5 #[.val (.ref a0), .val (.ref r95), .unset, .unset, .unset] [(.ref r95)]) _
    refine ld124 _ ?_
    rw [len_of S124 M124]
    show own_S p e below T95 (mkF m 6 #[.val (.ref a0), .val (.ref r95), .unset, .unset, .unset] [.int 8]) _
    refine XS.istoreN X95.here hx rfl (hb hby d8_6) rfl (l' := #[.val (.ref a0), .val (.ref r95), .val (.int 8), .unset, .unset]) rfl ?_
    show own_S p e below T95 (mkF m 7 #[.val (.ref a0), .val (.ref r95), .val (.int 8), .unset, .unset] []) _
    refine XS.iconst X95.here hx rfl (hb hby d8_7) ?_
    show own_S p e below T95 (mkF m 8 #[.val (.ref a0), .val (.ref r95), .val (.int 8), .unset, .unset] [.int 0]) _
    refine XS.istoreN X95.here hx rfl (hb hby d8_8) rfl (l' := #[.val (.ref a0), .val (.ref r95), .val (.int 8), .val (.int 0), .unset]) rfl ?_
    show own_S p e below T95 (mkF m 9 #[.val (.ref a0), .val (.ref r95), .val (.int 8), .val (.int 0), .unset] []) _
    refine XS.iloadN X95.here hx rfl (hb hby d8_9) rfl ?_
    show own_S p e below T95 (mkF m 10 #[.val (.ref a0), .val (.ref r95), .val (.int 8), .val (.int 0), .unset] [.int 0]) _
    refine XS.iloadN X95.here hx rfl (hb hby d8_10) rfl ?_
    show own_S p e below T95 (mkF m 11 #[.val (.ref a0), .val (.ref r95), .val (.int 8), .val (.int 0), .unset] [.int 8, .int 0]) _
    refine XS.icmpNo X95.here hx rfl (hb hby d8_11) rfl (tlt (by decide : (0 : Int32) < (8 : Int32))).2.1 ?_
    show own_S p e below T95 (mkF m 14 #[.val (.ref a0), .val (.ref r95), .val (.int 8), .val (.int 0), .unset] []) _
    refine XS.aloadN X95.here hx rfl (hb hby d8_14) rfl rfl ?_
    show own_S p e below T95 (mkF m 15 #[.val (.ref a0), .val (.ref r95), .val (.int 8), .val (.int 0), .unset] [(.ref r95)]) _
    refine XS.iloadN X95.here hx rfl (hb hby d8_15) rfl ?_
    show own_S p e below T95 (mkF m 16 #[.val (.ref a0), .val (.ref r95), .val (.int 8), .val (.int 0), .unset] [.int 0, (.ref r95)]) _
    refine ld125 _ ?_
    show own_S p e below T95 (mkF m 17 #[.val (.ref a0), .val (.ref r95), .val (.int 8), .val (.int 0), .unset] [(.ref c0)]) _
    refine XS.astore X95.here hx rfl (hb hby d8_17) rfl rfl (l' := #[.val (.ref a0), .val (.ref r95), .val (.int 8), .val (.int 0), .val (.ref c0)]) rfl ?_
    show own_S p e below T95 (mkF m 19 #[.val (.ref a0), .val (.ref r95), .val (.int 8), .val (.int 0), .val (.ref c0)] []) _
    refine XS.aloadN X95.here hx rfl (hb hby d8_19) rfl rfl ?_
    exact kt
  obtain ⟨cq127, kq127, q127a, q127b, q127c⟩ := isOf hZ rfl x107
  obtain ⟨_, _, ⟨T127, L127, k127, n127⟩, -, X127, ⟨Lc127, hQ127, l127, y127, z127⟩, st127⟩ := X95.virtualBack hx (y := (⟨"java/lang/String", "length", "()I"⟩ : MethodName)) (z := (⟨"java/lang/String", "length", "()I"⟩ : MethodName)) hown (mvT hZ (hw _ (List.mem_of_getElem? (i := 62) rfl))) (mvT hZ (hw _ (List.mem_of_getElem? (i := 63) rfl))) (notFace_of_selects (args := #[]) (mvT hZ (hw _ (List.mem_of_getElem? (i := 65) rfl)))) (mvT hZ (hw _ (List.mem_of_getElem? (i := 65) rfl))) (mvT hZ (hw _ (List.mem_of_getElem? (i := 64) rfl))) (by decide) (backOf (W := 0) (rm10 l Z ag hw [] a0 b kb (1 : Int32) [(.int u)] (0 : Int32) cs T95.heap n0 sz122 x107 x108 x109 x110 x111 S_cs hcs) hZ (hw _ (List.mem_of_getElem? (i := 66) rfl)) (hw _ (List.mem_of_getElem? (i := 13) rfl)) (by decide) (by decide)) q127a q127c (g := (mkF m 20 #[.val (.ref a0), .val (.ref r95), .val (.int 8), .val (.int 0), .val (.ref c0)] [(.ref a0)])) rfl (by rw [hml]; rfl) (Steps.refl _) (argsL := []) (rest := []) (lenOf pd_1 rfl) rfl (by show 2 * 0 + _ ≤ _; exact Nat.le_of_eq rfl) (hb hby d8_20) (fun _ _ => ⟨rfl, rfl, (by decide : 1 + 0 ≤ _), (by decide : 8 + 0 ≤ _)⟩)
  dsimp only [Pt.U, Pt.locs, Pt.cells, Pt.slots] at X127 l127 y127 z127 st127 hQ127
  subst l127 y127 z127
  obtain ⟨rfl, N127q, e127⟩ := hQ127
  have N127 := Fr.app N95 N127q
  obtain ⟨cq128, kq128, q128a, q128b, q128c⟩ := isOf hZ e127 x107
  obtain ⟨_, _, ⟨T128, L128, k128, n128⟩, -, X128, ⟨Lc128, hQ128, l128, y128, z128⟩, st128⟩ := X127.virtualBack hx (y := (⟨"java/lang/String", "charAt", "(I)C"⟩ : MethodName)) (z := (⟨"java/lang/String", "charAt", "(I)C"⟩ : MethodName)) hown (mvT hZ (hw _ (List.mem_of_getElem? (i := 72) rfl))) (mvT hZ (hw _ (List.mem_of_getElem? (i := 73) rfl))) (notFace_of_selects (args := #[]) (mvT hZ (hw _ (List.mem_of_getElem? (i := 75) rfl)))) (mvT hZ (hw _ (List.mem_of_getElem? (i := 75) rfl))) (mvT hZ (hw _ (List.mem_of_getElem? (i := 74) rfl))) (by decide) (backOf (W := 0) (rm12 l Z ag hw [] a0 (0 : Int32) b kb (1 : Int32) [(.int u)] u cs gf T95.heap n0 sz122 x107 x108 x109 x110 (by decide) (by decide) rfl x111 S_cs hcs S_gf rv_gf) hZ (hw _ (List.mem_of_getElem? (i := 76) rfl)) (hw _ (List.mem_of_getElem? (i := 13) rfl)) (by decide) (by decide)) q128a q128c (g := (mkF m 29 #[.val (.ref a0), .val (.ref r95), .val (.int 8), .val (.int 0), .val (.ref c0)] [.int 0, (.ref a0)])) rfl (by rw [hml]; rfl) (Steps.refl _) (argsL := [(.int (0 : Int32))]) (rest := []) (lenOf pd_10 rfl) rfl (by show 2 * 0 + _ ≤ _; exact Nat.le_of_eq rfl) (hb hby d8_29) (fun _ _ => ⟨rfl, e127, (by decide : 1 + 0 ≤ _), (by decide : 8 + 0 ≤ _)⟩)
  dsimp only [Pt.U, Pt.locs, Pt.cells, Pt.slots] at X128 l128 y128 z128 st128 hQ128
  subst l128 y128 z128
  obtain ⟨rfl, N128q, e128⟩ := hQ128
  have N128 := Fr.app N127 N128q
  obtain ⟨T129, X129, e129, st129⟩ := getF X128 hx hZ hown (host := "") (Or.inl (hw _ (List.mem_of_getElem? (i := 93) rfl))) Via.refl e128 x114 (g := (mkF m 34 #[.val (.ref a0), .val (.ref r95), .val (.int 8), .val (.int 0), .val (.ref c0)] [(.ref c0), (.int (nar .char (nar .char ((u &&& (255 : Int32)).toUInt32.toUInt16.toUInt32.toInt32))))])) rfl rfl (hb hby d8_34)
  have cp131 : ∀ target, own_S p e below T129 (mkF m 37 #[.val (.ref a0), .val (.ref r95), .val (.int 8), .val (.int 0), .val (.ref c0)] [.int 90, (.int (nar .char (nar .char ((u &&& (255 : Int32)).toUInt32.toUInt16.toUInt32.toInt32))))]) target → own_S p e below s₁ (mkF m 0 #[.val (.ref a0), .unset, .unset, .unset, .unset] []) target := by
    intro target kt
    show own_S p e below s₁ (mkF m 0 #[.val (.ref a0), .unset, .unset, .unset, .unset] []) _
    refine cp126 _ ?_
    show own_S p e below T95 (mkF m 20 #[.val (.ref a0), .val (.ref r95), .val (.int 8), .val (.int 0), .val (.ref c0)] [(.ref a0)]) _
    refine st127.trans ?_
    show own_S p e below T127 (mkF m 23 #[.val (.ref a0), .val (.ref r95), .val (.int 8), .val (.int 0), .val (.ref c0)] [(.int ((1 : Int32) >>> ((nar .byte (0 : Int32)) &&& 31)))]) _
    refine XS.iconst X127.here hx rfl (hb hby d8_23) ?_
    show own_S p e below T127 (mkF m 24 #[.val (.ref a0), .val (.ref r95), .val (.int 8), .val (.int 0), .val (.ref c0)] [.int 1, (.int ((1 : Int32) >>> ((nar .byte (0 : Int32)) &&& 31)))]) _
    refine XS.icmpNo X127.here hx rfl (hb hby d8_24) rfl (teq (show ((1 : Int32) >>> ((nar .byte (0 : Int32)) &&& 31)) = (1 : Int32) from (by decide))).2 ?_
    show own_S p e below T127 (mkF m 27 #[.val (.ref a0), .val (.ref r95), .val (.int 8), .val (.int 0), .val (.ref c0)] []) _
    refine XS.aloadN X127.here hx rfl (hb hby d8_27) rfl rfl ?_
    show own_S p e below T127 (mkF m 28 #[.val (.ref a0), .val (.ref r95), .val (.int 8), .val (.int 0), .val (.ref c0)] [(.ref a0)]) _
    refine XS.iconst X127.here hx rfl (hb hby d8_28) ?_
    show own_S p e below T127 (mkF m 29 #[.val (.ref a0), .val (.ref r95), .val (.int 8), .val (.int 0), .val (.ref c0)] [.int 0, (.ref a0)]) _
    refine st128.trans ?_
    show own_S p e below T128 (mkF m 32 #[.val (.ref a0), .val (.ref r95), .val (.int 8), .val (.int 0), .val (.ref c0)] [(.int (nar .char (nar .char ((u &&& (255 : Int32)).toUInt32.toUInt16.toUInt32.toInt32))))]) _
    refine XS.aload X128.here hx rfl (hb hby d8_32) rfl rfl ?_
    show own_S p e below T128 (mkF m 34 #[.val (.ref a0), .val (.ref r95), .val (.int 8), .val (.int 0), .val (.ref c0)] [(.ref c0), (.int (nar .char (nar .char ((u &&& (255 : Int32)).toUInt32.toUInt16.toUInt32.toInt32))))]) _
    refine st129 _ ?_
    exact kt
  by_cases hc130 : (nar .char (nar .char ((u &&& (255 : Int32)).toUInt32.toUInt16.toUInt32.toInt32))) = (90 : Int32)
  · obtain ⟨fs, hr, hrun, hended, hW, hsame⟩ := X129.leave (v := some (.ref c0)) (fun h => by rw [Bd.returns] at h; cases h)
    refine ⟨_, _, pre0 _ ?_, hrun, hended, _, _, rfl, ?_, ⟨_, rfl⟩, hW, hsame.mono (by decide) (by decide)⟩
    · show own_S p e below s₁ (mkF m 0 #[.val (.ref a0), .unset, .unset, .unset, .unset] []) _
      refine cp131 _ ?_
      show own_S p e below T129 (mkF m 37 #[.val (.ref a0), .val (.ref r95), .val (.int 8), .val (.int 0), .val (.ref c0)] [.int 90, (.int (nar .char (nar .char ((u &&& (255 : Int32)).toUInt32.toUInt16.toUInt32.toInt32))))]) _
      refine XS.icmpNo X129.here hx rfl (hb hby d8_37) rfl (teq hc130).2 ?_
      show own_S p e below T129 (mkF m 40 #[.val (.ref a0), .val (.ref r95), .val (.int 8), .val (.int 0), .val (.ref c0)] []) _
      refine XS.aload X129.here hx rfl (hb hby d8_40) rfl rfl ?_
      show own_S p e below T129 (mkF m 42 #[.val (.ref a0), .val (.ref r95), .val (.int 8), .val (.int 0), .val (.ref c0)] [(.ref c0)]) _
      exact Jvm.RoadKit.retOut X129 hx Bd.returns rfl (Or.inr (Or.inr (Or.inr (Or.inr ⟨rfl, rfl, rfl⟩)))) (hb hby d8_42) hr
    · show Q8 Z a0 b kb u c0 c1 c2 c3 c4 c5 c6 c7 cs gf va kv h0 n0 _ T129.heap _
      rw [e129]
      exact ⟨c0, rfl, N128, kp123, Or.inl ⟨hc130, rfl⟩⟩
  · obtain ⟨cl132, Ar132, q132, S132, M132, H132, G132⟩ := id Vr95
    have hin132 : ¬ ((1 : Int32) < 0 ∨ cl132.slots.size ≤ ((1 : Int32)).toNatClampNeg) := inb_of S132 ⟨(by decide : ¬ (1 : Int32) < 0), (by decide : (1 : Int32) < (8 : Int32))⟩
    have hat132 : cl132.slots[((1 : Int32)).toNatClampNeg]? = some (.ref c1) := Has.at H132 hin132 rfl
    have ld132 := X129.aaload hx (j := (1 : Int32)) (v := (.ref c1)) (by rw [e129]; exact Ar132.1) (State.isArrayOf_alike hZ.alike Ar132.2.1) rfl Ar132.2.2 hin132 hat132 (g := (mkF m 16 #[.val (.ref a0), .val (.ref r95), .val (.int 8), .val (.int 1), .val (.ref c0)] [.int 1, (.ref r95)])) rfl rfl (hb hby d8_16)
    obtain ⟨cq133, kq133, q133a, q133b, q133c⟩ := isOf hZ e129 x107
    obtain ⟨_, _, ⟨T133, L133, k133, n133⟩, -, X133, ⟨Lc133, hQ133, l133, y133, z133⟩, st133⟩ := X129.virtualBack hx (y := (⟨"java/lang/String", "length", "()I"⟩ : MethodName)) (z := (⟨"java/lang/String", "length", "()I"⟩ : MethodName)) hown (mvT hZ (hw _ (List.mem_of_getElem? (i := 62) rfl))) (mvT hZ (hw _ (List.mem_of_getElem? (i := 63) rfl))) (notFace_of_selects (args := #[]) (mvT hZ (hw _ (List.mem_of_getElem? (i := 65) rfl)))) (mvT hZ (hw _ (List.mem_of_getElem? (i := 65) rfl))) (mvT hZ (hw _ (List.mem_of_getElem? (i := 64) rfl))) (by decide) (backOf (W := 0) (rm10 l Z ag hw [] a0 b kb (1 : Int32) [(.int u)] (0 : Int32) cs T95.heap n0 sz122 x107 x108 x109 x110 x111 S_cs hcs) hZ (hw _ (List.mem_of_getElem? (i := 66) rfl)) (hw _ (List.mem_of_getElem? (i := 13) rfl)) (by decide) (by decide)) q133a q133c (g := (mkF m 20 #[.val (.ref a0), .val (.ref r95), .val (.int 8), .val (.int 1), .val (.ref c1)] [(.ref a0)])) rfl (by rw [hml]; rfl) (Steps.refl _) (argsL := []) (rest := []) (lenOf pd_1 rfl) rfl (by show 2 * 0 + _ ≤ _; exact Nat.le_of_eq rfl) (hb hby d8_20) (fun _ _ => ⟨rfl, e129, (by decide : 1 + 0 ≤ _), (by decide : 8 + 0 ≤ _)⟩)
    dsimp only [Pt.U, Pt.locs, Pt.cells, Pt.slots] at X133 l133 y133 z133 st133 hQ133
    subst l133 y133 z133
    obtain ⟨rfl, N133q, e133⟩ := hQ133
    have N133 := Fr.app N128 N133q
    have cp134 : ∀ target, own_S p e below T133 (mkF m 29 #[.val (.ref a0), .val (.ref r95), .val (.int 8), .val (.int 1), .val (.ref c1)] [.int 0, (.ref a0)]) target → own_S p e below s₁ (mkF m 0 #[.val (.ref a0), .unset, .unset, .unset, .unset] []) target := by
      intro target kt
      show own_S p e below s₁ (mkF m 0 #[.val (.ref a0), .unset, .unset, .unset, .unset] []) _
      refine cp131 _ ?_
      show own_S p e below T129 (mkF m 37 #[.val (.ref a0), .val (.ref r95), .val (.int 8), .val (.int 0), .val (.ref c0)] [.int 90, (.int (nar .char (nar .char ((u &&& (255 : Int32)).toUInt32.toUInt16.toUInt32.toInt32))))]) _
      refine XS.icmpYes X129.here hx rfl (pc0 := 37) (pc' := 43) rfl (hb hby d8_37) rfl (feq hc130).2 (by decide) (by decide) ?_
      show own_S p e below T129 (mkF m 43 #[.val (.ref a0), .val (.ref r95), .val (.int 8), .val (.int 0), .val (.ref c0)] []) _
      refine XS.iinc X129.here hx rfl (hb hby d8_43) rfl (l' := #[.val (.ref a0), .val (.ref r95), .val (.int 8), .val (.int 1), .val (.ref c0)]) rfl ?_
      show own_S p e below T129 (mkF m 46 #[.val (.ref a0), .val (.ref r95), .val (.int 8), .val (.int 1), .val (.ref c0)] []) _
      refine XS.goto X129.here hx rfl (pc0 := 46) (pc' := 9) rfl (hb hby d8_46) (by decide) (by decide) ?_
      show own_S p e below T129 (mkF m 9 #[.val (.ref a0), .val (.ref r95), .val (.int 8), .val (.int 1), .val (.ref c0)] []) _
      refine XS.iloadN X129.here hx rfl (hb hby d8_9) rfl ?_
      show own_S p e below T129 (mkF m 10 #[.val (.ref a0), .val (.ref r95), .val (.int 8), .val (.int 1), .val (.ref c0)] [.int 1]) _
      refine XS.iloadN X129.here hx rfl (hb hby d8_10) rfl ?_
      show own_S p e below T129 (mkF m 11 #[.val (.ref a0), .val (.ref r95), .val (.int 8), .val (.int 1), .val (.ref c0)] [.int 8, .int 1]) _
      refine XS.icmpNo X129.here hx rfl (hb hby d8_11) rfl (tlt (by decide : (1 : Int32) < (8 : Int32))).2.1 ?_
      show own_S p e below T129 (mkF m 14 #[.val (.ref a0), .val (.ref r95), .val (.int 8), .val (.int 1), .val (.ref c0)] []) _
      refine XS.aloadN X129.here hx rfl (hb hby d8_14) rfl rfl ?_
      show own_S p e below T129 (mkF m 15 #[.val (.ref a0), .val (.ref r95), .val (.int 8), .val (.int 1), .val (.ref c0)] [(.ref r95)]) _
      refine XS.iloadN X129.here hx rfl (hb hby d8_15) rfl ?_
      show own_S p e below T129 (mkF m 16 #[.val (.ref a0), .val (.ref r95), .val (.int 8), .val (.int 1), .val (.ref c0)] [.int 1, (.ref r95)]) _
      refine ld132 _ ?_
      show own_S p e below T129 (mkF m 17 #[.val (.ref a0), .val (.ref r95), .val (.int 8), .val (.int 1), .val (.ref c0)] [(.ref c1)]) _
      refine XS.astore X129.here hx rfl (hb hby d8_17) rfl rfl (l' := #[.val (.ref a0), .val (.ref r95), .val (.int 8), .val (.int 1), .val (.ref c1)]) rfl ?_
      show own_S p e below T129 (mkF m 19 #[.val (.ref a0), .val (.ref r95), .val (.int 8), .val (.int 1), .val (.ref c1)] []) _
      refine XS.aloadN X129.here hx rfl (hb hby d8_19) rfl rfl ?_
      show own_S p e below T129 (mkF m 20 #[.val (.ref a0), .val (.ref r95), .val (.int 8), .val (.int 1), .val (.ref c1)] [(.ref a0)]) _
      refine st133.trans ?_
      show own_S p e below T133 (mkF m 23 #[.val (.ref a0), .val (.ref r95), .val (.int 8), .val (.int 1), .val (.ref c1)] [(.int ((1 : Int32) >>> ((nar .byte (0 : Int32)) &&& 31)))]) _
      refine XS.iconst X133.here hx rfl (hb hby d8_23) ?_
      show own_S p e below T133 (mkF m 24 #[.val (.ref a0), .val (.ref r95), .val (.int 8), .val (.int 1), .val (.ref c1)] [.int 1, (.int ((1 : Int32) >>> ((nar .byte (0 : Int32)) &&& 31)))]) _
      refine XS.icmpNo X133.here hx rfl (hb hby d8_24) rfl (teq (show ((1 : Int32) >>> ((nar .byte (0 : Int32)) &&& 31)) = (1 : Int32) from (by decide))).2 ?_
      show own_S p e below T133 (mkF m 27 #[.val (.ref a0), .val (.ref r95), .val (.int 8), .val (.int 1), .val (.ref c1)] []) _
      refine XS.aloadN X133.here hx rfl (hb hby d8_27) rfl rfl ?_
      show own_S p e below T133 (mkF m 28 #[.val (.ref a0), .val (.ref r95), .val (.int 8), .val (.int 1), .val (.ref c1)] [(.ref a0)]) _
      refine XS.iconst X133.here hx rfl (hb hby d8_28) ?_
      exact kt
    obtain ⟨cq135, kq135, q135a, q135b, q135c⟩ := isOf hZ e133 x107
    obtain ⟨_, _, ⟨T135, L135, k135, n135⟩, -, X135, ⟨Lc135, hQ135, l135, y135, z135⟩, st135⟩ := X133.virtualBack hx (y := (⟨"java/lang/String", "charAt", "(I)C"⟩ : MethodName)) (z := (⟨"java/lang/String", "charAt", "(I)C"⟩ : MethodName)) hown (mvT hZ (hw _ (List.mem_of_getElem? (i := 72) rfl))) (mvT hZ (hw _ (List.mem_of_getElem? (i := 73) rfl))) (notFace_of_selects (args := #[]) (mvT hZ (hw _ (List.mem_of_getElem? (i := 75) rfl)))) (mvT hZ (hw _ (List.mem_of_getElem? (i := 75) rfl))) (mvT hZ (hw _ (List.mem_of_getElem? (i := 74) rfl))) (by decide) (backOf (W := 0) (rm12 l Z ag hw [] a0 (0 : Int32) b kb (1 : Int32) [(.int u)] u cs gf T95.heap n0 sz122 x107 x108 x109 x110 (by decide) (by decide) rfl x111 S_cs hcs S_gf rv_gf) hZ (hw _ (List.mem_of_getElem? (i := 76) rfl)) (hw _ (List.mem_of_getElem? (i := 13) rfl)) (by decide) (by decide)) q135a q135c (g := (mkF m 29 #[.val (.ref a0), .val (.ref r95), .val (.int 8), .val (.int 1), .val (.ref c1)] [.int 0, (.ref a0)])) rfl (by rw [hml]; rfl) (Steps.refl _) (argsL := [(.int (0 : Int32))]) (rest := []) (lenOf pd_10 rfl) rfl (by show 2 * 0 + _ ≤ _; exact Nat.le_of_eq rfl) (hb hby d8_29) (fun _ _ => ⟨rfl, e133, (by decide : 1 + 0 ≤ _), (by decide : 8 + 0 ≤ _)⟩)
    dsimp only [Pt.U, Pt.locs, Pt.cells, Pt.slots] at X135 l135 y135 z135 st135 hQ135
    subst l135 y135 z135
    obtain ⟨rfl, N135q, e135⟩ := hQ135
    have N135 := Fr.app N133 N135q
    obtain ⟨T136, X136, e136, st136⟩ := getF X135 hx hZ hown (host := "") (Or.inl (hw _ (List.mem_of_getElem? (i := 93) rfl))) Via.refl e135 x115 (g := (mkF m 34 #[.val (.ref a0), .val (.ref r95), .val (.int 8), .val (.int 1), .val (.ref c1)] [(.ref c1), (.int (nar .char (nar .char ((u &&& (255 : Int32)).toUInt32.toUInt16.toUInt32.toInt32))))])) rfl rfl (hb hby d8_34)
    have cp138 : ∀ target, own_S p e below T136 (mkF m 37 #[.val (.ref a0), .val (.ref r95), .val (.int 8), .val (.int 1), .val (.ref c1)] [.int 66, (.int (nar .char (nar .char ((u &&& (255 : Int32)).toUInt32.toUInt16.toUInt32.toInt32))))]) target → own_S p e below s₁ (mkF m 0 #[.val (.ref a0), .unset, .unset, .unset, .unset] []) target := by
      intro target kt
      show own_S p e below s₁ (mkF m 0 #[.val (.ref a0), .unset, .unset, .unset, .unset] []) _
      refine cp134 _ ?_
      show own_S p e below T133 (mkF m 29 #[.val (.ref a0), .val (.ref r95), .val (.int 8), .val (.int 1), .val (.ref c1)] [.int 0, (.ref a0)]) _
      refine st135.trans ?_
      show own_S p e below T135 (mkF m 32 #[.val (.ref a0), .val (.ref r95), .val (.int 8), .val (.int 1), .val (.ref c1)] [(.int (nar .char (nar .char ((u &&& (255 : Int32)).toUInt32.toUInt16.toUInt32.toInt32))))]) _
      refine XS.aload X135.here hx rfl (hb hby d8_32) rfl rfl ?_
      show own_S p e below T135 (mkF m 34 #[.val (.ref a0), .val (.ref r95), .val (.int 8), .val (.int 1), .val (.ref c1)] [(.ref c1), (.int (nar .char (nar .char ((u &&& (255 : Int32)).toUInt32.toUInt16.toUInt32.toInt32))))]) _
      refine st136 _ ?_
      exact kt
    by_cases hc137 : (nar .char (nar .char ((u &&& (255 : Int32)).toUInt32.toUInt16.toUInt32.toInt32))) = (66 : Int32)
    · obtain ⟨fs, hr, hrun, hended, hW, hsame⟩ := X136.leave (v := some (.ref c1)) (fun h => by rw [Bd.returns] at h; cases h)
      refine ⟨_, _, pre0 _ ?_, hrun, hended, _, _, rfl, ?_, ⟨_, rfl⟩, hW, hsame.mono (by decide) (by decide)⟩
      · show own_S p e below s₁ (mkF m 0 #[.val (.ref a0), .unset, .unset, .unset, .unset] []) _
        refine cp138 _ ?_
        show own_S p e below T136 (mkF m 37 #[.val (.ref a0), .val (.ref r95), .val (.int 8), .val (.int 1), .val (.ref c1)] [.int 66, (.int (nar .char (nar .char ((u &&& (255 : Int32)).toUInt32.toUInt16.toUInt32.toInt32))))]) _
        refine XS.icmpNo X136.here hx rfl (hb hby d8_37) rfl (teq hc137).2 ?_
        show own_S p e below T136 (mkF m 40 #[.val (.ref a0), .val (.ref r95), .val (.int 8), .val (.int 1), .val (.ref c1)] []) _
        refine XS.aload X136.here hx rfl (hb hby d8_40) rfl rfl ?_
        show own_S p e below T136 (mkF m 42 #[.val (.ref a0), .val (.ref r95), .val (.int 8), .val (.int 1), .val (.ref c1)] [(.ref c1)]) _
        exact Jvm.RoadKit.retOut X136 hx Bd.returns rfl (Or.inr (Or.inr (Or.inr (Or.inr ⟨rfl, rfl, rfl⟩)))) (hb hby d8_42) hr
      · show Q8 Z a0 b kb u c0 c1 c2 c3 c4 c5 c6 c7 cs gf va kv h0 n0 _ T136.heap _
        rw [e136]
        exact ⟨c1, rfl, N135, kp123, Or.inr (Or.inl ⟨hc137, rfl⟩)⟩
    · obtain ⟨cl139, Ar139, q139, S139, M139, H139, G139⟩ := id Vr95
      have hin139 : ¬ ((2 : Int32) < 0 ∨ cl139.slots.size ≤ ((2 : Int32)).toNatClampNeg) := inb_of S139 ⟨(by decide : ¬ (2 : Int32) < 0), (by decide : (2 : Int32) < (8 : Int32))⟩
      have hat139 : cl139.slots[((2 : Int32)).toNatClampNeg]? = some (.ref c2) := Has.at H139 hin139 rfl
      have ld139 := X136.aaload hx (j := (2 : Int32)) (v := (.ref c2)) (by rw [e136]; exact Ar139.1) (State.isArrayOf_alike hZ.alike Ar139.2.1) rfl Ar139.2.2 hin139 hat139 (g := (mkF m 16 #[.val (.ref a0), .val (.ref r95), .val (.int 8), .val (.int 2), .val (.ref c1)] [.int 2, (.ref r95)])) rfl rfl (hb hby d8_16)
      obtain ⟨cq140, kq140, q140a, q140b, q140c⟩ := isOf hZ e136 x107
      obtain ⟨_, _, ⟨T140, L140, k140, n140⟩, -, X140, ⟨Lc140, hQ140, l140, y140, z140⟩, st140⟩ := X136.virtualBack hx (y := (⟨"java/lang/String", "length", "()I"⟩ : MethodName)) (z := (⟨"java/lang/String", "length", "()I"⟩ : MethodName)) hown (mvT hZ (hw _ (List.mem_of_getElem? (i := 62) rfl))) (mvT hZ (hw _ (List.mem_of_getElem? (i := 63) rfl))) (notFace_of_selects (args := #[]) (mvT hZ (hw _ (List.mem_of_getElem? (i := 65) rfl)))) (mvT hZ (hw _ (List.mem_of_getElem? (i := 65) rfl))) (mvT hZ (hw _ (List.mem_of_getElem? (i := 64) rfl))) (by decide) (backOf (W := 0) (rm10 l Z ag hw [] a0 b kb (1 : Int32) [(.int u)] (0 : Int32) cs T95.heap n0 sz122 x107 x108 x109 x110 x111 S_cs hcs) hZ (hw _ (List.mem_of_getElem? (i := 66) rfl)) (hw _ (List.mem_of_getElem? (i := 13) rfl)) (by decide) (by decide)) q140a q140c (g := (mkF m 20 #[.val (.ref a0), .val (.ref r95), .val (.int 8), .val (.int 2), .val (.ref c2)] [(.ref a0)])) rfl (by rw [hml]; rfl) (Steps.refl _) (argsL := []) (rest := []) (lenOf pd_1 rfl) rfl (by show 2 * 0 + _ ≤ _; exact Nat.le_of_eq rfl) (hb hby d8_20) (fun _ _ => ⟨rfl, e136, (by decide : 1 + 0 ≤ _), (by decide : 8 + 0 ≤ _)⟩)
      dsimp only [Pt.U, Pt.locs, Pt.cells, Pt.slots] at X140 l140 y140 z140 st140 hQ140
      subst l140 y140 z140
      obtain ⟨rfl, N140q, e140⟩ := hQ140
      have N140 := Fr.app N135 N140q
      have cp141 : ∀ target, own_S p e below T140 (mkF m 29 #[.val (.ref a0), .val (.ref r95), .val (.int 8), .val (.int 2), .val (.ref c2)] [.int 0, (.ref a0)]) target → own_S p e below s₁ (mkF m 0 #[.val (.ref a0), .unset, .unset, .unset, .unset] []) target := by
        intro target kt
        show own_S p e below s₁ (mkF m 0 #[.val (.ref a0), .unset, .unset, .unset, .unset] []) _
        refine cp138 _ ?_
        show own_S p e below T136 (mkF m 37 #[.val (.ref a0), .val (.ref r95), .val (.int 8), .val (.int 1), .val (.ref c1)] [.int 66, (.int (nar .char (nar .char ((u &&& (255 : Int32)).toUInt32.toUInt16.toUInt32.toInt32))))]) _
        refine XS.icmpYes X136.here hx rfl (pc0 := 37) (pc' := 43) rfl (hb hby d8_37) rfl (feq hc137).2 (by decide) (by decide) ?_
        show own_S p e below T136 (mkF m 43 #[.val (.ref a0), .val (.ref r95), .val (.int 8), .val (.int 1), .val (.ref c1)] []) _
        refine XS.iinc X136.here hx rfl (hb hby d8_43) rfl (l' := #[.val (.ref a0), .val (.ref r95), .val (.int 8), .val (.int 2), .val (.ref c1)]) rfl ?_
        show own_S p e below T136 (mkF m 46 #[.val (.ref a0), .val (.ref r95), .val (.int 8), .val (.int 2), .val (.ref c1)] []) _
        refine XS.goto X136.here hx rfl (pc0 := 46) (pc' := 9) rfl (hb hby d8_46) (by decide) (by decide) ?_
        show own_S p e below T136 (mkF m 9 #[.val (.ref a0), .val (.ref r95), .val (.int 8), .val (.int 2), .val (.ref c1)] []) _
        refine XS.iloadN X136.here hx rfl (hb hby d8_9) rfl ?_
        show own_S p e below T136 (mkF m 10 #[.val (.ref a0), .val (.ref r95), .val (.int 8), .val (.int 2), .val (.ref c1)] [.int 2]) _
        refine XS.iloadN X136.here hx rfl (hb hby d8_10) rfl ?_
        show own_S p e below T136 (mkF m 11 #[.val (.ref a0), .val (.ref r95), .val (.int 8), .val (.int 2), .val (.ref c1)] [.int 8, .int 2]) _
        refine XS.icmpNo X136.here hx rfl (hb hby d8_11) rfl (tlt (by decide : (2 : Int32) < (8 : Int32))).2.1 ?_
        show own_S p e below T136 (mkF m 14 #[.val (.ref a0), .val (.ref r95), .val (.int 8), .val (.int 2), .val (.ref c1)] []) _
        refine XS.aloadN X136.here hx rfl (hb hby d8_14) rfl rfl ?_
        show own_S p e below T136 (mkF m 15 #[.val (.ref a0), .val (.ref r95), .val (.int 8), .val (.int 2), .val (.ref c1)] [(.ref r95)]) _
        refine XS.iloadN X136.here hx rfl (hb hby d8_15) rfl ?_
        show own_S p e below T136 (mkF m 16 #[.val (.ref a0), .val (.ref r95), .val (.int 8), .val (.int 2), .val (.ref c1)] [.int 2, (.ref r95)]) _
        refine ld139 _ ?_
        show own_S p e below T136 (mkF m 17 #[.val (.ref a0), .val (.ref r95), .val (.int 8), .val (.int 2), .val (.ref c1)] [(.ref c2)]) _
        refine XS.astore X136.here hx rfl (hb hby d8_17) rfl rfl (l' := #[.val (.ref a0), .val (.ref r95), .val (.int 8), .val (.int 2), .val (.ref c2)]) rfl ?_
        show own_S p e below T136 (mkF m 19 #[.val (.ref a0), .val (.ref r95), .val (.int 8), .val (.int 2), .val (.ref c2)] []) _
        refine XS.aloadN X136.here hx rfl (hb hby d8_19) rfl rfl ?_
        show own_S p e below T136 (mkF m 20 #[.val (.ref a0), .val (.ref r95), .val (.int 8), .val (.int 2), .val (.ref c2)] [(.ref a0)]) _
        refine st140.trans ?_
        show own_S p e below T140 (mkF m 23 #[.val (.ref a0), .val (.ref r95), .val (.int 8), .val (.int 2), .val (.ref c2)] [(.int ((1 : Int32) >>> ((nar .byte (0 : Int32)) &&& 31)))]) _
        refine XS.iconst X140.here hx rfl (hb hby d8_23) ?_
        show own_S p e below T140 (mkF m 24 #[.val (.ref a0), .val (.ref r95), .val (.int 8), .val (.int 2), .val (.ref c2)] [.int 1, (.int ((1 : Int32) >>> ((nar .byte (0 : Int32)) &&& 31)))]) _
        refine XS.icmpNo X140.here hx rfl (hb hby d8_24) rfl (teq (show ((1 : Int32) >>> ((nar .byte (0 : Int32)) &&& 31)) = (1 : Int32) from (by decide))).2 ?_
        show own_S p e below T140 (mkF m 27 #[.val (.ref a0), .val (.ref r95), .val (.int 8), .val (.int 2), .val (.ref c2)] []) _
        refine XS.aloadN X140.here hx rfl (hb hby d8_27) rfl rfl ?_
        show own_S p e below T140 (mkF m 28 #[.val (.ref a0), .val (.ref r95), .val (.int 8), .val (.int 2), .val (.ref c2)] [(.ref a0)]) _
        refine XS.iconst X140.here hx rfl (hb hby d8_28) ?_
        exact kt
      obtain ⟨cq142, kq142, q142a, q142b, q142c⟩ := isOf hZ e140 x107
      obtain ⟨_, _, ⟨T142, L142, k142, n142⟩, -, X142, ⟨Lc142, hQ142, l142, y142, z142⟩, st142⟩ := X140.virtualBack hx (y := (⟨"java/lang/String", "charAt", "(I)C"⟩ : MethodName)) (z := (⟨"java/lang/String", "charAt", "(I)C"⟩ : MethodName)) hown (mvT hZ (hw _ (List.mem_of_getElem? (i := 72) rfl))) (mvT hZ (hw _ (List.mem_of_getElem? (i := 73) rfl))) (notFace_of_selects (args := #[]) (mvT hZ (hw _ (List.mem_of_getElem? (i := 75) rfl)))) (mvT hZ (hw _ (List.mem_of_getElem? (i := 75) rfl))) (mvT hZ (hw _ (List.mem_of_getElem? (i := 74) rfl))) (by decide) (backOf (W := 0) (rm12 l Z ag hw [] a0 (0 : Int32) b kb (1 : Int32) [(.int u)] u cs gf T95.heap n0 sz122 x107 x108 x109 x110 (by decide) (by decide) rfl x111 S_cs hcs S_gf rv_gf) hZ (hw _ (List.mem_of_getElem? (i := 76) rfl)) (hw _ (List.mem_of_getElem? (i := 13) rfl)) (by decide) (by decide)) q142a q142c (g := (mkF m 29 #[.val (.ref a0), .val (.ref r95), .val (.int 8), .val (.int 2), .val (.ref c2)] [.int 0, (.ref a0)])) rfl (by rw [hml]; rfl) (Steps.refl _) (argsL := [(.int (0 : Int32))]) (rest := []) (lenOf pd_10 rfl) rfl (by show 2 * 0 + _ ≤ _; exact Nat.le_of_eq rfl) (hb hby d8_29) (fun _ _ => ⟨rfl, e140, (by decide : 1 + 0 ≤ _), (by decide : 8 + 0 ≤ _)⟩)
      dsimp only [Pt.U, Pt.locs, Pt.cells, Pt.slots] at X142 l142 y142 z142 st142 hQ142
      subst l142 y142 z142
      obtain ⟨rfl, N142q, e142⟩ := hQ142
      have N142 := Fr.app N140 N142q
      obtain ⟨T143, X143, e143, st143⟩ := getF X142 hx hZ hown (host := "") (Or.inl (hw _ (List.mem_of_getElem? (i := 93) rfl))) Via.refl e142 x116 (g := (mkF m 34 #[.val (.ref a0), .val (.ref r95), .val (.int 8), .val (.int 2), .val (.ref c2)] [(.ref c2), (.int (nar .char (nar .char ((u &&& (255 : Int32)).toUInt32.toUInt16.toUInt32.toInt32))))])) rfl rfl (hb hby d8_34)
      have cp145 : ∀ target, own_S p e below T143 (mkF m 37 #[.val (.ref a0), .val (.ref r95), .val (.int 8), .val (.int 2), .val (.ref c2)] [.int 67, (.int (nar .char (nar .char ((u &&& (255 : Int32)).toUInt32.toUInt16.toUInt32.toInt32))))]) target → own_S p e below s₁ (mkF m 0 #[.val (.ref a0), .unset, .unset, .unset, .unset] []) target := by
        intro target kt
        show own_S p e below s₁ (mkF m 0 #[.val (.ref a0), .unset, .unset, .unset, .unset] []) _
        refine cp141 _ ?_
        show own_S p e below T140 (mkF m 29 #[.val (.ref a0), .val (.ref r95), .val (.int 8), .val (.int 2), .val (.ref c2)] [.int 0, (.ref a0)]) _
        refine st142.trans ?_
        show own_S p e below T142 (mkF m 32 #[.val (.ref a0), .val (.ref r95), .val (.int 8), .val (.int 2), .val (.ref c2)] [(.int (nar .char (nar .char ((u &&& (255 : Int32)).toUInt32.toUInt16.toUInt32.toInt32))))]) _
        refine XS.aload X142.here hx rfl (hb hby d8_32) rfl rfl ?_
        show own_S p e below T142 (mkF m 34 #[.val (.ref a0), .val (.ref r95), .val (.int 8), .val (.int 2), .val (.ref c2)] [(.ref c2), (.int (nar .char (nar .char ((u &&& (255 : Int32)).toUInt32.toUInt16.toUInt32.toInt32))))]) _
        refine st143 _ ?_
        exact kt
      by_cases hc144 : (nar .char (nar .char ((u &&& (255 : Int32)).toUInt32.toUInt16.toUInt32.toInt32))) = (67 : Int32)
      · obtain ⟨fs, hr, hrun, hended, hW, hsame⟩ := X143.leave (v := some (.ref c2)) (fun h => by rw [Bd.returns] at h; cases h)
        refine ⟨_, _, pre0 _ ?_, hrun, hended, _, _, rfl, ?_, ⟨_, rfl⟩, hW, hsame.mono (by decide) (by decide)⟩
        · show own_S p e below s₁ (mkF m 0 #[.val (.ref a0), .unset, .unset, .unset, .unset] []) _
          refine cp145 _ ?_
          show own_S p e below T143 (mkF m 37 #[.val (.ref a0), .val (.ref r95), .val (.int 8), .val (.int 2), .val (.ref c2)] [.int 67, (.int (nar .char (nar .char ((u &&& (255 : Int32)).toUInt32.toUInt16.toUInt32.toInt32))))]) _
          refine XS.icmpNo X143.here hx rfl (hb hby d8_37) rfl (teq hc144).2 ?_
          show own_S p e below T143 (mkF m 40 #[.val (.ref a0), .val (.ref r95), .val (.int 8), .val (.int 2), .val (.ref c2)] []) _
          refine XS.aload X143.here hx rfl (hb hby d8_40) rfl rfl ?_
          show own_S p e below T143 (mkF m 42 #[.val (.ref a0), .val (.ref r95), .val (.int 8), .val (.int 2), .val (.ref c2)] [(.ref c2)]) _
          exact Jvm.RoadKit.retOut X143 hx Bd.returns rfl (Or.inr (Or.inr (Or.inr (Or.inr ⟨rfl, rfl, rfl⟩)))) (hb hby d8_42) hr
        · show Q8 Z a0 b kb u c0 c1 c2 c3 c4 c5 c6 c7 cs gf va kv h0 n0 _ T143.heap _
          rw [e143]
          exact ⟨c2, rfl, N142, kp123, Or.inr (Or.inr (Or.inl ⟨hc144, rfl⟩))⟩
      · obtain ⟨cl146, Ar146, q146, S146, M146, H146, G146⟩ := id Vr95
        have hin146 : ¬ ((3 : Int32) < 0 ∨ cl146.slots.size ≤ ((3 : Int32)).toNatClampNeg) := inb_of S146 ⟨(by decide : ¬ (3 : Int32) < 0), (by decide : (3 : Int32) < (8 : Int32))⟩
        have hat146 : cl146.slots[((3 : Int32)).toNatClampNeg]? = some (.ref c3) := Has.at H146 hin146 rfl
        have ld146 := X143.aaload hx (j := (3 : Int32)) (v := (.ref c3)) (by rw [e143]; exact Ar146.1) (State.isArrayOf_alike hZ.alike Ar146.2.1) rfl Ar146.2.2 hin146 hat146 (g := (mkF m 16 #[.val (.ref a0), .val (.ref r95), .val (.int 8), .val (.int 3), .val (.ref c2)] [.int 3, (.ref r95)])) rfl rfl (hb hby d8_16)
        obtain ⟨cq147, kq147, q147a, q147b, q147c⟩ := isOf hZ e143 x107
        obtain ⟨_, _, ⟨T147, L147, k147, n147⟩, -, X147, ⟨Lc147, hQ147, l147, y147, z147⟩, st147⟩ := X143.virtualBack hx (y := (⟨"java/lang/String", "length", "()I"⟩ : MethodName)) (z := (⟨"java/lang/String", "length", "()I"⟩ : MethodName)) hown (mvT hZ (hw _ (List.mem_of_getElem? (i := 62) rfl))) (mvT hZ (hw _ (List.mem_of_getElem? (i := 63) rfl))) (notFace_of_selects (args := #[]) (mvT hZ (hw _ (List.mem_of_getElem? (i := 65) rfl)))) (mvT hZ (hw _ (List.mem_of_getElem? (i := 65) rfl))) (mvT hZ (hw _ (List.mem_of_getElem? (i := 64) rfl))) (by decide) (backOf (W := 0) (rm10 l Z ag hw [] a0 b kb (1 : Int32) [(.int u)] (0 : Int32) cs T95.heap n0 sz122 x107 x108 x109 x110 x111 S_cs hcs) hZ (hw _ (List.mem_of_getElem? (i := 66) rfl)) (hw _ (List.mem_of_getElem? (i := 13) rfl)) (by decide) (by decide)) q147a q147c (g := (mkF m 20 #[.val (.ref a0), .val (.ref r95), .val (.int 8), .val (.int 3), .val (.ref c3)] [(.ref a0)])) rfl (by rw [hml]; rfl) (Steps.refl _) (argsL := []) (rest := []) (lenOf pd_1 rfl) rfl (by show 2 * 0 + _ ≤ _; exact Nat.le_of_eq rfl) (hb hby d8_20) (fun _ _ => ⟨rfl, e143, (by decide : 1 + 0 ≤ _), (by decide : 8 + 0 ≤ _)⟩)
        dsimp only [Pt.U, Pt.locs, Pt.cells, Pt.slots] at X147 l147 y147 z147 st147 hQ147
        subst l147 y147 z147
        obtain ⟨rfl, N147q, e147⟩ := hQ147
        have N147 := Fr.app N142 N147q
        have cp148 : ∀ target, own_S p e below T147 (mkF m 29 #[.val (.ref a0), .val (.ref r95), .val (.int 8), .val (.int 3), .val (.ref c3)] [.int 0, (.ref a0)]) target → own_S p e below s₁ (mkF m 0 #[.val (.ref a0), .unset, .unset, .unset, .unset] []) target := by
          intro target kt
          show own_S p e below s₁ (mkF m 0 #[.val (.ref a0), .unset, .unset, .unset, .unset] []) _
          refine cp145 _ ?_
          show own_S p e below T143 (mkF m 37 #[.val (.ref a0), .val (.ref r95), .val (.int 8), .val (.int 2), .val (.ref c2)] [.int 67, (.int (nar .char (nar .char ((u &&& (255 : Int32)).toUInt32.toUInt16.toUInt32.toInt32))))]) _
          refine XS.icmpYes X143.here hx rfl (pc0 := 37) (pc' := 43) rfl (hb hby d8_37) rfl (feq hc144).2 (by decide) (by decide) ?_
          show own_S p e below T143 (mkF m 43 #[.val (.ref a0), .val (.ref r95), .val (.int 8), .val (.int 2), .val (.ref c2)] []) _
          refine XS.iinc X143.here hx rfl (hb hby d8_43) rfl (l' := #[.val (.ref a0), .val (.ref r95), .val (.int 8), .val (.int 3), .val (.ref c2)]) rfl ?_
          show own_S p e below T143 (mkF m 46 #[.val (.ref a0), .val (.ref r95), .val (.int 8), .val (.int 3), .val (.ref c2)] []) _
          refine XS.goto X143.here hx rfl (pc0 := 46) (pc' := 9) rfl (hb hby d8_46) (by decide) (by decide) ?_
          show own_S p e below T143 (mkF m 9 #[.val (.ref a0), .val (.ref r95), .val (.int 8), .val (.int 3), .val (.ref c2)] []) _
          refine XS.iloadN X143.here hx rfl (hb hby d8_9) rfl ?_
          show own_S p e below T143 (mkF m 10 #[.val (.ref a0), .val (.ref r95), .val (.int 8), .val (.int 3), .val (.ref c2)] [.int 3]) _
          refine XS.iloadN X143.here hx rfl (hb hby d8_10) rfl ?_
          show own_S p e below T143 (mkF m 11 #[.val (.ref a0), .val (.ref r95), .val (.int 8), .val (.int 3), .val (.ref c2)] [.int 8, .int 3]) _
          refine XS.icmpNo X143.here hx rfl (hb hby d8_11) rfl (tlt (by decide : (3 : Int32) < (8 : Int32))).2.1 ?_
          show own_S p e below T143 (mkF m 14 #[.val (.ref a0), .val (.ref r95), .val (.int 8), .val (.int 3), .val (.ref c2)] []) _
          refine XS.aloadN X143.here hx rfl (hb hby d8_14) rfl rfl ?_
          show own_S p e below T143 (mkF m 15 #[.val (.ref a0), .val (.ref r95), .val (.int 8), .val (.int 3), .val (.ref c2)] [(.ref r95)]) _
          refine XS.iloadN X143.here hx rfl (hb hby d8_15) rfl ?_
          show own_S p e below T143 (mkF m 16 #[.val (.ref a0), .val (.ref r95), .val (.int 8), .val (.int 3), .val (.ref c2)] [.int 3, (.ref r95)]) _
          refine ld146 _ ?_
          show own_S p e below T143 (mkF m 17 #[.val (.ref a0), .val (.ref r95), .val (.int 8), .val (.int 3), .val (.ref c2)] [(.ref c3)]) _
          refine XS.astore X143.here hx rfl (hb hby d8_17) rfl rfl (l' := #[.val (.ref a0), .val (.ref r95), .val (.int 8), .val (.int 3), .val (.ref c3)]) rfl ?_
          show own_S p e below T143 (mkF m 19 #[.val (.ref a0), .val (.ref r95), .val (.int 8), .val (.int 3), .val (.ref c3)] []) _
          refine XS.aloadN X143.here hx rfl (hb hby d8_19) rfl rfl ?_
          show own_S p e below T143 (mkF m 20 #[.val (.ref a0), .val (.ref r95), .val (.int 8), .val (.int 3), .val (.ref c3)] [(.ref a0)]) _
          refine st147.trans ?_
          show own_S p e below T147 (mkF m 23 #[.val (.ref a0), .val (.ref r95), .val (.int 8), .val (.int 3), .val (.ref c3)] [(.int ((1 : Int32) >>> ((nar .byte (0 : Int32)) &&& 31)))]) _
          refine XS.iconst X147.here hx rfl (hb hby d8_23) ?_
          show own_S p e below T147 (mkF m 24 #[.val (.ref a0), .val (.ref r95), .val (.int 8), .val (.int 3), .val (.ref c3)] [.int 1, (.int ((1 : Int32) >>> ((nar .byte (0 : Int32)) &&& 31)))]) _
          refine XS.icmpNo X147.here hx rfl (hb hby d8_24) rfl (teq (show ((1 : Int32) >>> ((nar .byte (0 : Int32)) &&& 31)) = (1 : Int32) from (by decide))).2 ?_
          show own_S p e below T147 (mkF m 27 #[.val (.ref a0), .val (.ref r95), .val (.int 8), .val (.int 3), .val (.ref c3)] []) _
          refine XS.aloadN X147.here hx rfl (hb hby d8_27) rfl rfl ?_
          show own_S p e below T147 (mkF m 28 #[.val (.ref a0), .val (.ref r95), .val (.int 8), .val (.int 3), .val (.ref c3)] [(.ref a0)]) _
          refine XS.iconst X147.here hx rfl (hb hby d8_28) ?_
          exact kt
        obtain ⟨cq149, kq149, q149a, q149b, q149c⟩ := isOf hZ e147 x107
        obtain ⟨_, _, ⟨T149, L149, k149, n149⟩, -, X149, ⟨Lc149, hQ149, l149, y149, z149⟩, st149⟩ := X147.virtualBack hx (y := (⟨"java/lang/String", "charAt", "(I)C"⟩ : MethodName)) (z := (⟨"java/lang/String", "charAt", "(I)C"⟩ : MethodName)) hown (mvT hZ (hw _ (List.mem_of_getElem? (i := 72) rfl))) (mvT hZ (hw _ (List.mem_of_getElem? (i := 73) rfl))) (notFace_of_selects (args := #[]) (mvT hZ (hw _ (List.mem_of_getElem? (i := 75) rfl)))) (mvT hZ (hw _ (List.mem_of_getElem? (i := 75) rfl))) (mvT hZ (hw _ (List.mem_of_getElem? (i := 74) rfl))) (by decide) (backOf (W := 0) (rm12 l Z ag hw [] a0 (0 : Int32) b kb (1 : Int32) [(.int u)] u cs gf T95.heap n0 sz122 x107 x108 x109 x110 (by decide) (by decide) rfl x111 S_cs hcs S_gf rv_gf) hZ (hw _ (List.mem_of_getElem? (i := 76) rfl)) (hw _ (List.mem_of_getElem? (i := 13) rfl)) (by decide) (by decide)) q149a q149c (g := (mkF m 29 #[.val (.ref a0), .val (.ref r95), .val (.int 8), .val (.int 3), .val (.ref c3)] [.int 0, (.ref a0)])) rfl (by rw [hml]; rfl) (Steps.refl _) (argsL := [(.int (0 : Int32))]) (rest := []) (lenOf pd_10 rfl) rfl (by show 2 * 0 + _ ≤ _; exact Nat.le_of_eq rfl) (hb hby d8_29) (fun _ _ => ⟨rfl, e147, (by decide : 1 + 0 ≤ _), (by decide : 8 + 0 ≤ _)⟩)
        dsimp only [Pt.U, Pt.locs, Pt.cells, Pt.slots] at X149 l149 y149 z149 st149 hQ149
        subst l149 y149 z149
        obtain ⟨rfl, N149q, e149⟩ := hQ149
        have N149 := Fr.app N147 N149q
        obtain ⟨T150, X150, e150, st150⟩ := getF X149 hx hZ hown (host := "") (Or.inl (hw _ (List.mem_of_getElem? (i := 93) rfl))) Via.refl e149 x117 (g := (mkF m 34 #[.val (.ref a0), .val (.ref r95), .val (.int 8), .val (.int 3), .val (.ref c3)] [(.ref c3), (.int (nar .char (nar .char ((u &&& (255 : Int32)).toUInt32.toUInt16.toUInt32.toInt32))))])) rfl rfl (hb hby d8_34)
        have cp152 : ∀ target, own_S p e below T150 (mkF m 37 #[.val (.ref a0), .val (.ref r95), .val (.int 8), .val (.int 3), .val (.ref c3)] [.int 83, (.int (nar .char (nar .char ((u &&& (255 : Int32)).toUInt32.toUInt16.toUInt32.toInt32))))]) target → own_S p e below s₁ (mkF m 0 #[.val (.ref a0), .unset, .unset, .unset, .unset] []) target := by
          intro target kt
          show own_S p e below s₁ (mkF m 0 #[.val (.ref a0), .unset, .unset, .unset, .unset] []) _
          refine cp148 _ ?_
          show own_S p e below T147 (mkF m 29 #[.val (.ref a0), .val (.ref r95), .val (.int 8), .val (.int 3), .val (.ref c3)] [.int 0, (.ref a0)]) _
          refine st149.trans ?_
          show own_S p e below T149 (mkF m 32 #[.val (.ref a0), .val (.ref r95), .val (.int 8), .val (.int 3), .val (.ref c3)] [(.int (nar .char (nar .char ((u &&& (255 : Int32)).toUInt32.toUInt16.toUInt32.toInt32))))]) _
          refine XS.aload X149.here hx rfl (hb hby d8_32) rfl rfl ?_
          show own_S p e below T149 (mkF m 34 #[.val (.ref a0), .val (.ref r95), .val (.int 8), .val (.int 3), .val (.ref c3)] [(.ref c3), (.int (nar .char (nar .char ((u &&& (255 : Int32)).toUInt32.toUInt16.toUInt32.toInt32))))]) _
          refine st150 _ ?_
          exact kt
        by_cases hc151 : (nar .char (nar .char ((u &&& (255 : Int32)).toUInt32.toUInt16.toUInt32.toInt32))) = (83 : Int32)
        · obtain ⟨fs, hr, hrun, hended, hW, hsame⟩ := X150.leave (v := some (.ref c3)) (fun h => by rw [Bd.returns] at h; cases h)
          refine ⟨_, _, pre0 _ ?_, hrun, hended, _, _, rfl, ?_, ⟨_, rfl⟩, hW, hsame.mono (by decide) (by decide)⟩
          · show own_S p e below s₁ (mkF m 0 #[.val (.ref a0), .unset, .unset, .unset, .unset] []) _
            refine cp152 _ ?_
            show own_S p e below T150 (mkF m 37 #[.val (.ref a0), .val (.ref r95), .val (.int 8), .val (.int 3), .val (.ref c3)] [.int 83, (.int (nar .char (nar .char ((u &&& (255 : Int32)).toUInt32.toUInt16.toUInt32.toInt32))))]) _
            refine XS.icmpNo X150.here hx rfl (hb hby d8_37) rfl (teq hc151).2 ?_
            show own_S p e below T150 (mkF m 40 #[.val (.ref a0), .val (.ref r95), .val (.int 8), .val (.int 3), .val (.ref c3)] []) _
            refine XS.aload X150.here hx rfl (hb hby d8_40) rfl rfl ?_
            show own_S p e below T150 (mkF m 42 #[.val (.ref a0), .val (.ref r95), .val (.int 8), .val (.int 3), .val (.ref c3)] [(.ref c3)]) _
            exact Jvm.RoadKit.retOut X150 hx Bd.returns rfl (Or.inr (Or.inr (Or.inr (Or.inr ⟨rfl, rfl, rfl⟩)))) (hb hby d8_42) hr
          · show Q8 Z a0 b kb u c0 c1 c2 c3 c4 c5 c6 c7 cs gf va kv h0 n0 _ T150.heap _
            rw [e150]
            exact ⟨c3, rfl, N149, kp123, Or.inr (Or.inr (Or.inr (Or.inl ⟨hc151, rfl⟩)))⟩
        · obtain ⟨cl153, Ar153, q153, S153, M153, H153, G153⟩ := id Vr95
          have hin153 : ¬ ((4 : Int32) < 0 ∨ cl153.slots.size ≤ ((4 : Int32)).toNatClampNeg) := inb_of S153 ⟨(by decide : ¬ (4 : Int32) < 0), (by decide : (4 : Int32) < (8 : Int32))⟩
          have hat153 : cl153.slots[((4 : Int32)).toNatClampNeg]? = some (.ref c4) := Has.at H153 hin153 rfl
          have ld153 := X150.aaload hx (j := (4 : Int32)) (v := (.ref c4)) (by rw [e150]; exact Ar153.1) (State.isArrayOf_alike hZ.alike Ar153.2.1) rfl Ar153.2.2 hin153 hat153 (g := (mkF m 16 #[.val (.ref a0), .val (.ref r95), .val (.int 8), .val (.int 4), .val (.ref c3)] [.int 4, (.ref r95)])) rfl rfl (hb hby d8_16)
          obtain ⟨cq154, kq154, q154a, q154b, q154c⟩ := isOf hZ e150 x107
          obtain ⟨_, _, ⟨T154, L154, k154, n154⟩, -, X154, ⟨Lc154, hQ154, l154, y154, z154⟩, st154⟩ := X150.virtualBack hx (y := (⟨"java/lang/String", "length", "()I"⟩ : MethodName)) (z := (⟨"java/lang/String", "length", "()I"⟩ : MethodName)) hown (mvT hZ (hw _ (List.mem_of_getElem? (i := 62) rfl))) (mvT hZ (hw _ (List.mem_of_getElem? (i := 63) rfl))) (notFace_of_selects (args := #[]) (mvT hZ (hw _ (List.mem_of_getElem? (i := 65) rfl)))) (mvT hZ (hw _ (List.mem_of_getElem? (i := 65) rfl))) (mvT hZ (hw _ (List.mem_of_getElem? (i := 64) rfl))) (by decide) (backOf (W := 0) (rm10 l Z ag hw [] a0 b kb (1 : Int32) [(.int u)] (0 : Int32) cs T95.heap n0 sz122 x107 x108 x109 x110 x111 S_cs hcs) hZ (hw _ (List.mem_of_getElem? (i := 66) rfl)) (hw _ (List.mem_of_getElem? (i := 13) rfl)) (by decide) (by decide)) q154a q154c (g := (mkF m 20 #[.val (.ref a0), .val (.ref r95), .val (.int 8), .val (.int 4), .val (.ref c4)] [(.ref a0)])) rfl (by rw [hml]; rfl) (Steps.refl _) (argsL := []) (rest := []) (lenOf pd_1 rfl) rfl (by show 2 * 0 + _ ≤ _; exact Nat.le_of_eq rfl) (hb hby d8_20) (fun _ _ => ⟨rfl, e150, (by decide : 1 + 0 ≤ _), (by decide : 8 + 0 ≤ _)⟩)
          dsimp only [Pt.U, Pt.locs, Pt.cells, Pt.slots] at X154 l154 y154 z154 st154 hQ154
          subst l154 y154 z154
          obtain ⟨rfl, N154q, e154⟩ := hQ154
          have N154 := Fr.app N149 N154q
          have cp155 : ∀ target, own_S p e below T154 (mkF m 29 #[.val (.ref a0), .val (.ref r95), .val (.int 8), .val (.int 4), .val (.ref c4)] [.int 0, (.ref a0)]) target → own_S p e below s₁ (mkF m 0 #[.val (.ref a0), .unset, .unset, .unset, .unset] []) target := by
            intro target kt
            show own_S p e below s₁ (mkF m 0 #[.val (.ref a0), .unset, .unset, .unset, .unset] []) _
            refine cp152 _ ?_
            show own_S p e below T150 (mkF m 37 #[.val (.ref a0), .val (.ref r95), .val (.int 8), .val (.int 3), .val (.ref c3)] [.int 83, (.int (nar .char (nar .char ((u &&& (255 : Int32)).toUInt32.toUInt16.toUInt32.toInt32))))]) _
            refine XS.icmpYes X150.here hx rfl (pc0 := 37) (pc' := 43) rfl (hb hby d8_37) rfl (feq hc151).2 (by decide) (by decide) ?_
            show own_S p e below T150 (mkF m 43 #[.val (.ref a0), .val (.ref r95), .val (.int 8), .val (.int 3), .val (.ref c3)] []) _
            refine XS.iinc X150.here hx rfl (hb hby d8_43) rfl (l' := #[.val (.ref a0), .val (.ref r95), .val (.int 8), .val (.int 4), .val (.ref c3)]) rfl ?_
            show own_S p e below T150 (mkF m 46 #[.val (.ref a0), .val (.ref r95), .val (.int 8), .val (.int 4), .val (.ref c3)] []) _
            refine XS.goto X150.here hx rfl (pc0 := 46) (pc' := 9) rfl (hb hby d8_46) (by decide) (by decide) ?_
            show own_S p e below T150 (mkF m 9 #[.val (.ref a0), .val (.ref r95), .val (.int 8), .val (.int 4), .val (.ref c3)] []) _
            refine XS.iloadN X150.here hx rfl (hb hby d8_9) rfl ?_
            show own_S p e below T150 (mkF m 10 #[.val (.ref a0), .val (.ref r95), .val (.int 8), .val (.int 4), .val (.ref c3)] [.int 4]) _
            refine XS.iloadN X150.here hx rfl (hb hby d8_10) rfl ?_
            show own_S p e below T150 (mkF m 11 #[.val (.ref a0), .val (.ref r95), .val (.int 8), .val (.int 4), .val (.ref c3)] [.int 8, .int 4]) _
            refine XS.icmpNo X150.here hx rfl (hb hby d8_11) rfl (tlt (by decide : (4 : Int32) < (8 : Int32))).2.1 ?_
            show own_S p e below T150 (mkF m 14 #[.val (.ref a0), .val (.ref r95), .val (.int 8), .val (.int 4), .val (.ref c3)] []) _
            refine XS.aloadN X150.here hx rfl (hb hby d8_14) rfl rfl ?_
            show own_S p e below T150 (mkF m 15 #[.val (.ref a0), .val (.ref r95), .val (.int 8), .val (.int 4), .val (.ref c3)] [(.ref r95)]) _
            refine XS.iloadN X150.here hx rfl (hb hby d8_15) rfl ?_
            show own_S p e below T150 (mkF m 16 #[.val (.ref a0), .val (.ref r95), .val (.int 8), .val (.int 4), .val (.ref c3)] [.int 4, (.ref r95)]) _
            refine ld153 _ ?_
            show own_S p e below T150 (mkF m 17 #[.val (.ref a0), .val (.ref r95), .val (.int 8), .val (.int 4), .val (.ref c3)] [(.ref c4)]) _
            refine XS.astore X150.here hx rfl (hb hby d8_17) rfl rfl (l' := #[.val (.ref a0), .val (.ref r95), .val (.int 8), .val (.int 4), .val (.ref c4)]) rfl ?_
            show own_S p e below T150 (mkF m 19 #[.val (.ref a0), .val (.ref r95), .val (.int 8), .val (.int 4), .val (.ref c4)] []) _
            refine XS.aloadN X150.here hx rfl (hb hby d8_19) rfl rfl ?_
            show own_S p e below T150 (mkF m 20 #[.val (.ref a0), .val (.ref r95), .val (.int 8), .val (.int 4), .val (.ref c4)] [(.ref a0)]) _
            refine st154.trans ?_
            show own_S p e below T154 (mkF m 23 #[.val (.ref a0), .val (.ref r95), .val (.int 8), .val (.int 4), .val (.ref c4)] [(.int ((1 : Int32) >>> ((nar .byte (0 : Int32)) &&& 31)))]) _
            refine XS.iconst X154.here hx rfl (hb hby d8_23) ?_
            show own_S p e below T154 (mkF m 24 #[.val (.ref a0), .val (.ref r95), .val (.int 8), .val (.int 4), .val (.ref c4)] [.int 1, (.int ((1 : Int32) >>> ((nar .byte (0 : Int32)) &&& 31)))]) _
            refine XS.icmpNo X154.here hx rfl (hb hby d8_24) rfl (teq (show ((1 : Int32) >>> ((nar .byte (0 : Int32)) &&& 31)) = (1 : Int32) from (by decide))).2 ?_
            show own_S p e below T154 (mkF m 27 #[.val (.ref a0), .val (.ref r95), .val (.int 8), .val (.int 4), .val (.ref c4)] []) _
            refine XS.aloadN X154.here hx rfl (hb hby d8_27) rfl rfl ?_
            show own_S p e below T154 (mkF m 28 #[.val (.ref a0), .val (.ref r95), .val (.int 8), .val (.int 4), .val (.ref c4)] [(.ref a0)]) _
            refine XS.iconst X154.here hx rfl (hb hby d8_28) ?_
            exact kt
          obtain ⟨cq156, kq156, q156a, q156b, q156c⟩ := isOf hZ e154 x107
          obtain ⟨_, _, ⟨T156, L156, k156, n156⟩, -, X156, ⟨Lc156, hQ156, l156, y156, z156⟩, st156⟩ := X154.virtualBack hx (y := (⟨"java/lang/String", "charAt", "(I)C"⟩ : MethodName)) (z := (⟨"java/lang/String", "charAt", "(I)C"⟩ : MethodName)) hown (mvT hZ (hw _ (List.mem_of_getElem? (i := 72) rfl))) (mvT hZ (hw _ (List.mem_of_getElem? (i := 73) rfl))) (notFace_of_selects (args := #[]) (mvT hZ (hw _ (List.mem_of_getElem? (i := 75) rfl)))) (mvT hZ (hw _ (List.mem_of_getElem? (i := 75) rfl))) (mvT hZ (hw _ (List.mem_of_getElem? (i := 74) rfl))) (by decide) (backOf (W := 0) (rm12 l Z ag hw [] a0 (0 : Int32) b kb (1 : Int32) [(.int u)] u cs gf T95.heap n0 sz122 x107 x108 x109 x110 (by decide) (by decide) rfl x111 S_cs hcs S_gf rv_gf) hZ (hw _ (List.mem_of_getElem? (i := 76) rfl)) (hw _ (List.mem_of_getElem? (i := 13) rfl)) (by decide) (by decide)) q156a q156c (g := (mkF m 29 #[.val (.ref a0), .val (.ref r95), .val (.int 8), .val (.int 4), .val (.ref c4)] [.int 0, (.ref a0)])) rfl (by rw [hml]; rfl) (Steps.refl _) (argsL := [(.int (0 : Int32))]) (rest := []) (lenOf pd_10 rfl) rfl (by show 2 * 0 + _ ≤ _; exact Nat.le_of_eq rfl) (hb hby d8_29) (fun _ _ => ⟨rfl, e154, (by decide : 1 + 0 ≤ _), (by decide : 8 + 0 ≤ _)⟩)
          dsimp only [Pt.U, Pt.locs, Pt.cells, Pt.slots] at X156 l156 y156 z156 st156 hQ156
          subst l156 y156 z156
          obtain ⟨rfl, N156q, e156⟩ := hQ156
          have N156 := Fr.app N154 N156q
          obtain ⟨T157, X157, e157, st157⟩ := getF X156 hx hZ hown (host := "") (Or.inl (hw _ (List.mem_of_getElem? (i := 93) rfl))) Via.refl e156 x118 (g := (mkF m 34 #[.val (.ref a0), .val (.ref r95), .val (.int 8), .val (.int 4), .val (.ref c4)] [(.ref c4), (.int (nar .char (nar .char ((u &&& (255 : Int32)).toUInt32.toUInt16.toUInt32.toInt32))))])) rfl rfl (hb hby d8_34)
          have cp159 : ∀ target, own_S p e below T157 (mkF m 37 #[.val (.ref a0), .val (.ref r95), .val (.int 8), .val (.int 4), .val (.ref c4)] [.int 73, (.int (nar .char (nar .char ((u &&& (255 : Int32)).toUInt32.toUInt16.toUInt32.toInt32))))]) target → own_S p e below s₁ (mkF m 0 #[.val (.ref a0), .unset, .unset, .unset, .unset] []) target := by
            intro target kt
            show own_S p e below s₁ (mkF m 0 #[.val (.ref a0), .unset, .unset, .unset, .unset] []) _
            refine cp155 _ ?_
            show own_S p e below T154 (mkF m 29 #[.val (.ref a0), .val (.ref r95), .val (.int 8), .val (.int 4), .val (.ref c4)] [.int 0, (.ref a0)]) _
            refine st156.trans ?_
            show own_S p e below T156 (mkF m 32 #[.val (.ref a0), .val (.ref r95), .val (.int 8), .val (.int 4), .val (.ref c4)] [(.int (nar .char (nar .char ((u &&& (255 : Int32)).toUInt32.toUInt16.toUInt32.toInt32))))]) _
            refine XS.aload X156.here hx rfl (hb hby d8_32) rfl rfl ?_
            show own_S p e below T156 (mkF m 34 #[.val (.ref a0), .val (.ref r95), .val (.int 8), .val (.int 4), .val (.ref c4)] [(.ref c4), (.int (nar .char (nar .char ((u &&& (255 : Int32)).toUInt32.toUInt16.toUInt32.toInt32))))]) _
            refine st157 _ ?_
            exact kt
          by_cases hc158 : (nar .char (nar .char ((u &&& (255 : Int32)).toUInt32.toUInt16.toUInt32.toInt32))) = (73 : Int32)
          · obtain ⟨fs, hr, hrun, hended, hW, hsame⟩ := X157.leave (v := some (.ref c4)) (fun h => by rw [Bd.returns] at h; cases h)
            refine ⟨_, _, pre0 _ ?_, hrun, hended, _, _, rfl, ?_, ⟨_, rfl⟩, hW, hsame.mono (by decide) (by decide)⟩
            · show own_S p e below s₁ (mkF m 0 #[.val (.ref a0), .unset, .unset, .unset, .unset] []) _
              refine cp159 _ ?_
              show own_S p e below T157 (mkF m 37 #[.val (.ref a0), .val (.ref r95), .val (.int 8), .val (.int 4), .val (.ref c4)] [.int 73, (.int (nar .char (nar .char ((u &&& (255 : Int32)).toUInt32.toUInt16.toUInt32.toInt32))))]) _
              refine XS.icmpNo X157.here hx rfl (hb hby d8_37) rfl (teq hc158).2 ?_
              show own_S p e below T157 (mkF m 40 #[.val (.ref a0), .val (.ref r95), .val (.int 8), .val (.int 4), .val (.ref c4)] []) _
              refine XS.aload X157.here hx rfl (hb hby d8_40) rfl rfl ?_
              show own_S p e below T157 (mkF m 42 #[.val (.ref a0), .val (.ref r95), .val (.int 8), .val (.int 4), .val (.ref c4)] [(.ref c4)]) _
              exact Jvm.RoadKit.retOut X157 hx Bd.returns rfl (Or.inr (Or.inr (Or.inr (Or.inr ⟨rfl, rfl, rfl⟩)))) (hb hby d8_42) hr
            · show Q8 Z a0 b kb u c0 c1 c2 c3 c4 c5 c6 c7 cs gf va kv h0 n0 _ T157.heap _
              rw [e157]
              exact ⟨c4, rfl, N156, kp123, Or.inr (Or.inr (Or.inr (Or.inr (Or.inl ⟨hc158, rfl⟩))))⟩
          · obtain ⟨cl160, Ar160, q160, S160, M160, H160, G160⟩ := id Vr95
            have hin160 : ¬ ((5 : Int32) < 0 ∨ cl160.slots.size ≤ ((5 : Int32)).toNatClampNeg) := inb_of S160 ⟨(by decide : ¬ (5 : Int32) < 0), (by decide : (5 : Int32) < (8 : Int32))⟩
            have hat160 : cl160.slots[((5 : Int32)).toNatClampNeg]? = some (.ref c5) := Has.at H160 hin160 rfl
            have ld160 := X157.aaload hx (j := (5 : Int32)) (v := (.ref c5)) (by rw [e157]; exact Ar160.1) (State.isArrayOf_alike hZ.alike Ar160.2.1) rfl Ar160.2.2 hin160 hat160 (g := (mkF m 16 #[.val (.ref a0), .val (.ref r95), .val (.int 8), .val (.int 5), .val (.ref c4)] [.int 5, (.ref r95)])) rfl rfl (hb hby d8_16)
            obtain ⟨cq161, kq161, q161a, q161b, q161c⟩ := isOf hZ e157 x107
            obtain ⟨_, _, ⟨T161, L161, k161, n161⟩, -, X161, ⟨Lc161, hQ161, l161, y161, z161⟩, st161⟩ := X157.virtualBack hx (y := (⟨"java/lang/String", "length", "()I"⟩ : MethodName)) (z := (⟨"java/lang/String", "length", "()I"⟩ : MethodName)) hown (mvT hZ (hw _ (List.mem_of_getElem? (i := 62) rfl))) (mvT hZ (hw _ (List.mem_of_getElem? (i := 63) rfl))) (notFace_of_selects (args := #[]) (mvT hZ (hw _ (List.mem_of_getElem? (i := 65) rfl)))) (mvT hZ (hw _ (List.mem_of_getElem? (i := 65) rfl))) (mvT hZ (hw _ (List.mem_of_getElem? (i := 64) rfl))) (by decide) (backOf (W := 0) (rm10 l Z ag hw [] a0 b kb (1 : Int32) [(.int u)] (0 : Int32) cs T95.heap n0 sz122 x107 x108 x109 x110 x111 S_cs hcs) hZ (hw _ (List.mem_of_getElem? (i := 66) rfl)) (hw _ (List.mem_of_getElem? (i := 13) rfl)) (by decide) (by decide)) q161a q161c (g := (mkF m 20 #[.val (.ref a0), .val (.ref r95), .val (.int 8), .val (.int 5), .val (.ref c5)] [(.ref a0)])) rfl (by rw [hml]; rfl) (Steps.refl _) (argsL := []) (rest := []) (lenOf pd_1 rfl) rfl (by show 2 * 0 + _ ≤ _; exact Nat.le_of_eq rfl) (hb hby d8_20) (fun _ _ => ⟨rfl, e157, (by decide : 1 + 0 ≤ _), (by decide : 8 + 0 ≤ _)⟩)
            dsimp only [Pt.U, Pt.locs, Pt.cells, Pt.slots] at X161 l161 y161 z161 st161 hQ161
            subst l161 y161 z161
            obtain ⟨rfl, N161q, e161⟩ := hQ161
            have N161 := Fr.app N156 N161q
            have cp162 : ∀ target, own_S p e below T161 (mkF m 29 #[.val (.ref a0), .val (.ref r95), .val (.int 8), .val (.int 5), .val (.ref c5)] [.int 0, (.ref a0)]) target → own_S p e below s₁ (mkF m 0 #[.val (.ref a0), .unset, .unset, .unset, .unset] []) target := by
              intro target kt
              show own_S p e below s₁ (mkF m 0 #[.val (.ref a0), .unset, .unset, .unset, .unset] []) _
              refine cp159 _ ?_
              show own_S p e below T157 (mkF m 37 #[.val (.ref a0), .val (.ref r95), .val (.int 8), .val (.int 4), .val (.ref c4)] [.int 73, (.int (nar .char (nar .char ((u &&& (255 : Int32)).toUInt32.toUInt16.toUInt32.toInt32))))]) _
              refine XS.icmpYes X157.here hx rfl (pc0 := 37) (pc' := 43) rfl (hb hby d8_37) rfl (feq hc158).2 (by decide) (by decide) ?_
              show own_S p e below T157 (mkF m 43 #[.val (.ref a0), .val (.ref r95), .val (.int 8), .val (.int 4), .val (.ref c4)] []) _
              refine XS.iinc X157.here hx rfl (hb hby d8_43) rfl (l' := #[.val (.ref a0), .val (.ref r95), .val (.int 8), .val (.int 5), .val (.ref c4)]) rfl ?_
              show own_S p e below T157 (mkF m 46 #[.val (.ref a0), .val (.ref r95), .val (.int 8), .val (.int 5), .val (.ref c4)] []) _
              refine XS.goto X157.here hx rfl (pc0 := 46) (pc' := 9) rfl (hb hby d8_46) (by decide) (by decide) ?_
              show own_S p e below T157 (mkF m 9 #[.val (.ref a0), .val (.ref r95), .val (.int 8), .val (.int 5), .val (.ref c4)] []) _
              refine XS.iloadN X157.here hx rfl (hb hby d8_9) rfl ?_
              show own_S p e below T157 (mkF m 10 #[.val (.ref a0), .val (.ref r95), .val (.int 8), .val (.int 5), .val (.ref c4)] [.int 5]) _
              refine XS.iloadN X157.here hx rfl (hb hby d8_10) rfl ?_
              show own_S p e below T157 (mkF m 11 #[.val (.ref a0), .val (.ref r95), .val (.int 8), .val (.int 5), .val (.ref c4)] [.int 8, .int 5]) _
              refine XS.icmpNo X157.here hx rfl (hb hby d8_11) rfl (tlt (by decide : (5 : Int32) < (8 : Int32))).2.1 ?_
              show own_S p e below T157 (mkF m 14 #[.val (.ref a0), .val (.ref r95), .val (.int 8), .val (.int 5), .val (.ref c4)] []) _
              refine XS.aloadN X157.here hx rfl (hb hby d8_14) rfl rfl ?_
              show own_S p e below T157 (mkF m 15 #[.val (.ref a0), .val (.ref r95), .val (.int 8), .val (.int 5), .val (.ref c4)] [(.ref r95)]) _
              refine XS.iloadN X157.here hx rfl (hb hby d8_15) rfl ?_
              show own_S p e below T157 (mkF m 16 #[.val (.ref a0), .val (.ref r95), .val (.int 8), .val (.int 5), .val (.ref c4)] [.int 5, (.ref r95)]) _
              refine ld160 _ ?_
              show own_S p e below T157 (mkF m 17 #[.val (.ref a0), .val (.ref r95), .val (.int 8), .val (.int 5), .val (.ref c4)] [(.ref c5)]) _
              refine XS.astore X157.here hx rfl (hb hby d8_17) rfl rfl (l' := #[.val (.ref a0), .val (.ref r95), .val (.int 8), .val (.int 5), .val (.ref c5)]) rfl ?_
              show own_S p e below T157 (mkF m 19 #[.val (.ref a0), .val (.ref r95), .val (.int 8), .val (.int 5), .val (.ref c5)] []) _
              refine XS.aloadN X157.here hx rfl (hb hby d8_19) rfl rfl ?_
              show own_S p e below T157 (mkF m 20 #[.val (.ref a0), .val (.ref r95), .val (.int 8), .val (.int 5), .val (.ref c5)] [(.ref a0)]) _
              refine st161.trans ?_
              show own_S p e below T161 (mkF m 23 #[.val (.ref a0), .val (.ref r95), .val (.int 8), .val (.int 5), .val (.ref c5)] [(.int ((1 : Int32) >>> ((nar .byte (0 : Int32)) &&& 31)))]) _
              refine XS.iconst X161.here hx rfl (hb hby d8_23) ?_
              show own_S p e below T161 (mkF m 24 #[.val (.ref a0), .val (.ref r95), .val (.int 8), .val (.int 5), .val (.ref c5)] [.int 1, (.int ((1 : Int32) >>> ((nar .byte (0 : Int32)) &&& 31)))]) _
              refine XS.icmpNo X161.here hx rfl (hb hby d8_24) rfl (teq (show ((1 : Int32) >>> ((nar .byte (0 : Int32)) &&& 31)) = (1 : Int32) from (by decide))).2 ?_
              show own_S p e below T161 (mkF m 27 #[.val (.ref a0), .val (.ref r95), .val (.int 8), .val (.int 5), .val (.ref c5)] []) _
              refine XS.aloadN X161.here hx rfl (hb hby d8_27) rfl rfl ?_
              show own_S p e below T161 (mkF m 28 #[.val (.ref a0), .val (.ref r95), .val (.int 8), .val (.int 5), .val (.ref c5)] [(.ref a0)]) _
              refine XS.iconst X161.here hx rfl (hb hby d8_28) ?_
              exact kt
            obtain ⟨cq163, kq163, q163a, q163b, q163c⟩ := isOf hZ e161 x107
            obtain ⟨_, _, ⟨T163, L163, k163, n163⟩, -, X163, ⟨Lc163, hQ163, l163, y163, z163⟩, st163⟩ := X161.virtualBack hx (y := (⟨"java/lang/String", "charAt", "(I)C"⟩ : MethodName)) (z := (⟨"java/lang/String", "charAt", "(I)C"⟩ : MethodName)) hown (mvT hZ (hw _ (List.mem_of_getElem? (i := 72) rfl))) (mvT hZ (hw _ (List.mem_of_getElem? (i := 73) rfl))) (notFace_of_selects (args := #[]) (mvT hZ (hw _ (List.mem_of_getElem? (i := 75) rfl)))) (mvT hZ (hw _ (List.mem_of_getElem? (i := 75) rfl))) (mvT hZ (hw _ (List.mem_of_getElem? (i := 74) rfl))) (by decide) (backOf (W := 0) (rm12 l Z ag hw [] a0 (0 : Int32) b kb (1 : Int32) [(.int u)] u cs gf T95.heap n0 sz122 x107 x108 x109 x110 (by decide) (by decide) rfl x111 S_cs hcs S_gf rv_gf) hZ (hw _ (List.mem_of_getElem? (i := 76) rfl)) (hw _ (List.mem_of_getElem? (i := 13) rfl)) (by decide) (by decide)) q163a q163c (g := (mkF m 29 #[.val (.ref a0), .val (.ref r95), .val (.int 8), .val (.int 5), .val (.ref c5)] [.int 0, (.ref a0)])) rfl (by rw [hml]; rfl) (Steps.refl _) (argsL := [(.int (0 : Int32))]) (rest := []) (lenOf pd_10 rfl) rfl (by show 2 * 0 + _ ≤ _; exact Nat.le_of_eq rfl) (hb hby d8_29) (fun _ _ => ⟨rfl, e161, (by decide : 1 + 0 ≤ _), (by decide : 8 + 0 ≤ _)⟩)
            dsimp only [Pt.U, Pt.locs, Pt.cells, Pt.slots] at X163 l163 y163 z163 st163 hQ163
            subst l163 y163 z163
            obtain ⟨rfl, N163q, e163⟩ := hQ163
            have N163 := Fr.app N161 N163q
            obtain ⟨T164, X164, e164, st164⟩ := getF X163 hx hZ hown (host := "") (Or.inl (hw _ (List.mem_of_getElem? (i := 93) rfl))) Via.refl e163 x119 (g := (mkF m 34 #[.val (.ref a0), .val (.ref r95), .val (.int 8), .val (.int 5), .val (.ref c5)] [(.ref c5), (.int (nar .char (nar .char ((u &&& (255 : Int32)).toUInt32.toUInt16.toUInt32.toInt32))))])) rfl rfl (hb hby d8_34)
            have cp166 : ∀ target, own_S p e below T164 (mkF m 37 #[.val (.ref a0), .val (.ref r95), .val (.int 8), .val (.int 5), .val (.ref c5)] [.int 74, (.int (nar .char (nar .char ((u &&& (255 : Int32)).toUInt32.toUInt16.toUInt32.toInt32))))]) target → own_S p e below s₁ (mkF m 0 #[.val (.ref a0), .unset, .unset, .unset, .unset] []) target := by
              intro target kt
              show own_S p e below s₁ (mkF m 0 #[.val (.ref a0), .unset, .unset, .unset, .unset] []) _
              refine cp162 _ ?_
              show own_S p e below T161 (mkF m 29 #[.val (.ref a0), .val (.ref r95), .val (.int 8), .val (.int 5), .val (.ref c5)] [.int 0, (.ref a0)]) _
              refine st163.trans ?_
              show own_S p e below T163 (mkF m 32 #[.val (.ref a0), .val (.ref r95), .val (.int 8), .val (.int 5), .val (.ref c5)] [(.int (nar .char (nar .char ((u &&& (255 : Int32)).toUInt32.toUInt16.toUInt32.toInt32))))]) _
              refine XS.aload X163.here hx rfl (hb hby d8_32) rfl rfl ?_
              show own_S p e below T163 (mkF m 34 #[.val (.ref a0), .val (.ref r95), .val (.int 8), .val (.int 5), .val (.ref c5)] [(.ref c5), (.int (nar .char (nar .char ((u &&& (255 : Int32)).toUInt32.toUInt16.toUInt32.toInt32))))]) _
              refine st164 _ ?_
              exact kt
            by_cases hc165 : (nar .char (nar .char ((u &&& (255 : Int32)).toUInt32.toUInt16.toUInt32.toInt32))) = (74 : Int32)
            · obtain ⟨fs, hr, hrun, hended, hW, hsame⟩ := X164.leave (v := some (.ref c5)) (fun h => by rw [Bd.returns] at h; cases h)
              refine ⟨_, _, pre0 _ ?_, hrun, hended, _, _, rfl, ?_, ⟨_, rfl⟩, hW, hsame.mono (by decide) (by decide)⟩
              · show own_S p e below s₁ (mkF m 0 #[.val (.ref a0), .unset, .unset, .unset, .unset] []) _
                refine cp166 _ ?_
                show own_S p e below T164 (mkF m 37 #[.val (.ref a0), .val (.ref r95), .val (.int 8), .val (.int 5), .val (.ref c5)] [.int 74, (.int (nar .char (nar .char ((u &&& (255 : Int32)).toUInt32.toUInt16.toUInt32.toInt32))))]) _
                refine XS.icmpNo X164.here hx rfl (hb hby d8_37) rfl (teq hc165).2 ?_
                show own_S p e below T164 (mkF m 40 #[.val (.ref a0), .val (.ref r95), .val (.int 8), .val (.int 5), .val (.ref c5)] []) _
                refine XS.aload X164.here hx rfl (hb hby d8_40) rfl rfl ?_
                show own_S p e below T164 (mkF m 42 #[.val (.ref a0), .val (.ref r95), .val (.int 8), .val (.int 5), .val (.ref c5)] [(.ref c5)]) _
                exact Jvm.RoadKit.retOut X164 hx Bd.returns rfl (Or.inr (Or.inr (Or.inr (Or.inr ⟨rfl, rfl, rfl⟩)))) (hb hby d8_42) hr
              · show Q8 Z a0 b kb u c0 c1 c2 c3 c4 c5 c6 c7 cs gf va kv h0 n0 _ T164.heap _
                rw [e164]
                exact ⟨c5, rfl, N163, kp123, Or.inr (Or.inr (Or.inr (Or.inr (Or.inr (Or.inl ⟨hc165, rfl⟩)))))⟩
            · obtain ⟨cl167, Ar167, q167, S167, M167, H167, G167⟩ := id Vr95
              have hin167 : ¬ ((6 : Int32) < 0 ∨ cl167.slots.size ≤ ((6 : Int32)).toNatClampNeg) := inb_of S167 ⟨(by decide : ¬ (6 : Int32) < 0), (by decide : (6 : Int32) < (8 : Int32))⟩
              have hat167 : cl167.slots[((6 : Int32)).toNatClampNeg]? = some (.ref c6) := Has.at H167 hin167 rfl
              have ld167 := X164.aaload hx (j := (6 : Int32)) (v := (.ref c6)) (by rw [e164]; exact Ar167.1) (State.isArrayOf_alike hZ.alike Ar167.2.1) rfl Ar167.2.2 hin167 hat167 (g := (mkF m 16 #[.val (.ref a0), .val (.ref r95), .val (.int 8), .val (.int 6), .val (.ref c5)] [.int 6, (.ref r95)])) rfl rfl (hb hby d8_16)
              obtain ⟨cq168, kq168, q168a, q168b, q168c⟩ := isOf hZ e164 x107
              obtain ⟨_, _, ⟨T168, L168, k168, n168⟩, -, X168, ⟨Lc168, hQ168, l168, y168, z168⟩, st168⟩ := X164.virtualBack hx (y := (⟨"java/lang/String", "length", "()I"⟩ : MethodName)) (z := (⟨"java/lang/String", "length", "()I"⟩ : MethodName)) hown (mvT hZ (hw _ (List.mem_of_getElem? (i := 62) rfl))) (mvT hZ (hw _ (List.mem_of_getElem? (i := 63) rfl))) (notFace_of_selects (args := #[]) (mvT hZ (hw _ (List.mem_of_getElem? (i := 65) rfl)))) (mvT hZ (hw _ (List.mem_of_getElem? (i := 65) rfl))) (mvT hZ (hw _ (List.mem_of_getElem? (i := 64) rfl))) (by decide) (backOf (W := 0) (rm10 l Z ag hw [] a0 b kb (1 : Int32) [(.int u)] (0 : Int32) cs T95.heap n0 sz122 x107 x108 x109 x110 x111 S_cs hcs) hZ (hw _ (List.mem_of_getElem? (i := 66) rfl)) (hw _ (List.mem_of_getElem? (i := 13) rfl)) (by decide) (by decide)) q168a q168c (g := (mkF m 20 #[.val (.ref a0), .val (.ref r95), .val (.int 8), .val (.int 6), .val (.ref c6)] [(.ref a0)])) rfl (by rw [hml]; rfl) (Steps.refl _) (argsL := []) (rest := []) (lenOf pd_1 rfl) rfl (by show 2 * 0 + _ ≤ _; exact Nat.le_of_eq rfl) (hb hby d8_20) (fun _ _ => ⟨rfl, e164, (by decide : 1 + 0 ≤ _), (by decide : 8 + 0 ≤ _)⟩)
              dsimp only [Pt.U, Pt.locs, Pt.cells, Pt.slots] at X168 l168 y168 z168 st168 hQ168
              subst l168 y168 z168
              obtain ⟨rfl, N168q, e168⟩ := hQ168
              have N168 := Fr.app N163 N168q
              have cp169 : ∀ target, own_S p e below T168 (mkF m 29 #[.val (.ref a0), .val (.ref r95), .val (.int 8), .val (.int 6), .val (.ref c6)] [.int 0, (.ref a0)]) target → own_S p e below s₁ (mkF m 0 #[.val (.ref a0), .unset, .unset, .unset, .unset] []) target := by
                intro target kt
                show own_S p e below s₁ (mkF m 0 #[.val (.ref a0), .unset, .unset, .unset, .unset] []) _
                refine cp166 _ ?_
                show own_S p e below T164 (mkF m 37 #[.val (.ref a0), .val (.ref r95), .val (.int 8), .val (.int 5), .val (.ref c5)] [.int 74, (.int (nar .char (nar .char ((u &&& (255 : Int32)).toUInt32.toUInt16.toUInt32.toInt32))))]) _
                refine XS.icmpYes X164.here hx rfl (pc0 := 37) (pc' := 43) rfl (hb hby d8_37) rfl (feq hc165).2 (by decide) (by decide) ?_
                show own_S p e below T164 (mkF m 43 #[.val (.ref a0), .val (.ref r95), .val (.int 8), .val (.int 5), .val (.ref c5)] []) _
                refine XS.iinc X164.here hx rfl (hb hby d8_43) rfl (l' := #[.val (.ref a0), .val (.ref r95), .val (.int 8), .val (.int 6), .val (.ref c5)]) rfl ?_
                show own_S p e below T164 (mkF m 46 #[.val (.ref a0), .val (.ref r95), .val (.int 8), .val (.int 6), .val (.ref c5)] []) _
                refine XS.goto X164.here hx rfl (pc0 := 46) (pc' := 9) rfl (hb hby d8_46) (by decide) (by decide) ?_
                show own_S p e below T164 (mkF m 9 #[.val (.ref a0), .val (.ref r95), .val (.int 8), .val (.int 6), .val (.ref c5)] []) _
                refine XS.iloadN X164.here hx rfl (hb hby d8_9) rfl ?_
                show own_S p e below T164 (mkF m 10 #[.val (.ref a0), .val (.ref r95), .val (.int 8), .val (.int 6), .val (.ref c5)] [.int 6]) _
                refine XS.iloadN X164.here hx rfl (hb hby d8_10) rfl ?_
                show own_S p e below T164 (mkF m 11 #[.val (.ref a0), .val (.ref r95), .val (.int 8), .val (.int 6), .val (.ref c5)] [.int 8, .int 6]) _
                refine XS.icmpNo X164.here hx rfl (hb hby d8_11) rfl (tlt (by decide : (6 : Int32) < (8 : Int32))).2.1 ?_
                show own_S p e below T164 (mkF m 14 #[.val (.ref a0), .val (.ref r95), .val (.int 8), .val (.int 6), .val (.ref c5)] []) _
                refine XS.aloadN X164.here hx rfl (hb hby d8_14) rfl rfl ?_
                show own_S p e below T164 (mkF m 15 #[.val (.ref a0), .val (.ref r95), .val (.int 8), .val (.int 6), .val (.ref c5)] [(.ref r95)]) _
                refine XS.iloadN X164.here hx rfl (hb hby d8_15) rfl ?_
                show own_S p e below T164 (mkF m 16 #[.val (.ref a0), .val (.ref r95), .val (.int 8), .val (.int 6), .val (.ref c5)] [.int 6, (.ref r95)]) _
                refine ld167 _ ?_
                show own_S p e below T164 (mkF m 17 #[.val (.ref a0), .val (.ref r95), .val (.int 8), .val (.int 6), .val (.ref c5)] [(.ref c6)]) _
                refine XS.astore X164.here hx rfl (hb hby d8_17) rfl rfl (l' := #[.val (.ref a0), .val (.ref r95), .val (.int 8), .val (.int 6), .val (.ref c6)]) rfl ?_
                show own_S p e below T164 (mkF m 19 #[.val (.ref a0), .val (.ref r95), .val (.int 8), .val (.int 6), .val (.ref c6)] []) _
                refine XS.aloadN X164.here hx rfl (hb hby d8_19) rfl rfl ?_
                show own_S p e below T164 (mkF m 20 #[.val (.ref a0), .val (.ref r95), .val (.int 8), .val (.int 6), .val (.ref c6)] [(.ref a0)]) _
                refine st168.trans ?_
                show own_S p e below T168 (mkF m 23 #[.val (.ref a0), .val (.ref r95), .val (.int 8), .val (.int 6), .val (.ref c6)] [(.int ((1 : Int32) >>> ((nar .byte (0 : Int32)) &&& 31)))]) _
                refine XS.iconst X168.here hx rfl (hb hby d8_23) ?_
                show own_S p e below T168 (mkF m 24 #[.val (.ref a0), .val (.ref r95), .val (.int 8), .val (.int 6), .val (.ref c6)] [.int 1, (.int ((1 : Int32) >>> ((nar .byte (0 : Int32)) &&& 31)))]) _
                refine XS.icmpNo X168.here hx rfl (hb hby d8_24) rfl (teq (show ((1 : Int32) >>> ((nar .byte (0 : Int32)) &&& 31)) = (1 : Int32) from (by decide))).2 ?_
                show own_S p e below T168 (mkF m 27 #[.val (.ref a0), .val (.ref r95), .val (.int 8), .val (.int 6), .val (.ref c6)] []) _
                refine XS.aloadN X168.here hx rfl (hb hby d8_27) rfl rfl ?_
                show own_S p e below T168 (mkF m 28 #[.val (.ref a0), .val (.ref r95), .val (.int 8), .val (.int 6), .val (.ref c6)] [(.ref a0)]) _
                refine XS.iconst X168.here hx rfl (hb hby d8_28) ?_
                exact kt
              obtain ⟨cq170, kq170, q170a, q170b, q170c⟩ := isOf hZ e168 x107
              obtain ⟨_, _, ⟨T170, L170, k170, n170⟩, -, X170, ⟨Lc170, hQ170, l170, y170, z170⟩, st170⟩ := X168.virtualBack hx (y := (⟨"java/lang/String", "charAt", "(I)C"⟩ : MethodName)) (z := (⟨"java/lang/String", "charAt", "(I)C"⟩ : MethodName)) hown (mvT hZ (hw _ (List.mem_of_getElem? (i := 72) rfl))) (mvT hZ (hw _ (List.mem_of_getElem? (i := 73) rfl))) (notFace_of_selects (args := #[]) (mvT hZ (hw _ (List.mem_of_getElem? (i := 75) rfl)))) (mvT hZ (hw _ (List.mem_of_getElem? (i := 75) rfl))) (mvT hZ (hw _ (List.mem_of_getElem? (i := 74) rfl))) (by decide) (backOf (W := 0) (rm12 l Z ag hw [] a0 (0 : Int32) b kb (1 : Int32) [(.int u)] u cs gf T95.heap n0 sz122 x107 x108 x109 x110 (by decide) (by decide) rfl x111 S_cs hcs S_gf rv_gf) hZ (hw _ (List.mem_of_getElem? (i := 76) rfl)) (hw _ (List.mem_of_getElem? (i := 13) rfl)) (by decide) (by decide)) q170a q170c (g := (mkF m 29 #[.val (.ref a0), .val (.ref r95), .val (.int 8), .val (.int 6), .val (.ref c6)] [.int 0, (.ref a0)])) rfl (by rw [hml]; rfl) (Steps.refl _) (argsL := [(.int (0 : Int32))]) (rest := []) (lenOf pd_10 rfl) rfl (by show 2 * 0 + _ ≤ _; exact Nat.le_of_eq rfl) (hb hby d8_29) (fun _ _ => ⟨rfl, e168, (by decide : 1 + 0 ≤ _), (by decide : 8 + 0 ≤ _)⟩)
              dsimp only [Pt.U, Pt.locs, Pt.cells, Pt.slots] at X170 l170 y170 z170 st170 hQ170
              subst l170 y170 z170
              obtain ⟨rfl, N170q, e170⟩ := hQ170
              have N170 := Fr.app N168 N170q
              obtain ⟨T171, X171, e171, st171⟩ := getF X170 hx hZ hown (host := "") (Or.inl (hw _ (List.mem_of_getElem? (i := 93) rfl))) Via.refl e170 x120 (g := (mkF m 34 #[.val (.ref a0), .val (.ref r95), .val (.int 8), .val (.int 6), .val (.ref c6)] [(.ref c6), (.int (nar .char (nar .char ((u &&& (255 : Int32)).toUInt32.toUInt16.toUInt32.toInt32))))])) rfl rfl (hb hby d8_34)
              have cp173 : ∀ target, own_S p e below T171 (mkF m 37 #[.val (.ref a0), .val (.ref r95), .val (.int 8), .val (.int 6), .val (.ref c6)] [.int 70, (.int (nar .char (nar .char ((u &&& (255 : Int32)).toUInt32.toUInt16.toUInt32.toInt32))))]) target → own_S p e below s₁ (mkF m 0 #[.val (.ref a0), .unset, .unset, .unset, .unset] []) target := by
                intro target kt
                show own_S p e below s₁ (mkF m 0 #[.val (.ref a0), .unset, .unset, .unset, .unset] []) _
                refine cp169 _ ?_
                show own_S p e below T168 (mkF m 29 #[.val (.ref a0), .val (.ref r95), .val (.int 8), .val (.int 6), .val (.ref c6)] [.int 0, (.ref a0)]) _
                refine st170.trans ?_
                show own_S p e below T170 (mkF m 32 #[.val (.ref a0), .val (.ref r95), .val (.int 8), .val (.int 6), .val (.ref c6)] [(.int (nar .char (nar .char ((u &&& (255 : Int32)).toUInt32.toUInt16.toUInt32.toInt32))))]) _
                refine XS.aload X170.here hx rfl (hb hby d8_32) rfl rfl ?_
                show own_S p e below T170 (mkF m 34 #[.val (.ref a0), .val (.ref r95), .val (.int 8), .val (.int 6), .val (.ref c6)] [(.ref c6), (.int (nar .char (nar .char ((u &&& (255 : Int32)).toUInt32.toUInt16.toUInt32.toInt32))))]) _
                refine st171 _ ?_
                exact kt
              by_cases hc172 : (nar .char (nar .char ((u &&& (255 : Int32)).toUInt32.toUInt16.toUInt32.toInt32))) = (70 : Int32)
              · obtain ⟨fs, hr, hrun, hended, hW, hsame⟩ := X171.leave (v := some (.ref c6)) (fun h => by rw [Bd.returns] at h; cases h)
                refine ⟨_, _, pre0 _ ?_, hrun, hended, _, _, rfl, ?_, ⟨_, rfl⟩, hW, hsame.mono (by decide) (by decide)⟩
                · show own_S p e below s₁ (mkF m 0 #[.val (.ref a0), .unset, .unset, .unset, .unset] []) _
                  refine cp173 _ ?_
                  show own_S p e below T171 (mkF m 37 #[.val (.ref a0), .val (.ref r95), .val (.int 8), .val (.int 6), .val (.ref c6)] [.int 70, (.int (nar .char (nar .char ((u &&& (255 : Int32)).toUInt32.toUInt16.toUInt32.toInt32))))]) _
                  refine XS.icmpNo X171.here hx rfl (hb hby d8_37) rfl (teq hc172).2 ?_
                  show own_S p e below T171 (mkF m 40 #[.val (.ref a0), .val (.ref r95), .val (.int 8), .val (.int 6), .val (.ref c6)] []) _
                  refine XS.aload X171.here hx rfl (hb hby d8_40) rfl rfl ?_
                  show own_S p e below T171 (mkF m 42 #[.val (.ref a0), .val (.ref r95), .val (.int 8), .val (.int 6), .val (.ref c6)] [(.ref c6)]) _
                  exact Jvm.RoadKit.retOut X171 hx Bd.returns rfl (Or.inr (Or.inr (Or.inr (Or.inr ⟨rfl, rfl, rfl⟩)))) (hb hby d8_42) hr
                · show Q8 Z a0 b kb u c0 c1 c2 c3 c4 c5 c6 c7 cs gf va kv h0 n0 _ T171.heap _
                  rw [e171]
                  exact ⟨c6, rfl, N170, kp123, Or.inr (Or.inr (Or.inr (Or.inr (Or.inr (Or.inr (Or.inl ⟨hc172, rfl⟩))))))⟩
              · obtain ⟨cl174, Ar174, q174, S174, M174, H174, G174⟩ := id Vr95
                have hin174 : ¬ ((7 : Int32) < 0 ∨ cl174.slots.size ≤ ((7 : Int32)).toNatClampNeg) := inb_of S174 ⟨(by decide : ¬ (7 : Int32) < 0), (by decide : (7 : Int32) < (8 : Int32))⟩
                have hat174 : cl174.slots[((7 : Int32)).toNatClampNeg]? = some (.ref c7) := Has.at H174 hin174 rfl
                have ld174 := X171.aaload hx (j := (7 : Int32)) (v := (.ref c7)) (by rw [e171]; exact Ar174.1) (State.isArrayOf_alike hZ.alike Ar174.2.1) rfl Ar174.2.2 hin174 hat174 (g := (mkF m 16 #[.val (.ref a0), .val (.ref r95), .val (.int 8), .val (.int 7), .val (.ref c6)] [.int 7, (.ref r95)])) rfl rfl (hb hby d8_16)
                obtain ⟨cq175, kq175, q175a, q175b, q175c⟩ := isOf hZ e171 x107
                obtain ⟨_, _, ⟨T175, L175, k175, n175⟩, -, X175, ⟨Lc175, hQ175, l175, y175, z175⟩, st175⟩ := X171.virtualBack hx (y := (⟨"java/lang/String", "length", "()I"⟩ : MethodName)) (z := (⟨"java/lang/String", "length", "()I"⟩ : MethodName)) hown (mvT hZ (hw _ (List.mem_of_getElem? (i := 62) rfl))) (mvT hZ (hw _ (List.mem_of_getElem? (i := 63) rfl))) (notFace_of_selects (args := #[]) (mvT hZ (hw _ (List.mem_of_getElem? (i := 65) rfl)))) (mvT hZ (hw _ (List.mem_of_getElem? (i := 65) rfl))) (mvT hZ (hw _ (List.mem_of_getElem? (i := 64) rfl))) (by decide) (backOf (W := 0) (rm10 l Z ag hw [] a0 b kb (1 : Int32) [(.int u)] (0 : Int32) cs T95.heap n0 sz122 x107 x108 x109 x110 x111 S_cs hcs) hZ (hw _ (List.mem_of_getElem? (i := 66) rfl)) (hw _ (List.mem_of_getElem? (i := 13) rfl)) (by decide) (by decide)) q175a q175c (g := (mkF m 20 #[.val (.ref a0), .val (.ref r95), .val (.int 8), .val (.int 7), .val (.ref c7)] [(.ref a0)])) rfl (by rw [hml]; rfl) (Steps.refl _) (argsL := []) (rest := []) (lenOf pd_1 rfl) rfl (by show 2 * 0 + _ ≤ _; exact Nat.le_of_eq rfl) (hb hby d8_20) (fun _ _ => ⟨rfl, e171, (by decide : 1 + 0 ≤ _), (by decide : 8 + 0 ≤ _)⟩)
                dsimp only [Pt.U, Pt.locs, Pt.cells, Pt.slots] at X175 l175 y175 z175 st175 hQ175
                subst l175 y175 z175
                obtain ⟨rfl, N175q, e175⟩ := hQ175
                have N175 := Fr.app N170 N175q
                have cp176 : ∀ target, own_S p e below T175 (mkF m 29 #[.val (.ref a0), .val (.ref r95), .val (.int 8), .val (.int 7), .val (.ref c7)] [.int 0, (.ref a0)]) target → own_S p e below s₁ (mkF m 0 #[.val (.ref a0), .unset, .unset, .unset, .unset] []) target := by
                  intro target kt
                  show own_S p e below s₁ (mkF m 0 #[.val (.ref a0), .unset, .unset, .unset, .unset] []) _
                  refine cp173 _ ?_
                  show own_S p e below T171 (mkF m 37 #[.val (.ref a0), .val (.ref r95), .val (.int 8), .val (.int 6), .val (.ref c6)] [.int 70, (.int (nar .char (nar .char ((u &&& (255 : Int32)).toUInt32.toUInt16.toUInt32.toInt32))))]) _
                  refine XS.icmpYes X171.here hx rfl (pc0 := 37) (pc' := 43) rfl (hb hby d8_37) rfl (feq hc172).2 (by decide) (by decide) ?_
                  show own_S p e below T171 (mkF m 43 #[.val (.ref a0), .val (.ref r95), .val (.int 8), .val (.int 6), .val (.ref c6)] []) _
                  refine XS.iinc X171.here hx rfl (hb hby d8_43) rfl (l' := #[.val (.ref a0), .val (.ref r95), .val (.int 8), .val (.int 7), .val (.ref c6)]) rfl ?_
                  show own_S p e below T171 (mkF m 46 #[.val (.ref a0), .val (.ref r95), .val (.int 8), .val (.int 7), .val (.ref c6)] []) _
                  refine XS.goto X171.here hx rfl (pc0 := 46) (pc' := 9) rfl (hb hby d8_46) (by decide) (by decide) ?_
                  show own_S p e below T171 (mkF m 9 #[.val (.ref a0), .val (.ref r95), .val (.int 8), .val (.int 7), .val (.ref c6)] []) _
                  refine XS.iloadN X171.here hx rfl (hb hby d8_9) rfl ?_
                  show own_S p e below T171 (mkF m 10 #[.val (.ref a0), .val (.ref r95), .val (.int 8), .val (.int 7), .val (.ref c6)] [.int 7]) _
                  refine XS.iloadN X171.here hx rfl (hb hby d8_10) rfl ?_
                  show own_S p e below T171 (mkF m 11 #[.val (.ref a0), .val (.ref r95), .val (.int 8), .val (.int 7), .val (.ref c6)] [.int 8, .int 7]) _
                  refine XS.icmpNo X171.here hx rfl (hb hby d8_11) rfl (tlt (by decide : (7 : Int32) < (8 : Int32))).2.1 ?_
                  show own_S p e below T171 (mkF m 14 #[.val (.ref a0), .val (.ref r95), .val (.int 8), .val (.int 7), .val (.ref c6)] []) _
                  refine XS.aloadN X171.here hx rfl (hb hby d8_14) rfl rfl ?_
                  show own_S p e below T171 (mkF m 15 #[.val (.ref a0), .val (.ref r95), .val (.int 8), .val (.int 7), .val (.ref c6)] [(.ref r95)]) _
                  refine XS.iloadN X171.here hx rfl (hb hby d8_15) rfl ?_
                  show own_S p e below T171 (mkF m 16 #[.val (.ref a0), .val (.ref r95), .val (.int 8), .val (.int 7), .val (.ref c6)] [.int 7, (.ref r95)]) _
                  refine ld174 _ ?_
                  show own_S p e below T171 (mkF m 17 #[.val (.ref a0), .val (.ref r95), .val (.int 8), .val (.int 7), .val (.ref c6)] [(.ref c7)]) _
                  refine XS.astore X171.here hx rfl (hb hby d8_17) rfl rfl (l' := #[.val (.ref a0), .val (.ref r95), .val (.int 8), .val (.int 7), .val (.ref c7)]) rfl ?_
                  show own_S p e below T171 (mkF m 19 #[.val (.ref a0), .val (.ref r95), .val (.int 8), .val (.int 7), .val (.ref c7)] []) _
                  refine XS.aloadN X171.here hx rfl (hb hby d8_19) rfl rfl ?_
                  show own_S p e below T171 (mkF m 20 #[.val (.ref a0), .val (.ref r95), .val (.int 8), .val (.int 7), .val (.ref c7)] [(.ref a0)]) _
                  refine st175.trans ?_
                  show own_S p e below T175 (mkF m 23 #[.val (.ref a0), .val (.ref r95), .val (.int 8), .val (.int 7), .val (.ref c7)] [(.int ((1 : Int32) >>> ((nar .byte (0 : Int32)) &&& 31)))]) _
                  refine XS.iconst X175.here hx rfl (hb hby d8_23) ?_
                  show own_S p e below T175 (mkF m 24 #[.val (.ref a0), .val (.ref r95), .val (.int 8), .val (.int 7), .val (.ref c7)] [.int 1, (.int ((1 : Int32) >>> ((nar .byte (0 : Int32)) &&& 31)))]) _
                  refine XS.icmpNo X175.here hx rfl (hb hby d8_24) rfl (teq (show ((1 : Int32) >>> ((nar .byte (0 : Int32)) &&& 31)) = (1 : Int32) from (by decide))).2 ?_
                  show own_S p e below T175 (mkF m 27 #[.val (.ref a0), .val (.ref r95), .val (.int 8), .val (.int 7), .val (.ref c7)] []) _
                  refine XS.aloadN X175.here hx rfl (hb hby d8_27) rfl rfl ?_
                  show own_S p e below T175 (mkF m 28 #[.val (.ref a0), .val (.ref r95), .val (.int 8), .val (.int 7), .val (.ref c7)] [(.ref a0)]) _
                  refine XS.iconst X175.here hx rfl (hb hby d8_28) ?_
                  exact kt
                obtain ⟨cq177, kq177, q177a, q177b, q177c⟩ := isOf hZ e175 x107
                obtain ⟨_, _, ⟨T177, L177, k177, n177⟩, -, X177, ⟨Lc177, hQ177, l177, y177, z177⟩, st177⟩ := X175.virtualBack hx (y := (⟨"java/lang/String", "charAt", "(I)C"⟩ : MethodName)) (z := (⟨"java/lang/String", "charAt", "(I)C"⟩ : MethodName)) hown (mvT hZ (hw _ (List.mem_of_getElem? (i := 72) rfl))) (mvT hZ (hw _ (List.mem_of_getElem? (i := 73) rfl))) (notFace_of_selects (args := #[]) (mvT hZ (hw _ (List.mem_of_getElem? (i := 75) rfl)))) (mvT hZ (hw _ (List.mem_of_getElem? (i := 75) rfl))) (mvT hZ (hw _ (List.mem_of_getElem? (i := 74) rfl))) (by decide) (backOf (W := 0) (rm12 l Z ag hw [] a0 (0 : Int32) b kb (1 : Int32) [(.int u)] u cs gf T95.heap n0 sz122 x107 x108 x109 x110 (by decide) (by decide) rfl x111 S_cs hcs S_gf rv_gf) hZ (hw _ (List.mem_of_getElem? (i := 76) rfl)) (hw _ (List.mem_of_getElem? (i := 13) rfl)) (by decide) (by decide)) q177a q177c (g := (mkF m 29 #[.val (.ref a0), .val (.ref r95), .val (.int 8), .val (.int 7), .val (.ref c7)] [.int 0, (.ref a0)])) rfl (by rw [hml]; rfl) (Steps.refl _) (argsL := [(.int (0 : Int32))]) (rest := []) (lenOf pd_10 rfl) rfl (by show 2 * 0 + _ ≤ _; exact Nat.le_of_eq rfl) (hb hby d8_29) (fun _ _ => ⟨rfl, e175, (by decide : 1 + 0 ≤ _), (by decide : 8 + 0 ≤ _)⟩)
                dsimp only [Pt.U, Pt.locs, Pt.cells, Pt.slots] at X177 l177 y177 z177 st177 hQ177
                subst l177 y177 z177
                obtain ⟨rfl, N177q, e177⟩ := hQ177
                have N177 := Fr.app N175 N177q
                obtain ⟨T178, X178, e178, st178⟩ := getF X177 hx hZ hown (host := "") (Or.inl (hw _ (List.mem_of_getElem? (i := 93) rfl))) Via.refl e177 x121 (g := (mkF m 34 #[.val (.ref a0), .val (.ref r95), .val (.int 8), .val (.int 7), .val (.ref c7)] [(.ref c7), (.int (nar .char (nar .char ((u &&& (255 : Int32)).toUInt32.toUInt16.toUInt32.toInt32))))])) rfl rfl (hb hby d8_34)
                obtain ⟨fs, hr, hrun, hended, hW, hsame⟩ := X178.leave (v := some (.ref c7)) (fun h => by rw [Bd.returns] at h; cases h)
                refine ⟨_, _, pre0 _ ?_, hrun, hended, _, _, rfl, ?_, ⟨_, rfl⟩, hW, hsame.mono (by decide) (by decide)⟩
                · show own_S p e below s₁ (mkF m 0 #[.val (.ref a0), .unset, .unset, .unset, .unset] []) _
                  refine cp176 _ ?_
                  show own_S p e below T175 (mkF m 29 #[.val (.ref a0), .val (.ref r95), .val (.int 8), .val (.int 7), .val (.ref c7)] [.int 0, (.ref a0)]) _
                  refine st177.trans ?_
                  show own_S p e below T177 (mkF m 32 #[.val (.ref a0), .val (.ref r95), .val (.int 8), .val (.int 7), .val (.ref c7)] [(.int (nar .char (nar .char ((u &&& (255 : Int32)).toUInt32.toUInt16.toUInt32.toInt32))))]) _
                  refine XS.aload X177.here hx rfl (hb hby d8_32) rfl rfl ?_
                  show own_S p e below T177 (mkF m 34 #[.val (.ref a0), .val (.ref r95), .val (.int 8), .val (.int 7), .val (.ref c7)] [(.ref c7), (.int (nar .char (nar .char ((u &&& (255 : Int32)).toUInt32.toUInt16.toUInt32.toInt32))))]) _
                  refine st178 _ ?_
                  show own_S p e below T178 (mkF m 37 #[.val (.ref a0), .val (.ref r95), .val (.int 8), .val (.int 7), .val (.ref c7)] [.int 68, (.int (nar .char (nar .char ((u &&& (255 : Int32)).toUInt32.toUInt16.toUInt32.toInt32))))]) _
                  refine XS.icmpNo X178.here hx rfl (hb hby d8_37) rfl (teq (show (nar .char (nar .char ((u &&& (255 : Int32)).toUInt32.toUInt16.toUInt32.toInt32))) = (68 : Int32) from (own_last his hc130 hc137 hc144 hc151 hc158 hc165 hc172))).2 ?_
                  show own_S p e below T178 (mkF m 40 #[.val (.ref a0), .val (.ref r95), .val (.int 8), .val (.int 7), .val (.ref c7)] []) _
                  refine XS.aload X178.here hx rfl (hb hby d8_40) rfl rfl ?_
                  show own_S p e below T178 (mkF m 42 #[.val (.ref a0), .val (.ref r95), .val (.int 8), .val (.int 7), .val (.ref c7)] [(.ref c7)]) _
                  exact Jvm.RoadKit.retOut X178 hx Bd.returns rfl (Or.inr (Or.inr (Or.inr (Or.inr ⟨rfl, rfl, rfl⟩)))) (hb hby d8_42) hr
                · show Q8 Z a0 b kb u c0 c1 c2 c3 c4 c5 c6 c7 cs gf va kv h0 n0 _ T178.heap _
                  rw [e178]
                  exact ⟨c7, rfl, N177, kp123, Or.inr (Or.inr (Or.inr (Or.inr (Or.inr (Or.inr (Or.inr (⟨(own_last his hc130 hc137 hc144 hc151 hc158 hc165 hc172), rfl⟩)))))))⟩
theorem own_eq_int {t : Term} {k : Int32} {args : Array Value} {s : State} (h : (Jvm.Cond.eq t (.int k)).value args s none s [] = some true) : t.eval args s none [] s = some (.int k) := by
  obtain ⟨x, y, hx, hy, k1, k2⟩ := cmp_v (Or.inl h)
  have e : y = .int k := Option.some.inj (hy.symm.trans (Term.int_eval k))
  subst e
  obtain ⟨z, rfl⟩ := k2
  have q := gotT (Cond.eq_ints hx (Term.int_eval k)) h
  rw [hx, q]
theorem own_eq_ref {t t' : Term} {b : Addr} {args : Array Value} {s : State} (h : (Jvm.Cond.eq t t').value args s none s [] = some true) (e : t'.eval args s none [] s = some (.ref b)) : t.eval args s none [] s = some (.ref b) := by
  obtain ⟨x, y, hx, hy, k1, k2⟩ := cmp_v (Or.inl h)
  have q : y = .ref b := Option.some.inj (hy.symm.trans e)
  subst q
  have r := gotT (eq_R hx hy k2.2 rfl) h
  rw [hx, r]
theorem own_len {t : Term} {a : Addr} {cl : Cell} {args : Array Value} {s : State} {k : Int32} (ht : t.eval args s none [] s = some (.ref a)) (ha : s.arrayAt? a = some cl) (h : (Term.length t).eval args s none [] s = some (.int k)) : cl.slots.size < 2 ^ 31 ∧ cl.slots.size.toInt32 = k := by
  by_cases q : cl.slots.size < 2 ^ 31
  · rw [len_f ht ha q] at h; exact ⟨q, by injection (Option.some.inj h)⟩
  · exfalso; simp [Term.eval, ht, ha, q] at h
theorem own_lat {c : Int32} (h : own_is c) : own_canenc c = 1 := by rcases h with rfl | rfl | rfl | rfl | rfl | rfl | rfl | rfl <;> decide
theorem own_back {c : Int32} (h : own_is c) : (nar .char (nar .char (((nar .byte (c.toInt8.toInt32)) &&& (255 : Int32)).toUInt32.toUInt16.toUInt32.toInt32))) = c := by rcases h with rfl | rfl | rfl | rfl | rfl | rfl | rfl | rfl <;> decide
theorem ef_0 (m : MethodId) (p0 : Int32) (p1 : Int32) : entryFrame m #[(.int p0), (.int p1)] maxLocals = mkF m 0 #[.val (.int p0), .val (.int p1), .unset, .unset, .unset] [] := by first | (simp [entryFrame, mkF, argsToLocals, Value.category, maxLocals]; done) | rfl
abbrev own_loc1 (p0 : Int32) (p1 : Int32) : Array Slot := #[.val (.int p0), .val (.int p1), .val (.int ((p0 &&& (65535 : Int32)).toUInt32.toUInt16.toUInt32.toInt32)), .unset, .unset]
theorem pd_6 : parseMethodDescriptor "(C)Lcom/example/chipmantle/chipmantle/Primitive;" = some ⟨[.char], some (.object "com/example/chipmantle/chipmantle/Primitive")⟩ := by decide +kernel
theorem pd_7 : parseMethodDescriptor "(C)Ljava/lang/String;" = some ⟨[.char], some (.object "java/lang/String")⟩ := by decide +kernel
theorem pd_13 : parseMethodDescriptor "(Ljava/lang/String;)Lcom/example/chipmantle/chipmantle/Primitive;" = some ⟨[(.object "java/lang/String")], some (.object "com/example/chipmantle/chipmantle/Primitive")⟩ := by decide +kernel
def Q0 (n0 : Nat) (v : Option Value) (h : Heap) (L : List Loc) : Prop := v = some (.int 1) ∧ Fr n0 L
set_option maxRecDepth 65536 in
set_option maxHeartbeats 40000000 in
theorem rm0 (l : Launch) (Z : State) (ag : Array Value) (hw : ∀ d ∈ tables_1, d.before ag Z = true) (ws : List Jvm.Cond) (p0 : Int32) (p1 : Int32) (cs : Int32) (gf : Value) (c0 : Addr) (c1 : Addr) (c2 : Addr) (c3 : Addr) (c4 : Addr) (c5 : Addr) (c6 : Addr) (c7 : Addr) (va : Addr) (kv : ClassId) (h0 : Heap) (n0 : Nat) (Z0 : n0 ≤ h0.size) (O_ : Old Z n0 h0) (S_cs : Sta Z Z.heap "java/lang/String" "COMPACT_STRINGS" "Z" (.int cs)) (hcs : ¬ cs = (0 : Int32)) (S_gf : Sta Z Z.heap "jdk/internal/util/Preconditions" "SIOOBE_FORMATTER" "Ljava/util/function/BiFunction;" gf) (rv_gf : gf.isRef = true) (S_c0 : Sta Z Z.heap "com/example/chipmantle/chipmantle/Primitive" "BOOLEAN" "Lcom/example/chipmantle/chipmantle/Primitive;" (.ref c0)) (S_c1 : Sta Z Z.heap "com/example/chipmantle/chipmantle/Primitive" "BYTE" "Lcom/example/chipmantle/chipmantle/Primitive;" (.ref c1)) (S_c2 : Sta Z Z.heap "com/example/chipmantle/chipmantle/Primitive" "CHAR" "Lcom/example/chipmantle/chipmantle/Primitive;" (.ref c2)) (S_c3 : Sta Z Z.heap "com/example/chipmantle/chipmantle/Primitive" "SHORT" "Lcom/example/chipmantle/chipmantle/Primitive;" (.ref c3)) (S_c4 : Sta Z Z.heap "com/example/chipmantle/chipmantle/Primitive" "INT" "Lcom/example/chipmantle/chipmantle/Primitive;" (.ref c4)) (S_c5 : Sta Z Z.heap "com/example/chipmantle/chipmantle/Primitive" "LONG" "Lcom/example/chipmantle/chipmantle/Primitive;" (.ref c5)) (S_c6 : Sta Z Z.heap "com/example/chipmantle/chipmantle/Primitive" "FLOAT" "Lcom/example/chipmantle/chipmantle/Primitive;" (.ref c6)) (S_c7 : Sta Z Z.heap "com/example/chipmantle/chipmantle/Primitive" "DOUBLE" "Lcom/example/chipmantle/chipmantle/Primitive;" (.ref c7)) (S_va : Sta Z Z.heap "com/example/chipmantle/chipmantle/Primitive" "$VALUES" "[Lcom/example/chipmantle/chipmantle/Primitive;" (.ref va)) (V_va : Arv Z h0 va kv (.object "com/example/chipmantle/chipmantle/Primitive") (8 : Int32) [(.ref c0), (.ref c1), (.ref c2), (.ref c3), (.ref c4), (.ref c5), (.ref c6), (.ref c7)] .null) (E_va : Exa Z h0 va "[Lcom/example/chipmantle/chipmantle/Primitive;") (F_descriptor_c0 : Fld Z h0 c0 "com/example/chipmantle/chipmantle/Primitive" "descriptor" "C" (.int (90 : Int32))) (F_descriptor_c1 : Fld Z h0 c1 "com/example/chipmantle/chipmantle/Primitive" "descriptor" "C" (.int (66 : Int32))) (F_descriptor_c2 : Fld Z h0 c2 "com/example/chipmantle/chipmantle/Primitive" "descriptor" "C" (.int (67 : Int32))) (F_descriptor_c3 : Fld Z h0 c3 "com/example/chipmantle/chipmantle/Primitive" "descriptor" "C" (.int (83 : Int32))) (F_descriptor_c4 : Fld Z h0 c4 "com/example/chipmantle/chipmantle/Primitive" "descriptor" "C" (.int (73 : Int32))) (F_descriptor_c5 : Fld Z h0 c5 "com/example/chipmantle/chipmantle/Primitive" "descriptor" "C" (.int (74 : Int32))) (F_descriptor_c6 : Fld Z h0 c6 "com/example/chipmantle/chipmantle/Primitive" "descriptor" "C" (.int (70 : Int32))) (F_descriptor_c7 : Fld Z h0 c7 "com/example/chipmantle/chipmantle/Primitive" "descriptor" "C" (.int (68 : Int32))) :
    MetFree l x (head1 (Jvm.Cond.code x code maxLocals ret :: ws) room_1) (fun a U => a = #[(.int p0), (.int p1)] ∧ Z.Warmed39 U.vm ∧ U.heap = h0) (fun _ _ _ _ _ => True) (fun _ U o U' => ∃ v L, o = .returned v ∧ Q0 n0 v U'.heap L ∧ FrameEnd U o U' L 3 13) := by
  refine MetFree.of_bodySF (plainFor_of_name pn_1) hisR ?_
  intro p e s m args below meth c s₁ Bd hml0 hP hK
  obtain ⟨rfl, hZ, hh⟩ := hP
  have hx := Bd.exec
  have hby := Bd.bytes
  have hml : c.maxLocals = 5 := hml0
  have hown : s.vm.findClass "com/example/chipmantle/chipmantle/PrimitiveOfPinLaw" = some m.cls := findClass_of_methodNamed Bd.named
  have hnm := (name_of_methodNamed Bd.named Bd.method).1
  have X0 : Stand p l e room_1 s m #[(.int p0), (.int p1)] below meth c s₁ [] 0 0 := Stand.of_body Bd
  have e0 : s₁.heap = h0 := by rw [← hh, Bd.state]; rfl
  have N0 := Fr.nil n0
  have pre0 : ∀ t, Steps p.tables e below (s₁.setTop (mkF m 0 #[.val (.int p0), .val (.int p1), .unset, .unset, .unset] [])) t → Steps p.tables e below (s₁.setTop (entryFrame m #[(.int p0), (.int p1)] maxLocals)) t := fun t k => castTop (ef_0 m p0 p1) k
  obtain ⟨_, _, ⟨T179, L179, k179, n179⟩, -, X179, ⟨Lc179, hQ179, l179, y179, z179⟩, st179⟩ := Jvm.LawKit.callS X0 hx (y := (⟨"com/example/chipmantle/chipmantle/PrimitiveOfPinLaw", "expected", "(C)Lcom/example/chipmantle/chipmantle/Primitive;"⟩ : MethodName)) hown (mvT hZ (hw _ (List.mem_of_getElem? (i := 1) rfl))) (mvT hZ (hw _ (List.mem_of_getElem? (i := 2) rfl))) (mvT hZ (hw _ (List.mem_of_getElem? (i := 3) rfl))) (mvT hZ (hw _ (List.mem_of_getElem? (i := 4) rfl))) (by decide) (backOf (W := 0) (rm1 l Z ag hw [] ((p0 &&& (65535 : Int32)).toUInt32.toUInt16.toUInt32.toInt32) c0 c1 c2 c3 c4 c5 c6 c7 h0 n0 Z0 O_ S_c0 S_c1 S_c2 S_c3 S_c4 S_c5 S_c6 S_c7) hZ (hw _ (List.mem_of_getElem? (i := 4) rfl)) (hw _ (List.mem_of_getElem? (i := 3) rfl)) (by decide) (by decide)) (g := (mkF m 7 (own_loc1 p0 p1) [(.int ((p0 &&& (65535 : Int32)).toUInt32.toUInt16.toUInt32.toInt32))])) rfl (by rw [hml]; rfl) (argsL := [(.int ((p0 &&& (65535 : Int32)).toUInt32.toUInt16.toUInt32.toInt32))]) (rest := []) (lenOf pd_6 rfl) rfl (by show 2 * 0 + _ ≤ _; exact Nat.le_of_eq rfl) (hb hby at_7) (fun _ _ => ⟨rfl, e0, (by decide : 0 + 0 ≤ _), (by decide : 0 + 0 ≤ _)⟩)
  dsimp only [Pt.U, Pt.locs, Pt.cells, Pt.slots] at X179 l179 y179 z179 st179 hQ179
  subst l179 y179 z179
  rcases hQ179 with q179 | q179
  · obtain ⟨rfl, N179q, e179, hno179⟩ := q179
    have N179 := Fr.app N0 N179q
    obtain ⟨_, _, ⟨T180, L180, k180, n180⟩, -, X180, ⟨Lc180, hQ180, l180, y180, z180⟩, st180⟩ := Jvm.LawKit.callS X179 hx (y := (⟨"com/example/chipmantle/chipmantle/PrimitiveOfPinLaw", "pick", "(I)C"⟩ : MethodName)) hown (mvT hZ (hw _ (List.mem_of_getElem? (i := 5) rfl))) (mvT hZ (hw _ (List.mem_of_getElem? (i := 6) rfl))) (mvT hZ (hw _ (List.mem_of_getElem? (i := 3) rfl))) (mvT hZ (hw _ (List.mem_of_getElem? (i := 7) rfl))) (by decide) (backOf (W := 0) (rm2 l Z ag hw [] (p1 &&& (7 : Int32))  h0 n0 Z0 ) hZ (hw _ (List.mem_of_getElem? (i := 7) rfl)) (hw _ (List.mem_of_getElem? (i := 3) rfl)) (by decide) (by decide)) (g := (mkF m 17 (own_loc1 p0 p1) [(.int (p1 &&& (7 : Int32)))])) rfl (by rw [hml]; rfl) (argsL := [(.int (p1 &&& (7 : Int32)))]) (rest := []) (lenOf pd_10 rfl) rfl (by show 2 * 0 + _ ≤ _; exact Nat.le_of_eq rfl) (hb hby at_17) (fun _ _ => ⟨rfl, e179, (by decide : 0 + 0 ≤ _), (by decide : 0 + 0 ≤ _)⟩)
    dsimp only [Pt.U, Pt.locs, Pt.cells, Pt.slots] at X180 l180 y180 z180 st180 hQ180
    subst l180 y180 z180
    obtain ⟨rfl, N180q, e180⟩ := hQ180
    have N180 := Fr.app N179 N180q
    have cp181 : ∀ target, own_S p e below T180 (mkF m 22 #[.val (.int p0), .val (.int p1), .val (.int (own_pick (p1 &&& (7 : Int32)))), .unset, .unset] [(.int (own_pick (p1 &&& (7 : Int32))))]) target → own_S p e below s₁ (mkF m 0 #[.val (.int p0), .val (.int p1), .unset, .unset, .unset] []) target := by
      intro target kt
      show own_S p e below s₁ (mkF m 0 #[.val (.int p0), .val (.int p1), .unset, .unset, .unset] []) _
      refine XS.iloadN X0.here hx rfl (hb hby at_0) rfl ?_
      show own_S p e below s₁ (mkF m 1 #[.val (.int p0), .val (.int p1), .unset, .unset, .unset] [(.int p0)]) _
      refine X0.ldcInt hx hown (mvT hZ (hw _ (List.mem_of_getElem? (i := 0) rfl))) (g := (mkF m 1 #[.val (.int p0), .val (.int p1), .unset, .unset, .unset] [(.int p0)])) rfl (hb hby at_1) _ ?_
      show own_S p e below s₁ (mkF m 3 #[.val (.int p0), .val (.int p1), .unset, .unset, .unset] [.int 65535, (.int p0)]) _
      refine XS.iand X0.here hx rfl (hb hby at_3) rfl ?_
      show own_S p e below s₁ (mkF m 4 #[.val (.int p0), .val (.int p1), .unset, .unset, .unset] [(.int (p0 &&& (65535 : Int32)))]) _
      refine XS.i2c X0.here hx rfl (hb hby at_4) rfl ?_
      show own_S p e below s₁ (mkF m 5 #[.val (.int p0), .val (.int p1), .unset, .unset, .unset] [(.int ((p0 &&& (65535 : Int32)).toUInt32.toUInt16.toUInt32.toInt32))]) _
      refine XS.istoreN X0.here hx rfl (hb hby at_5) rfl (l' := (own_loc1 p0 p1)) rfl ?_
      show own_S p e below s₁ (mkF m 6 (own_loc1 p0 p1) []) _
      refine XS.iloadN X0.here hx rfl (hb hby at_6) rfl ?_
      show own_S p e below s₁ (mkF m 7 (own_loc1 p0 p1) [(.int ((p0 &&& (65535 : Int32)).toUInt32.toUInt16.toUInt32.toInt32))]) _
      refine st179 _ ?_
      show own_S p e below T179 (mkF m 10 (own_loc1 p0 p1) [.null]) _
      refine XS.ifnonnullNo X179.here hx rfl (hb hby at_10) rfl ?_
      show own_S p e below T179 (mkF m 13 (own_loc1 p0 p1) []) _
      refine XS.iloadN X179.here hx rfl (hb hby at_13) rfl ?_
      show own_S p e below T179 (mkF m 14 (own_loc1 p0 p1) [(.int p1)]) _
      refine XS.bipush X179.here hx rfl (hb hby at_14) ?_
      show own_S p e below T179 (mkF m 16 (own_loc1 p0 p1) [.int 7, (.int p1)]) _
      refine XS.iand X179.here hx rfl (hb hby at_16) rfl ?_
      show own_S p e below T179 (mkF m 17 (own_loc1 p0 p1) [(.int (p1 &&& (7 : Int32)))]) _
      refine st180 _ ?_
      show own_S p e below T180 (mkF m 20 (own_loc1 p0 p1) [(.int (own_pick (p1 &&& (7 : Int32))))]) _
      refine XS.istoreN X180.here hx rfl (hb hby at_20) rfl (l' := #[.val (.int p0), .val (.int p1), .val (.int (own_pick (p1 &&& (7 : Int32)))), .unset, .unset]) rfl ?_
      show own_S p e below T180 (mkF m 21 #[.val (.int p0), .val (.int p1), .val (.int (own_pick (p1 &&& (7 : Int32)))), .unset, .unset] []) _
      refine XS.iloadN X180.here hx rfl (hb hby at_21) rfl ?_
      exact kt
    obtain ⟨_, _, ⟨T182, L182, k182, n182⟩, -, X182, ⟨Lc182, hQ182, l182, y182, z182⟩, st182⟩ := Jvm.LawKit.callS X180 hx (y := (⟨"com/example/chipmantle/chipmantle/PrimitiveOfPinLaw", "expected", "(C)Lcom/example/chipmantle/chipmantle/Primitive;"⟩ : MethodName)) hown (mvT hZ (hw _ (List.mem_of_getElem? (i := 1) rfl))) (mvT hZ (hw _ (List.mem_of_getElem? (i := 2) rfl))) (mvT hZ (hw _ (List.mem_of_getElem? (i := 3) rfl))) (mvT hZ (hw _ (List.mem_of_getElem? (i := 4) rfl))) (by decide) (backOf (W := 0) (rm1 l Z ag hw [] (own_pick (p1 &&& (7 : Int32))) c0 c1 c2 c3 c4 c5 c6 c7 h0 n0 Z0 O_ S_c0 S_c1 S_c2 S_c3 S_c4 S_c5 S_c6 S_c7) hZ (hw _ (List.mem_of_getElem? (i := 4) rfl)) (hw _ (List.mem_of_getElem? (i := 3) rfl)) (by decide) (by decide)) (g := (mkF m 22 #[.val (.int p0), .val (.int p1), .val (.int (own_pick (p1 &&& (7 : Int32)))), .unset, .unset] [(.int (own_pick (p1 &&& (7 : Int32))))])) rfl (by rw [hml]; rfl) (argsL := [(.int (own_pick (p1 &&& (7 : Int32))))]) (rest := []) (lenOf pd_6 rfl) rfl (by show 2 * 0 + _ ≤ _; exact Nat.le_of_eq rfl) (hb hby at_22) (fun _ _ => ⟨rfl, e180, (by decide : 0 + 0 ≤ _), (by decide : 0 + 0 ≤ _)⟩)
    dsimp only [Pt.U, Pt.locs, Pt.cells, Pt.slots] at X182 l182 y182 z182 st182 hQ182
    subst l182 y182 z182
    rcases hQ182 with q182 | q182
    · obtain ⟨rfl, N182q, e182, hno182⟩ := q182
      have N182 := Fr.app N180 N182q
      exact absurd (own_pick_is p1) hno182
    · obtain ⟨w182, rfl, N182q, e182, hrl182⟩ := q182
      have N182 := Fr.app N180 N182q
      obtain ⟨_, _, ⟨T183, L183, k183, n183⟩, -, X183, ⟨Lc183, hQ183, l183, y183, z183⟩, st183⟩ := Jvm.LawKit.callS X182 hx (y := (⟨"java/lang/String", "valueOf", "(C)Ljava/lang/String;"⟩ : MethodName)) hown (mvT hZ (hw _ (List.mem_of_getElem? (i := 11) rfl))) (mvT hZ (hw _ (List.mem_of_getElem? (i := 12) rfl))) (mvT hZ (hw _ (List.mem_of_getElem? (i := 13) rfl))) (mvT hZ (hw _ (List.mem_of_getElem? (i := 14) rfl))) (by decide) (backOf (W := 0) (rm3 l Z ag hw [] (own_pick (p1 &&& (7 : Int32))) cs h0 n0 Z0 O_ S_cs hcs (own_lat (own_pick_is p1))) hZ (hw _ (List.mem_of_getElem? (i := 14) rfl)) (hw _ (List.mem_of_getElem? (i := 13) rfl)) (by decide) (by decide)) (g := (mkF m 27 #[.val (.int p0), .val (.int p1), .val (.int (own_pick (p1 &&& (7 : Int32)))), .val (.ref w182), .unset] [(.int (own_pick (p1 &&& (7 : Int32))))])) rfl (by rw [hml]; rfl) (argsL := [(.int (own_pick (p1 &&& (7 : Int32))))]) (rest := []) (lenOf pd_7 rfl) rfl (by show 2 * 0 + _ ≤ _; exact Nat.le_of_eq rfl) (hb hby at_27) (fun _ _ => ⟨rfl, e182, (by decide : 0 + 2 ≤ _), (by decide : 0 + 5 ≤ _)⟩)
      dsimp only [Pt.U, Pt.locs, Pt.cells, Pt.slots] at X183 l183 y183 z183 st183 hQ183
      subst l183 y183 z183
      obtain ⟨r183, rb183, kr183, rfl, N183q, K183, ge_r183, gq_r183, ge_rb183, gq_rb183, Er183, Fv183, Fc183, Vr183⟩ := hQ183
      have N183 := Fr.app N182 N183q
      have ne184 : va ≠ r183 := Nat.ne_of_lt (Nat.lt_of_lt_of_le V_va.lt gq_r183)
      have ne185 : c0 ≠ r183 := Nat.ne_of_lt (Nat.lt_of_lt_of_le F_descriptor_c0.lt gq_r183)
      have ne186 : c1 ≠ r183 := Nat.ne_of_lt (Nat.lt_of_lt_of_le F_descriptor_c1.lt gq_r183)
      have ne187 : c2 ≠ r183 := Nat.ne_of_lt (Nat.lt_of_lt_of_le F_descriptor_c2.lt gq_r183)
      have ne188 : c3 ≠ r183 := Nat.ne_of_lt (Nat.lt_of_lt_of_le F_descriptor_c3.lt gq_r183)
      have ne189 : c4 ≠ r183 := Nat.ne_of_lt (Nat.lt_of_lt_of_le F_descriptor_c4.lt gq_r183)
      have ne190 : c5 ≠ r183 := Nat.ne_of_lt (Nat.lt_of_lt_of_le F_descriptor_c5.lt gq_r183)
      have ne191 : c6 ≠ r183 := Nat.ne_of_lt (Nat.lt_of_lt_of_le F_descriptor_c6.lt gq_r183)
      have ne192 : c7 ≠ r183 := Nat.ne_of_lt (Nat.lt_of_lt_of_le F_descriptor_c7.lt gq_r183)
      have ne193 : va ≠ rb183 := Nat.ne_of_lt (Nat.lt_of_lt_of_le V_va.lt gq_rb183)
      have ne194 : c0 ≠ rb183 := Nat.ne_of_lt (Nat.lt_of_lt_of_le F_descriptor_c0.lt gq_rb183)
      have ne195 : c1 ≠ rb183 := Nat.ne_of_lt (Nat.lt_of_lt_of_le F_descriptor_c1.lt gq_rb183)
      have ne196 : c2 ≠ rb183 := Nat.ne_of_lt (Nat.lt_of_lt_of_le F_descriptor_c2.lt gq_rb183)
      have ne197 : c3 ≠ rb183 := Nat.ne_of_lt (Nat.lt_of_lt_of_le F_descriptor_c3.lt gq_rb183)
      have ne198 : c4 ≠ rb183 := Nat.ne_of_lt (Nat.lt_of_lt_of_le F_descriptor_c4.lt gq_rb183)
      have ne199 : c5 ≠ rb183 := Nat.ne_of_lt (Nat.lt_of_lt_of_le F_descriptor_c5.lt gq_rb183)
      have ne200 : c6 ≠ rb183 := Nat.ne_of_lt (Nat.lt_of_lt_of_le F_descriptor_c6.lt gq_rb183)
      have ne201 : c7 ≠ rb183 := Nat.ne_of_lt (Nat.lt_of_lt_of_le F_descriptor_c7.lt gq_rb183)
      have x202 := O_.keep K183 all0
      have x203 := V_va.keep K183 nin0
      have x204 := E_va.keep K183
      have x205 := F_descriptor_c0.keep K183 nin0
      have x206 := F_descriptor_c1.keep K183 nin0
      have x207 := F_descriptor_c2.keep K183 nin0
      have x208 := F_descriptor_c3.keep K183 nin0
      have x209 := F_descriptor_c4.keep K183 nin0
      have x210 := F_descriptor_c5.keep K183 nin0
      have x211 := F_descriptor_c6.keep K183 nin0
      have x212 := F_descriptor_c7.keep K183 nin0
      have sz213 : n0 ≤ T183.heap.size := Nat.le_trans Z0 K183.1
      obtain ⟨_, _, ⟨T214, L214, k214, n214⟩, -, X214, ⟨Lc214, hQ214, l214, y214, z214⟩, st214⟩ := Jvm.LawKit.callS X183 hx (y := (⟨"com/example/chipmantle/chipmantle/Primitive", "of", "(Ljava/lang/String;)Lcom/example/chipmantle/chipmantle/Primitive;"⟩ : MethodName)) hown (mvT hZ (hw _ (List.mem_of_getElem? (i := 37) rfl))) (mvT hZ (hw _ (List.mem_of_getElem? (i := 38) rfl))) (mvT hZ (hw _ (List.mem_of_getElem? (i := 9) rfl))) (mvT hZ (hw _ (List.mem_of_getElem? (i := 39) rfl))) (by decide) (backOf (W := 0) (rm8 l Z ag hw [] r183 rb183 kr183 (nar .byte ((own_pick (p1 &&& (7 : Int32))).toInt8.toInt32)) c0 c1 c2 c3 c4 c5 c6 c7 cs gf va kv T183.heap n0 sz213 Er183 Fv183 Fc183 Vr183 x202 S_cs hcs S_gf rv_gf S_va x203 x204 x205 x206 x207 x208 x209 x210 x211 x212 (by rw [own_back (own_pick_is p1)]; exact (own_pick_is p1))) hZ (hw _ (List.mem_of_getElem? (i := 39) rfl)) (hw _ (List.mem_of_getElem? (i := 9) rfl)) (by decide) (by decide)) (g := (mkF m 30 #[.val (.int p0), .val (.int p1), .val (.int (own_pick (p1 &&& (7 : Int32)))), .val (.ref w182), .unset] [(.ref r183)])) rfl (by rw [hml]; rfl) (argsL := [(.ref r183)]) (rest := []) (lenOf pd_13 rfl) rfl (by show 2 * 0 + _ ≤ _; exact Nat.le_of_eq rfl) (hb hby at_30) (fun _ _ => ⟨rfl, rfl, (by decide : 2 + 1 ≤ _), (by decide : 5 + 8 ≤ _)⟩)
      dsimp only [Pt.U, Pt.locs, Pt.cells, Pt.slots] at X214 l214 y214 z214 st214 hQ214
      subst l214 y214 z214
      obtain ⟨r214, rfl, N214q, K214, hrl214⟩ := hQ214
      have N214 := Fr.app N183 N214q
      have x215 := x202.keep K214 all0
      have x216 := x203.keep K214 nin0
      have x217 := x204.keep K214
      have x218 := x205.keep K214 nin0
      have x219 := x206.keep K214 nin0
      have x220 := x207.keep K214 nin0
      have x221 := x208.keep K214 nin0
      have x222 := x209.keep K214 nin0
      have x223 := x210.keep K214 nin0
      have x224 := x211.keep K214 nin0
      have x225 := x212.keep K214 nin0
      have x226 := Er183.keep K214
      have x227 := Fv183.keep K214 nin0
      have x228 := Fc183.keep K214 nin0
      have x229 := Vr183.keep K214 nin0
      have sz230 : n0 ≤ T214.heap.size := Nat.le_trans sz213 K214.1
      have hrc : own_rel (own_pick (p1 &&& (7 : Int32))) r214 c0 c1 c2 c3 c4 c5 c6 c7 := by have q := hrl214; rw [own_back (own_pick_is p1)] at q; exact q
      have Fd := own_rel_fld hrc x218 x219 x220 x221 x222 x223 x224 x225
      obtain ⟨T231, X231, e231, st231⟩ := getF X214 hx hZ hown (host := "") (Or.inl (hw _ (List.mem_of_getElem? (i := 95) rfl))) Via.refl rfl Fd (g := (mkF m 43 #[.val (.int p0), .val (.int p1), .val (.int (own_pick (p1 &&& (7 : Int32)))), .val (.ref w182), .val (.ref r214)] [(.ref r214)])) rfl rfl (hb hby at_43)
      obtain ⟨fs, hr, hrun, hended, hW, hsame⟩ := X231.leave (v := some (.int (1 : Int32))) (fun h => by rw [Bd.returns] at h; cases h)
      refine ⟨_, _, pre0 _ ?_, hrun, hended, _, _, rfl, ?_, ⟨_, rfl⟩, hW, hsame.mono (by decide) (by decide)⟩
      · show own_S p e below s₁ (mkF m 0 #[.val (.int p0), .val (.int p1), .unset, .unset, .unset] []) _
        refine cp181 _ ?_
        show own_S p e below T180 (mkF m 22 #[.val (.int p0), .val (.int p1), .val (.int (own_pick (p1 &&& (7 : Int32)))), .unset, .unset] [(.int (own_pick (p1 &&& (7 : Int32))))]) _
        refine st182 _ ?_
        show own_S p e below T182 (mkF m 25 #[.val (.int p0), .val (.int p1), .val (.int (own_pick (p1 &&& (7 : Int32)))), .unset, .unset] [(.ref w182)]) _
        refine XS.astoreN X182.here hx rfl (hb hby at_25) rfl rfl (l' := #[.val (.int p0), .val (.int p1), .val (.int (own_pick (p1 &&& (7 : Int32)))), .val (.ref w182), .unset]) rfl ?_
        show own_S p e below T182 (mkF m 26 #[.val (.int p0), .val (.int p1), .val (.int (own_pick (p1 &&& (7 : Int32)))), .val (.ref w182), .unset] []) _
        refine XS.iloadN X182.here hx rfl (hb hby at_26) rfl ?_
        show own_S p e below T182 (mkF m 27 #[.val (.int p0), .val (.int p1), .val (.int (own_pick (p1 &&& (7 : Int32)))), .val (.ref w182), .unset] [(.int (own_pick (p1 &&& (7 : Int32))))]) _
        refine st183 _ ?_
        show own_S p e below T183 (mkF m 30 #[.val (.int p0), .val (.int p1), .val (.int (own_pick (p1 &&& (7 : Int32)))), .val (.ref w182), .unset] [(.ref r183)]) _
        refine st214 _ ?_
        show own_S p e below T214 (mkF m 33 #[.val (.int p0), .val (.int p1), .val (.int (own_pick (p1 &&& (7 : Int32)))), .val (.ref w182), .unset] [(.ref r214)]) _
        refine XS.astore X214.here hx rfl (hb hby at_33) rfl rfl (l' := #[.val (.int p0), .val (.int p1), .val (.int (own_pick (p1 &&& (7 : Int32)))), .val (.ref w182), .val (.ref r214)]) rfl ?_
        show own_S p e below T214 (mkF m 35 #[.val (.int p0), .val (.int p1), .val (.int (own_pick (p1 &&& (7 : Int32)))), .val (.ref w182), .val (.ref r214)] []) _
        refine XS.aload X214.here hx rfl (hb hby at_35) rfl rfl ?_
        show own_S p e below T214 (mkF m 37 #[.val (.int p0), .val (.int p1), .val (.int (own_pick (p1 &&& (7 : Int32)))), .val (.ref w182), .val (.ref r214)] [(.ref r214)]) _
        refine XS.aloadN X214.here hx rfl (hb hby at_37) rfl rfl ?_
        show own_S p e below T214 (mkF m 38 #[.val (.int p0), .val (.int p1), .val (.int (own_pick (p1 &&& (7 : Int32)))), .val (.ref w182), .val (.ref r214)] [(.ref w182), (.ref r214)]) _
        refine Jvm.RoadKit.acmp (g := (mkF m 38 #[.val (.int p0), .val (.int p1), .val (.int (own_pick (p1 &&& (7 : Int32)))), .val (.ref w182), .val (.ref r214)] [(.ref w182), (.ref r214)])) X214 hx rfl rfl rfl (pc0 := 38) (pc' := 41) (same := true) rfl (hb hby at_38) rfl (decide_eq_true (congrArg Value.ref (own_rel_fun (by have q := hrl214; rw [own_back (own_pick_is p1)] at q; exact q) hrl182))) (by decide) (by decide) ?_
        show own_S p e below T214 (mkF m 41 #[.val (.int p0), .val (.int p1), .val (.int (own_pick (p1 &&& (7 : Int32)))), .val (.ref w182), .val (.ref r214)] []) _
        refine XS.aload X214.here hx rfl (hb hby at_41) rfl rfl ?_
        show own_S p e below T214 (mkF m 43 #[.val (.int p0), .val (.int p1), .val (.int (own_pick (p1 &&& (7 : Int32)))), .val (.ref w182), .val (.ref r214)] [(.ref r214)]) _
        refine st231 _ ?_
        show own_S p e below T231 (mkF m 46 #[.val (.int p0), .val (.int p1), .val (.int (own_pick (p1 &&& (7 : Int32)))), .val (.ref w182), .val (.ref r214)] [(.int (own_pick (p1 &&& (7 : Int32))))]) _
        refine XS.iloadN X231.here hx rfl (hb hby at_46) rfl ?_
        show own_S p e below T231 (mkF m 47 #[.val (.int p0), .val (.int p1), .val (.int (own_pick (p1 &&& (7 : Int32)))), .val (.ref w182), .val (.ref r214)] [(.int (own_pick (p1 &&& (7 : Int32)))), (.int (own_pick (p1 &&& (7 : Int32))))]) _
        refine XS.icmpNo X231.here hx rfl (hb hby at_47) rfl (teq (rfl : (own_pick (p1 &&& (7 : Int32))) = (own_pick (p1 &&& (7 : Int32))))).2 ?_
        show own_S p e below T231 (mkF m 50 #[.val (.int p0), .val (.int p1), .val (.int (own_pick (p1 &&& (7 : Int32)))), .val (.ref w182), .val (.ref r214)] []) _
        refine XS.iconst X231.here hx rfl (hb hby at_50) ?_
        show own_S p e below T231 (mkF m 51 #[.val (.int p0), .val (.int p1), .val (.int (own_pick (p1 &&& (7 : Int32)))), .val (.ref w182), .val (.ref r214)] [.int 1]) _
        refine XS.goto X231.here hx rfl (pc0 := 51) (pc' := 55) rfl (hb hby at_51) (by decide) (by decide) ?_
        show own_S p e below T231 (mkF m 55 #[.val (.int p0), .val (.int p1), .val (.int (own_pick (p1 &&& (7 : Int32)))), .val (.ref w182), .val (.ref r214)] [.int 1]) _
        exact retN X231 hx (t := .boolean) Bd.returns (by simp) (hb hby at_55) hr
      · exact ⟨rfl, N214⟩
  · obtain ⟨w179, rfl, N179q, e179, hrl179⟩ := q179
    have N179 := Fr.app N0 N179q
    obtain ⟨_, _, ⟨T232, L232, k232, n232⟩, -, X232, ⟨Lc232, hQ232, l232, y232, z232⟩, st232⟩ := Jvm.LawKit.callS X179 hx (y := (⟨"com/example/chipmantle/chipmantle/PrimitiveOfPinLaw", "expected", "(C)Lcom/example/chipmantle/chipmantle/Primitive;"⟩ : MethodName)) hown (mvT hZ (hw _ (List.mem_of_getElem? (i := 1) rfl))) (mvT hZ (hw _ (List.mem_of_getElem? (i := 2) rfl))) (mvT hZ (hw _ (List.mem_of_getElem? (i := 3) rfl))) (mvT hZ (hw _ (List.mem_of_getElem? (i := 4) rfl))) (by decide) (backOf (W := 0) (rm1 l Z ag hw [] ((p0 &&& (65535 : Int32)).toUInt32.toUInt16.toUInt32.toInt32) c0 c1 c2 c3 c4 c5 c6 c7 h0 n0 Z0 O_ S_c0 S_c1 S_c2 S_c3 S_c4 S_c5 S_c6 S_c7) hZ (hw _ (List.mem_of_getElem? (i := 4) rfl)) (hw _ (List.mem_of_getElem? (i := 3) rfl)) (by decide) (by decide)) (g := (mkF m 22 (own_loc1 p0 p1) [(.int ((p0 &&& (65535 : Int32)).toUInt32.toUInt16.toUInt32.toInt32))])) rfl (by rw [hml]; rfl) (argsL := [(.int ((p0 &&& (65535 : Int32)).toUInt32.toUInt16.toUInt32.toInt32))]) (rest := []) (lenOf pd_6 rfl) rfl (by show 2 * 0 + _ ≤ _; exact Nat.le_of_eq rfl) (hb hby at_22) (fun _ _ => ⟨rfl, e179, (by decide : 0 + 0 ≤ _), (by decide : 0 + 0 ≤ _)⟩)
    dsimp only [Pt.U, Pt.locs, Pt.cells, Pt.slots] at X232 l232 y232 z232 st232 hQ232
    subst l232 y232 z232
    rcases hQ232 with q232 | q232
    · obtain ⟨rfl, N232q, e232, hno232⟩ := q232
      have N232 := Fr.app N179 N232q
      exact absurd (own_rel_is hrl179) hno232
    · obtain ⟨w232, rfl, N232q, e232, hrl232⟩ := q232
      have N232 := Fr.app N179 N232q
      obtain ⟨_, _, ⟨T233, L233, k233, n233⟩, -, X233, ⟨Lc233, hQ233, l233, y233, z233⟩, st233⟩ := Jvm.LawKit.callS X232 hx (y := (⟨"java/lang/String", "valueOf", "(C)Ljava/lang/String;"⟩ : MethodName)) hown (mvT hZ (hw _ (List.mem_of_getElem? (i := 11) rfl))) (mvT hZ (hw _ (List.mem_of_getElem? (i := 12) rfl))) (mvT hZ (hw _ (List.mem_of_getElem? (i := 13) rfl))) (mvT hZ (hw _ (List.mem_of_getElem? (i := 14) rfl))) (by decide) (backOf (W := 0) (rm3 l Z ag hw [] ((p0 &&& (65535 : Int32)).toUInt32.toUInt16.toUInt32.toInt32) cs h0 n0 Z0 O_ S_cs hcs (own_lat (own_rel_is hrl179))) hZ (hw _ (List.mem_of_getElem? (i := 14) rfl)) (hw _ (List.mem_of_getElem? (i := 13) rfl)) (by decide) (by decide)) (g := (mkF m 27 #[.val (.int p0), .val (.int p1), .val (.int ((p0 &&& (65535 : Int32)).toUInt32.toUInt16.toUInt32.toInt32)), .val (.ref w232), .unset] [(.int ((p0 &&& (65535 : Int32)).toUInt32.toUInt16.toUInt32.toInt32))])) rfl (by rw [hml]; rfl) (argsL := [(.int ((p0 &&& (65535 : Int32)).toUInt32.toUInt16.toUInt32.toInt32))]) (rest := []) (lenOf pd_7 rfl) rfl (by show 2 * 0 + _ ≤ _; exact Nat.le_of_eq rfl) (hb hby at_27) (fun _ _ => ⟨rfl, e232, (by decide : 0 + 2 ≤ _), (by decide : 0 + 5 ≤ _)⟩)
      dsimp only [Pt.U, Pt.locs, Pt.cells, Pt.slots] at X233 l233 y233 z233 st233 hQ233
      subst l233 y233 z233
      obtain ⟨r233, rb233, kr233, rfl, N233q, K233, ge_r233, gq_r233, ge_rb233, gq_rb233, Er233, Fv233, Fc233, Vr233⟩ := hQ233
      have N233 := Fr.app N232 N233q
      have ne234 : va ≠ r233 := Nat.ne_of_lt (Nat.lt_of_lt_of_le V_va.lt gq_r233)
      have ne235 : c0 ≠ r233 := Nat.ne_of_lt (Nat.lt_of_lt_of_le F_descriptor_c0.lt gq_r233)
      have ne236 : c1 ≠ r233 := Nat.ne_of_lt (Nat.lt_of_lt_of_le F_descriptor_c1.lt gq_r233)
      have ne237 : c2 ≠ r233 := Nat.ne_of_lt (Nat.lt_of_lt_of_le F_descriptor_c2.lt gq_r233)
      have ne238 : c3 ≠ r233 := Nat.ne_of_lt (Nat.lt_of_lt_of_le F_descriptor_c3.lt gq_r233)
      have ne239 : c4 ≠ r233 := Nat.ne_of_lt (Nat.lt_of_lt_of_le F_descriptor_c4.lt gq_r233)
      have ne240 : c5 ≠ r233 := Nat.ne_of_lt (Nat.lt_of_lt_of_le F_descriptor_c5.lt gq_r233)
      have ne241 : c6 ≠ r233 := Nat.ne_of_lt (Nat.lt_of_lt_of_le F_descriptor_c6.lt gq_r233)
      have ne242 : c7 ≠ r233 := Nat.ne_of_lt (Nat.lt_of_lt_of_le F_descriptor_c7.lt gq_r233)
      have ne243 : va ≠ rb233 := Nat.ne_of_lt (Nat.lt_of_lt_of_le V_va.lt gq_rb233)
      have ne244 : c0 ≠ rb233 := Nat.ne_of_lt (Nat.lt_of_lt_of_le F_descriptor_c0.lt gq_rb233)
      have ne245 : c1 ≠ rb233 := Nat.ne_of_lt (Nat.lt_of_lt_of_le F_descriptor_c1.lt gq_rb233)
      have ne246 : c2 ≠ rb233 := Nat.ne_of_lt (Nat.lt_of_lt_of_le F_descriptor_c2.lt gq_rb233)
      have ne247 : c3 ≠ rb233 := Nat.ne_of_lt (Nat.lt_of_lt_of_le F_descriptor_c3.lt gq_rb233)
      have ne248 : c4 ≠ rb233 := Nat.ne_of_lt (Nat.lt_of_lt_of_le F_descriptor_c4.lt gq_rb233)
      have ne249 : c5 ≠ rb233 := Nat.ne_of_lt (Nat.lt_of_lt_of_le F_descriptor_c5.lt gq_rb233)
      have ne250 : c6 ≠ rb233 := Nat.ne_of_lt (Nat.lt_of_lt_of_le F_descriptor_c6.lt gq_rb233)
      have ne251 : c7 ≠ rb233 := Nat.ne_of_lt (Nat.lt_of_lt_of_le F_descriptor_c7.lt gq_rb233)
      have x252 := O_.keep K233 all0
      have x253 := V_va.keep K233 nin0
      have x254 := E_va.keep K233
      have x255 := F_descriptor_c0.keep K233 nin0
      have x256 := F_descriptor_c1.keep K233 nin0
      have x257 := F_descriptor_c2.keep K233 nin0
      have x258 := F_descriptor_c3.keep K233 nin0
      have x259 := F_descriptor_c4.keep K233 nin0
      have x260 := F_descriptor_c5.keep K233 nin0
      have x261 := F_descriptor_c6.keep K233 nin0
      have x262 := F_descriptor_c7.keep K233 nin0
      have sz263 : n0 ≤ T233.heap.size := Nat.le_trans Z0 K233.1
      have cp264 : ∀ target, own_S p e below T233 (mkF m 30 #[.val (.int p0), .val (.int p1), .val (.int ((p0 &&& (65535 : Int32)).toUInt32.toUInt16.toUInt32.toInt32)), .val (.ref w232), .unset] [(.ref r233)]) target → own_S p e below s₁ (mkF m 0 #[.val (.int p0), .val (.int p1), .unset, .unset, .unset] []) target := by
        intro target kt
        show own_S p e below s₁ (mkF m 0 #[.val (.int p0), .val (.int p1), .unset, .unset, .unset] []) _
        refine XS.iloadN X0.here hx rfl (hb hby at_0) rfl ?_
        show own_S p e below s₁ (mkF m 1 #[.val (.int p0), .val (.int p1), .unset, .unset, .unset] [(.int p0)]) _
        refine X0.ldcInt hx hown (mvT hZ (hw _ (List.mem_of_getElem? (i := 0) rfl))) (g := (mkF m 1 #[.val (.int p0), .val (.int p1), .unset, .unset, .unset] [(.int p0)])) rfl (hb hby at_1) _ ?_
        show own_S p e below s₁ (mkF m 3 #[.val (.int p0), .val (.int p1), .unset, .unset, .unset] [.int 65535, (.int p0)]) _
        refine XS.iand X0.here hx rfl (hb hby at_3) rfl ?_
        show own_S p e below s₁ (mkF m 4 #[.val (.int p0), .val (.int p1), .unset, .unset, .unset] [(.int (p0 &&& (65535 : Int32)))]) _
        refine XS.i2c X0.here hx rfl (hb hby at_4) rfl ?_
        show own_S p e below s₁ (mkF m 5 #[.val (.int p0), .val (.int p1), .unset, .unset, .unset] [(.int ((p0 &&& (65535 : Int32)).toUInt32.toUInt16.toUInt32.toInt32))]) _
        refine XS.istoreN X0.here hx rfl (hb hby at_5) rfl (l' := (own_loc1 p0 p1)) rfl ?_
        show own_S p e below s₁ (mkF m 6 (own_loc1 p0 p1) []) _
        refine XS.iloadN X0.here hx rfl (hb hby at_6) rfl ?_
        show own_S p e below s₁ (mkF m 7 (own_loc1 p0 p1) [(.int ((p0 &&& (65535 : Int32)).toUInt32.toUInt16.toUInt32.toInt32))]) _
        refine st179 _ ?_
        show own_S p e below T179 (mkF m 10 (own_loc1 p0 p1) [(.ref w179)]) _
        refine XS.ifnonnullYes X179.here hx rfl (pc0 := 10) (pc' := 21) rfl (hb hby at_10) rfl (by decide) (by decide) ?_
        show own_S p e below T179 (mkF m 21 (own_loc1 p0 p1) []) _
        refine XS.iloadN X179.here hx rfl (hb hby at_21) rfl ?_
        show own_S p e below T179 (mkF m 22 (own_loc1 p0 p1) [(.int ((p0 &&& (65535 : Int32)).toUInt32.toUInt16.toUInt32.toInt32))]) _
        refine st232 _ ?_
        show own_S p e below T232 (mkF m 25 (own_loc1 p0 p1) [(.ref w232)]) _
        refine XS.astoreN X232.here hx rfl (hb hby at_25) rfl rfl (l' := #[.val (.int p0), .val (.int p1), .val (.int ((p0 &&& (65535 : Int32)).toUInt32.toUInt16.toUInt32.toInt32)), .val (.ref w232), .unset]) rfl ?_
        show own_S p e below T232 (mkF m 26 #[.val (.int p0), .val (.int p1), .val (.int ((p0 &&& (65535 : Int32)).toUInt32.toUInt16.toUInt32.toInt32)), .val (.ref w232), .unset] []) _
        refine XS.iloadN X232.here hx rfl (hb hby at_26) rfl ?_
        show own_S p e below T232 (mkF m 27 #[.val (.int p0), .val (.int p1), .val (.int ((p0 &&& (65535 : Int32)).toUInt32.toUInt16.toUInt32.toInt32)), .val (.ref w232), .unset] [(.int ((p0 &&& (65535 : Int32)).toUInt32.toUInt16.toUInt32.toInt32))]) _
        refine st233 _ ?_
        exact kt
      obtain ⟨_, _, ⟨T265, L265, k265, n265⟩, -, X265, ⟨Lc265, hQ265, l265, y265, z265⟩, st265⟩ := Jvm.LawKit.callS X233 hx (y := (⟨"com/example/chipmantle/chipmantle/Primitive", "of", "(Ljava/lang/String;)Lcom/example/chipmantle/chipmantle/Primitive;"⟩ : MethodName)) hown (mvT hZ (hw _ (List.mem_of_getElem? (i := 37) rfl))) (mvT hZ (hw _ (List.mem_of_getElem? (i := 38) rfl))) (mvT hZ (hw _ (List.mem_of_getElem? (i := 9) rfl))) (mvT hZ (hw _ (List.mem_of_getElem? (i := 39) rfl))) (by decide) (backOf (W := 0) (rm8 l Z ag hw [] r233 rb233 kr233 (nar .byte (((p0 &&& (65535 : Int32)).toUInt32.toUInt16.toUInt32.toInt32).toInt8.toInt32)) c0 c1 c2 c3 c4 c5 c6 c7 cs gf va kv T233.heap n0 sz263 Er233 Fv233 Fc233 Vr233 x252 S_cs hcs S_gf rv_gf S_va x253 x254 x255 x256 x257 x258 x259 x260 x261 x262 (by rw [own_back (own_rel_is hrl179)]; exact (own_rel_is hrl179))) hZ (hw _ (List.mem_of_getElem? (i := 39) rfl)) (hw _ (List.mem_of_getElem? (i := 9) rfl)) (by decide) (by decide)) (g := (mkF m 30 #[.val (.int p0), .val (.int p1), .val (.int ((p0 &&& (65535 : Int32)).toUInt32.toUInt16.toUInt32.toInt32)), .val (.ref w232), .unset] [(.ref r233)])) rfl (by rw [hml]; rfl) (argsL := [(.ref r233)]) (rest := []) (lenOf pd_13 rfl) rfl (by show 2 * 0 + _ ≤ _; exact Nat.le_of_eq rfl) (hb hby at_30) (fun _ _ => ⟨rfl, rfl, (by decide : 2 + 1 ≤ _), (by decide : 5 + 8 ≤ _)⟩)
      dsimp only [Pt.U, Pt.locs, Pt.cells, Pt.slots] at X265 l265 y265 z265 st265 hQ265
      subst l265 y265 z265
      obtain ⟨r265, rfl, N265q, K265, hrl265⟩ := hQ265
      have N265 := Fr.app N233 N265q
      have x266 := x252.keep K265 all0
      have x267 := x253.keep K265 nin0
      have x268 := x254.keep K265
      have x269 := x255.keep K265 nin0
      have x270 := x256.keep K265 nin0
      have x271 := x257.keep K265 nin0
      have x272 := x258.keep K265 nin0
      have x273 := x259.keep K265 nin0
      have x274 := x260.keep K265 nin0
      have x275 := x261.keep K265 nin0
      have x276 := x262.keep K265 nin0
      have x277 := Er233.keep K265
      have x278 := Fv233.keep K265 nin0
      have x279 := Fc233.keep K265 nin0
      have x280 := Vr233.keep K265 nin0
      have sz281 : n0 ≤ T265.heap.size := Nat.le_trans sz263 K265.1
      have hrc : own_rel ((p0 &&& (65535 : Int32)).toUInt32.toUInt16.toUInt32.toInt32) r265 c0 c1 c2 c3 c4 c5 c6 c7 := by have q := hrl265; rw [own_back (own_rel_is hrl179)] at q; exact q
      have Fd := own_rel_fld hrc x269 x270 x271 x272 x273 x274 x275 x276
      obtain ⟨T282, X282, e282, st282⟩ := getF X265 hx hZ hown (host := "") (Or.inl (hw _ (List.mem_of_getElem? (i := 95) rfl))) Via.refl rfl Fd (g := (mkF m 43 #[.val (.int p0), .val (.int p1), .val (.int ((p0 &&& (65535 : Int32)).toUInt32.toUInt16.toUInt32.toInt32)), .val (.ref w232), .val (.ref r265)] [(.ref r265)])) rfl rfl (hb hby at_43)
      obtain ⟨fs, hr, hrun, hended, hW, hsame⟩ := X282.leave (v := some (.int (1 : Int32))) (fun h => by rw [Bd.returns] at h; cases h)
      refine ⟨_, _, pre0 _ ?_, hrun, hended, _, _, rfl, ?_, ⟨_, rfl⟩, hW, hsame.mono (by decide) (by decide)⟩
      · show own_S p e below s₁ (mkF m 0 #[.val (.int p0), .val (.int p1), .unset, .unset, .unset] []) _
        refine cp264 _ ?_
        show own_S p e below T233 (mkF m 30 #[.val (.int p0), .val (.int p1), .val (.int ((p0 &&& (65535 : Int32)).toUInt32.toUInt16.toUInt32.toInt32)), .val (.ref w232), .unset] [(.ref r233)]) _
        refine st265 _ ?_
        show own_S p e below T265 (mkF m 33 #[.val (.int p0), .val (.int p1), .val (.int ((p0 &&& (65535 : Int32)).toUInt32.toUInt16.toUInt32.toInt32)), .val (.ref w232), .unset] [(.ref r265)]) _
        refine XS.astore X265.here hx rfl (hb hby at_33) rfl rfl (l' := #[.val (.int p0), .val (.int p1), .val (.int ((p0 &&& (65535 : Int32)).toUInt32.toUInt16.toUInt32.toInt32)), .val (.ref w232), .val (.ref r265)]) rfl ?_
        show own_S p e below T265 (mkF m 35 #[.val (.int p0), .val (.int p1), .val (.int ((p0 &&& (65535 : Int32)).toUInt32.toUInt16.toUInt32.toInt32)), .val (.ref w232), .val (.ref r265)] []) _
        refine XS.aload X265.here hx rfl (hb hby at_35) rfl rfl ?_
        show own_S p e below T265 (mkF m 37 #[.val (.int p0), .val (.int p1), .val (.int ((p0 &&& (65535 : Int32)).toUInt32.toUInt16.toUInt32.toInt32)), .val (.ref w232), .val (.ref r265)] [(.ref r265)]) _
        refine XS.aloadN X265.here hx rfl (hb hby at_37) rfl rfl ?_
        show own_S p e below T265 (mkF m 38 #[.val (.int p0), .val (.int p1), .val (.int ((p0 &&& (65535 : Int32)).toUInt32.toUInt16.toUInt32.toInt32)), .val (.ref w232), .val (.ref r265)] [(.ref w232), (.ref r265)]) _
        refine Jvm.RoadKit.acmp (g := (mkF m 38 #[.val (.int p0), .val (.int p1), .val (.int ((p0 &&& (65535 : Int32)).toUInt32.toUInt16.toUInt32.toInt32)), .val (.ref w232), .val (.ref r265)] [(.ref w232), (.ref r265)])) X265 hx rfl rfl rfl (pc0 := 38) (pc' := 41) (same := true) rfl (hb hby at_38) rfl (decide_eq_true (congrArg Value.ref (own_rel_fun (by have q := hrl265; rw [own_back (own_rel_is hrl179)] at q; exact q) hrl232))) (by decide) (by decide) ?_
        show own_S p e below T265 (mkF m 41 #[.val (.int p0), .val (.int p1), .val (.int ((p0 &&& (65535 : Int32)).toUInt32.toUInt16.toUInt32.toInt32)), .val (.ref w232), .val (.ref r265)] []) _
        refine XS.aload X265.here hx rfl (hb hby at_41) rfl rfl ?_
        show own_S p e below T265 (mkF m 43 #[.val (.int p0), .val (.int p1), .val (.int ((p0 &&& (65535 : Int32)).toUInt32.toUInt16.toUInt32.toInt32)), .val (.ref w232), .val (.ref r265)] [(.ref r265)]) _
        refine st282 _ ?_
        show own_S p e below T282 (mkF m 46 #[.val (.int p0), .val (.int p1), .val (.int ((p0 &&& (65535 : Int32)).toUInt32.toUInt16.toUInt32.toInt32)), .val (.ref w232), .val (.ref r265)] [(.int ((p0 &&& (65535 : Int32)).toUInt32.toUInt16.toUInt32.toInt32))]) _
        refine XS.iloadN X282.here hx rfl (hb hby at_46) rfl ?_
        show own_S p e below T282 (mkF m 47 #[.val (.int p0), .val (.int p1), .val (.int ((p0 &&& (65535 : Int32)).toUInt32.toUInt16.toUInt32.toInt32)), .val (.ref w232), .val (.ref r265)] [(.int ((p0 &&& (65535 : Int32)).toUInt32.toUInt16.toUInt32.toInt32)), (.int ((p0 &&& (65535 : Int32)).toUInt32.toUInt16.toUInt32.toInt32))]) _
        refine XS.icmpNo X282.here hx rfl (hb hby at_47) rfl (teq (rfl : ((p0 &&& (65535 : Int32)).toUInt32.toUInt16.toUInt32.toInt32) = ((p0 &&& (65535 : Int32)).toUInt32.toUInt16.toUInt32.toInt32))).2 ?_
        show own_S p e below T282 (mkF m 50 #[.val (.int p0), .val (.int p1), .val (.int ((p0 &&& (65535 : Int32)).toUInt32.toUInt16.toUInt32.toInt32)), .val (.ref w232), .val (.ref r265)] []) _
        refine XS.iconst X282.here hx rfl (hb hby at_50) ?_
        show own_S p e below T282 (mkF m 51 #[.val (.int p0), .val (.int p1), .val (.int ((p0 &&& (65535 : Int32)).toUInt32.toUInt16.toUInt32.toInt32)), .val (.ref w232), .val (.ref r265)] [.int 1]) _
        refine XS.goto X282.here hx rfl (pc0 := 51) (pc' := 55) rfl (hb hby at_51) (by decide) (by decide) ?_
        show own_S p e below T282 (mkF m 55 #[.val (.int p0), .val (.int p1), .val (.int ((p0 &&& (65535 : Int32)).toUInt32.toUInt16.toUInt32.toInt32)), .val (.ref w232), .val (.ref r265)] [.int 1]) _
        exact retN X282 hx (t := .boolean) Bd.returns (by simp) (hb hby at_55) hr
      · exact ⟨rfl, N265⟩
set_option maxRecDepth 65536 in
set_option maxHeartbeats 40000000 in
theorem comes_1 {Post : Tables → Env → Array Value → State → Outcome → State → Prop} (hpost : ∀ tb e args s v u, (limb_1_1.after args s (.returned v) u = true ∧ limb_1_2.after args s (.returned v) u = true ∧ True) → FrameEnd s (.returned v) u (Jvm.fieldLocs frame_1_writes args s ++ Jvm.arrayLocs frame_1_arrays args s ++ Jvm.staticLocs frame_1_statics s) 16 128 → Post tb e args s (.returned v) u) :
    ArmFor flags0 classFile x code maxLocals ret World_1 tables_1 room_1 Calls_1 rest_1 Pre_1 Post := by
  intro l hfl _ _ p e ha hc hk s m args below hf hA hF happ hP
  obtain ⟨hcalls, hrest, hpre⟩ := hP
  obtain ⟨-, -, -, hnamed, -, -, -, hat⟩ := (Spec.applies_iff hf).mp happ
  obtain ⟨hg, hn⟩ := and_e (Cond.before_iff.mp (show (Jvm.Cond.and given_1 narrow_1).before args s = true from hpre))
  obtain ⟨g283, g284⟩ := and_e hg
  obtain ⟨g285, g286⟩ := and_e g284
  obtain ⟨w0, w1, rfl⟩ : ∃ w0 w1 : Value, args = #[w0, w1] := by
    have hs : args.size = 2 := by simpa [Cond.value, given_1] using g283
    obtain ⟨L⟩ := args
    match L, hs with
    | [w0, w1], _ => exact ⟨w0, w1, rfl⟩
  have hw := fun d (hd : d ∈ tables_1) => atoms_spec (ws := Jvm.Cond.code x code maxLocals ret :: tables_1) hat d (List.mem_cons_of_mem _ hd)
  have hfit : Fit s := fun {y c} hc i hi => by
    obtain ⟨ha, rfl⟩ := Array.getElem?_eq_some_iff.mp hc
    have q := List.all_eq_true.mp ((Array.all_eq_true_iff_forall_mem.mp hF) _ (Array.getElem_mem ha)) i (List.mem_range.mpr hi)
    simpa [Array.getElem?_eq_getElem hi] using q
  obtain ⟨hsets, hown0⟩ := atoms_of _ (rest_1_c_eq ▸ (show rest_1_c.before _ s = true from hrest))
  have hr0 := Cond.before_iff.mp hown0
  obtain ⟨i0, ei0⟩ := is_v g285
  obtain rfl : w0 = (.int i0) := Option.some.inj ei0
  obtain ⟨i1, ei1⟩ := is_v g286
  obtain rfl : w1 = (.int i1) := Option.some.inj ei1
  obtain ⟨cs, ecs⟩ := is_v (Cond.before_iff.mp (hsets _ (List.mem_of_getElem? (i := 1) rfl)))
  have S_cs : Sta s s.heap "java/lang/String" "COMPACT_STRINGS" "Z" (.int cs) := Sta.start ecs (Or.inl (hsets _ (List.mem_of_getElem? (i := 0) rfl)))
  have hcs : ¬ (cs = (0 : Int32)) := gotF (Cond.eq_ints ecs (Term.int_eval (0))) (not_v (Cond.before_iff.mp (hsets _ (List.mem_of_getElem? (i := 2) rfl))))
  obtain ⟨gf, egf, rv_gf⟩ := isR_v (Cond.before_iff.mp (hsets _ (List.mem_of_getElem? (i := 8) rfl)))
  have S_gf : Sta s s.heap "jdk/internal/util/Preconditions" "SIOOBE_FORMATTER" "Ljava/util/function/BiFunction;" gf := Sta.start egf (Or.inl (hsets _ (List.mem_of_getElem? (i := 7) rfl)))
  obtain ⟨m0, r0⟩ := and_e hn
  obtain ⟨m1, r1⟩ := and_e r0
  obtain ⟨m2, r2⟩ := and_e r1
  obtain ⟨m3, r3⟩ := and_e r2
  obtain ⟨m4, r4⟩ := and_e r3
  obtain ⟨m5, r5⟩ := and_e r4
  obtain ⟨m6, r6⟩ := and_e r5
  obtain ⟨m7, r7⟩ := and_e r6
  obtain ⟨m8, r8⟩ := and_e r7
  obtain ⟨m9, r9⟩ := and_e r8
  obtain ⟨m10, r10⟩ := and_e r9
  obtain ⟨m11, r11⟩ := and_e r10
  obtain ⟨m12, r12⟩ := and_e r11
  obtain ⟨m13, r13⟩ := and_e r12
  obtain ⟨m14, r14⟩ := and_e r13
  obtain ⟨m15, r15⟩ := and_e r14
  obtain ⟨m16, r16⟩ := and_e r15
  obtain ⟨m17, r17⟩ := and_e r16
  obtain ⟨m18, r18⟩ := and_e r17
  obtain ⟨m19, r19⟩ := and_e r18
  obtain ⟨m20, r20⟩ := and_e r19
  obtain ⟨m21, r21⟩ := and_e r20
  obtain ⟨m22, r22⟩ := and_e r21
  obtain ⟨m23, r23⟩ := and_e r22
  obtain ⟨m24, r24⟩ := and_e r23
  obtain ⟨m25, r25⟩ := and_e r24
  have m26 := r25
  obtain ⟨c0, ec0⟩ := exa_v m4
  have E_c0 := Exa.start ec0 m4
  have S_c0 : Sta s s.heap "com/example/chipmantle/chipmantle/Primitive" "BOOLEAN" "Lcom/example/chipmantle/chipmantle/Primitive;" (.ref c0) := Sta.start ec0 (Or.inr ⟨(hw _ (List.mem_of_getElem? (i := 9) rfl)), (hw _ (List.mem_of_getElem? (i := 52) rfl))⟩)
  have F_c0 : Fld s s.heap c0 "com/example/chipmantle/chipmantle/Primitive" "descriptor" "C" (.int (90 : Int32)) := Fld.start (by have q := own_eq_int m19; rw [fld_at ec0] at q; exact q)
  obtain ⟨c1, ec1⟩ := exa_v m6
  have E_c1 := Exa.start ec1 m6
  have S_c1 : Sta s s.heap "com/example/chipmantle/chipmantle/Primitive" "BYTE" "Lcom/example/chipmantle/chipmantle/Primitive;" (.ref c1) := Sta.start ec1 (Or.inr ⟨(hw _ (List.mem_of_getElem? (i := 9) rfl)), (hw _ (List.mem_of_getElem? (i := 53) rfl))⟩)
  have F_c1 : Fld s s.heap c1 "com/example/chipmantle/chipmantle/Primitive" "descriptor" "C" (.int (66 : Int32)) := Fld.start (by have q := own_eq_int m20; rw [fld_at ec1] at q; exact q)
  obtain ⟨c2, ec2⟩ := exa_v m8
  have E_c2 := Exa.start ec2 m8
  have S_c2 : Sta s s.heap "com/example/chipmantle/chipmantle/Primitive" "CHAR" "Lcom/example/chipmantle/chipmantle/Primitive;" (.ref c2) := Sta.start ec2 (Or.inr ⟨(hw _ (List.mem_of_getElem? (i := 9) rfl)), (hw _ (List.mem_of_getElem? (i := 54) rfl))⟩)
  have F_c2 : Fld s s.heap c2 "com/example/chipmantle/chipmantle/Primitive" "descriptor" "C" (.int (67 : Int32)) := Fld.start (by have q := own_eq_int m21; rw [fld_at ec2] at q; exact q)
  obtain ⟨c3, ec3⟩ := exa_v m0
  have E_c3 := Exa.start ec3 m0
  have S_c3 : Sta s s.heap "com/example/chipmantle/chipmantle/Primitive" "SHORT" "Lcom/example/chipmantle/chipmantle/Primitive;" (.ref c3) := Sta.start ec3 (Or.inr ⟨(hw _ (List.mem_of_getElem? (i := 9) rfl)), (hw _ (List.mem_of_getElem? (i := 10) rfl))⟩)
  have F_c3 : Fld s s.heap c3 "com/example/chipmantle/chipmantle/Primitive" "descriptor" "C" (.int (83 : Int32)) := Fld.start (by have q := own_eq_int m22; rw [fld_at ec3] at q; exact q)
  obtain ⟨c4, ec4⟩ := exa_v m11
  have E_c4 := Exa.start ec4 m11
  have S_c4 : Sta s s.heap "com/example/chipmantle/chipmantle/Primitive" "INT" "Lcom/example/chipmantle/chipmantle/Primitive;" (.ref c4) := Sta.start ec4 (Or.inr ⟨(hw _ (List.mem_of_getElem? (i := 9) rfl)), (hw _ (List.mem_of_getElem? (i := 55) rfl))⟩)
  have F_c4 : Fld s s.heap c4 "com/example/chipmantle/chipmantle/Primitive" "descriptor" "C" (.int (73 : Int32)) := Fld.start (by have q := own_eq_int m23; rw [fld_at ec4] at q; exact q)
  obtain ⟨c5, ec5⟩ := exa_v m13
  have E_c5 := Exa.start ec5 m13
  have S_c5 : Sta s s.heap "com/example/chipmantle/chipmantle/Primitive" "LONG" "Lcom/example/chipmantle/chipmantle/Primitive;" (.ref c5) := Sta.start ec5 (Or.inr ⟨(hw _ (List.mem_of_getElem? (i := 9) rfl)), (hw _ (List.mem_of_getElem? (i := 56) rfl))⟩)
  have F_c5 : Fld s s.heap c5 "com/example/chipmantle/chipmantle/Primitive" "descriptor" "C" (.int (74 : Int32)) := Fld.start (by have q := own_eq_int m24; rw [fld_at ec5] at q; exact q)
  obtain ⟨c6, ec6⟩ := exa_v m15
  have E_c6 := Exa.start ec6 m15
  have S_c6 : Sta s s.heap "com/example/chipmantle/chipmantle/Primitive" "FLOAT" "Lcom/example/chipmantle/chipmantle/Primitive;" (.ref c6) := Sta.start ec6 (Or.inr ⟨(hw _ (List.mem_of_getElem? (i := 9) rfl)), (hw _ (List.mem_of_getElem? (i := 57) rfl))⟩)
  have F_c6 : Fld s s.heap c6 "com/example/chipmantle/chipmantle/Primitive" "descriptor" "C" (.int (70 : Int32)) := Fld.start (by have q := own_eq_int m25; rw [fld_at ec6] at q; exact q)
  obtain ⟨c7, ec7⟩ := exa_v m17
  have E_c7 := Exa.start ec7 m17
  have S_c7 : Sta s s.heap "com/example/chipmantle/chipmantle/Primitive" "DOUBLE" "Lcom/example/chipmantle/chipmantle/Primitive;" (.ref c7) := Sta.start ec7 (Or.inr ⟨(hw _ (List.mem_of_getElem? (i := 9) rfl)), (hw _ (List.mem_of_getElem? (i := 58) rfl))⟩)
  have F_c7 : Fld s s.heap c7 "com/example/chipmantle/chipmantle/Primitive" "descriptor" "C" (.int (68 : Int32)) := Fld.start (by have q := own_eq_int m26; rw [fld_at ec7] at q; exact q)
  obtain ⟨va, eva⟩ := exa_v m2
  have E_va := Exa.start eva m2
  have S_va : Sta s s.heap "com/example/chipmantle/chipmantle/Primitive" "$VALUES" "[Lcom/example/chipmantle/chipmantle/Primitive;" (.ref va) := Sta.start eva (Or.inr ⟨(hw _ (List.mem_of_getElem? (i := 9) rfl)), (hw _ (List.mem_of_getElem? (i := 44) rfl))⟩)
  obtain ⟨cl, Ar⟩ := Arr.start eva m1
  have hAt := Arr.fin (State.Warmed39.refl s).alike Ar
  have hsz := own_len eva hAt (own_eq_int m3)
  have el0 := own_eq_ref m5 ec0
  rw [elem_f (j := (0 : Int32)) eva rfl hAt (by decide)] at el0
  have el1 := own_eq_ref m7 ec1
  rw [elem_f (j := (1 : Int32)) eva rfl hAt (by decide)] at el1
  have el2 := own_eq_ref m9 ec2
  rw [elem_f (j := (2 : Int32)) eva rfl hAt (by decide)] at el2
  have el3 := own_eq_ref m10 ec3
  rw [elem_f (j := (3 : Int32)) eva rfl hAt (by decide)] at el3
  have el4 := own_eq_ref m12 ec4
  rw [elem_f (j := (4 : Int32)) eva rfl hAt (by decide)] at el4
  have el5 := own_eq_ref m14 ec5
  rw [elem_f (j := (5 : Int32)) eva rfl hAt (by decide)] at el5
  have el6 := own_eq_ref m16 ec6
  rw [elem_f (j := (6 : Int32)) eva rfl hAt (by decide)] at el6
  have el7 := own_eq_ref m18 ec7
  rw [elem_f (j := (7 : Int32)) eva rfl hAt (by decide)] at el7
  have V_va : Arv s s.heap va cl.cls (.object "com/example/chipmantle/chipmantle/Primitive") (8 : Int32) [(.ref c0), (.ref c1), (.ref c2), (.ref c3), (.ref c4), (.ref c5), (.ref c6), (.ref c7)] .null := Arv.start hfit Ar hsz.1 hsz.2 (by decide) rfl ⟨el0, el1, el2, el3, el4, el5, el6, el7, trivial⟩
  obtain ⟨n, o, h1, h2, h3, _, L, rfl, ⟨rfl, N⟩, hq⟩ := rm0 l s _ hw tables_1 i0 i1 cs gf c0 c1 c2 c3 c4 c5 c6 c7 va cl.cls s.heap s.heap.size (Nat.le_refl _) (Old.start s) S_cs hcs S_gf rv_gf S_c0 S_c1 S_c2 S_c3 S_c4 S_c5 S_c6 S_c7 S_va V_va E_va F_c0 F_c1 F_c2 F_c3 F_c4 F_c5 F_c6 F_c7 p e ha hc hk s m _ below hf ((Spec.applies_iff_loose hf).mp happ).1 ⟨rfl, State.Warmed39.refl s, rfl⟩ trivial
  refine ⟨n, _, h1, h2, h3, hpost _ _ _ _ _ _ ⟨Cond.after_iff.mpr rfl, Cond.after_iff.mpr (eq_i res_at (Term.int_eval (1)) rfl), trivial⟩ ⟨hq.1, hq.2.1, (hq.2.2.sift fun y hy => Or.inr (N y hy)).mono (by decide) (by decide)⟩⟩
theorem main_1_1 : Claimed_1_1 := comes_1 fun _ _ _ _ _ _ h hF => ⟨h.1, hF⟩
theorem main_1_2 : Claimed_1_2 := comes_1 fun _ _ _ _ _ _ h hF => ⟨h.2.1, hF⟩
end Jvm.Pilot.@@N@@
namespace Jvm.Pilot.@@N@@
open Jvm Jvm.ClassFile Sem Op Lib Jvm.Free Jvm.Stand Jvm.Pilot.@@N@@.Jvm.D
/-! MADE BY PROGRAM (witnessworld.py) out of the Statement's table words and the real class files: 19 classes; the members and pool entries that the words name. The judged class is class 1, her method 3. -/
namespace start1
open Jvm.ClassFile
def u (s : String) : CpInfo := .utf8 (stringToUtf16 s)
/-- a pool by its gaps: so many unusable entries, then the entry; so many at the end -/
def gap : Nat → List CpInfo → List CpInfo
  | 0, r => r
  | n + 1, r => .unusable :: gap n r
def poolList (es : List (Nat × CpInfo)) (last : Nat) : List CpInfo := es.foldr (fun e r => gap e.1 (e.2 :: r)) (gap last [])
def pool (es : List (Nat × CpInfo)) (last : Nat) : Array CpInfo := ⟨poolList es last⟩
def fileOf (pool : Array CpInfo) (this : Nat) (attrs : Array Attribute := #[]) (ms : Array MethodInfo := #[]) (fl : Nat := 33) (sup : Nat := 0) (ifs : Array Nat := #[]) (fds : Array FieldInfo := #[]) : ClassFile where
  minorVersion := 0
  majorVersion := 65
  constantPool := pool
  accessFlags := fl
  thisClass := this
  superClass := sup
  interfaces := ifs
  fields := fds
  methods := ms
  attributes := attrs
def plain (name : String) (sup : Option ClassId) : Class where
  name := name
  kind := .ordinary
  loader := none
  accessFlags := 33
  super := sup
  interfaces := #[]
  cf := none
  fields := #[]
  methods := #[]
  instanceTypes := #[]
  staticTypes := #[]
  resolved := #[]
  callSites := []
  init := .initialized
  statics := none
  mirror := none

def pool0 : Array CpInfo := pool [(5, u "<init>"), (0, u "()V"), (1, .class_ 10), (1, u "java/lang/Object"), (85, u "clone"), (0, u "()Ljava/lang/Object;")] 26

def k0c0 : Code := { maxStack := 0, maxLocals := 1, code := object_method_1_code, exceptionTable := #[], attributes := #[] }
def k0m0 : Method := { name := "<init>", desc := "()V", sig := { parameters := [], returnType := none }, accessFlags := 1, code := some k0c0 }
def k0m1 : Method := { name := "clone", desc := "()Ljava/lang/Object;", sig := { parameters := [], returnType := some (.object "java/lang/Object") }, accessFlags := 260, code := none }
/-- java/lang/Object -/
def k0 : Class := { plain "java/lang/Object" none with
  accessFlags := 33
  interfaces := #[]
  cf := some (fileOf pool0 8 #[] #[{ accessFlags := 1, nameIndex := 5, descriptorIndex := 6, attributes := #[] }, { accessFlags := 260, nameIndex := 96, descriptorIndex := 97, attributes := #[] }] 33 0 #[] #[])
  fields := #[]
  methods := #[k0m0, k0m1]
  instanceTypes := #[]
  staticTypes := #[]
  resolved := Array.replicate 124 none
  statics := none }

def pool1 : Array CpInfo := pool [(2, .class_ 4), (1, u "java/lang/Object"), (0, u "<init>"), (0, u "()V"), (0, .fieldref 8 9), (0, .class_ 10), (0, .nameAndType 11 12), (0, u "com/example/chipmantle/chipmantle/Primitive"), (0, u "BOOLEAN"), (0, u "Lcom/example/chipmantle/chipmantle/Primitive;"), (0, .fieldref 8 14), (0, .nameAndType 15 12), (0, u "BYTE"), (0, .fieldref 8 17), (0, .nameAndType 18 12), (0, u "CHAR"), (0, .fieldref 8 20), (0, .nameAndType 21 12), (0, u "SHORT"), (0, .fieldref 8 23), (0, .nameAndType 24 12), (0, u "INT"), (0, .fieldref 8 26), (0, .nameAndType 27 12), (0, u "LONG"), (0, .fieldref 8 29), (0, .nameAndType 30 12), (0, u "FLOAT"), (0, .fieldref 8 32), (0, .nameAndType 33 12), (0, u "DOUBLE"), (0, .integer 65535), (0, .methodref 36 37), (0, .class_ 38), (0, .nameAndType 39 40), (0, u "com/example/chipmantle/chipmantle/PrimitiveOfPinLaw"), (0, u "expected"), (0, u "(C)Lcom/example/chipmantle/chipmantle/Primitive;"), (0, .methodref 36 42), (0, .nameAndType 43 44), (0, u "pick"), (0, u "(I)C"), (0, .methodref 46 47), (0, .class_ 48), (0, .nameAndType 49 50), (0, u "java/lang/String"), (0, u "valueOf"), (0, u "(C)Ljava/lang/String;"), (0, .methodref 8 52), (0, .nameAndType 53 54), (0, u "of"), (0, u "(Ljava/lang/String;)Lcom/example/chipmantle/chipmantle/Primitive;"), (0, .fieldref 8 56), (0, .nameAndType 57 58), (0, u "descriptor"), (0, u "C"), (3, u "law"), (0, u "(II)Z")] 2

def k1m0 : Method := { name := "<init>", desc := "()V", sig := { parameters := [], returnType := none }, accessFlags := 1, code := none }
def k1c1 : Code := { maxStack := 2, maxLocals := 1, code := method_2_code, exceptionTable := #[], attributes := #[] }
def k1m1 : Method := { name := "expected", desc := "(C)Lcom/example/chipmantle/chipmantle/Primitive;", sig := { parameters := [.char], returnType := some (.object "com/example/chipmantle/chipmantle/Primitive") }, accessFlags := 10, code := some k1c1 }
def k1c2 : Code := { maxStack := 2, maxLocals := 1, code := method_3_code, exceptionTable := #[], attributes := #[] }
def k1m2 : Method := { name := "pick", desc := "(I)C", sig := { parameters := [.int], returnType := some .char }, accessFlags := 10, code := some k1c2 }
def k1c3 : Code := { maxStack := 2, maxLocals := 5, code := code, exceptionTable := #[], attributes := #[] }
def k1m3 : Method := { name := "law", desc := "(II)Z", sig := { parameters := [.int, .int], returnType := some .boolean }, accessFlags := 9, code := some k1c3 }
/-- com/example/chipmantle/chipmantle/PrimitiveOfPinLaw -/
def k1 : Class := { plain "com/example/chipmantle/chipmantle/PrimitiveOfPinLaw" (some 0) with
  accessFlags := 49
  interfaces := #[]
  cf := some (fileOf pool1 36 #[] #[{ accessFlags := 1, nameIndex := 5, descriptorIndex := 6, attributes := #[] }, { accessFlags := 10, nameIndex := 39, descriptorIndex := 40, attributes := #[] }, { accessFlags := 10, nameIndex := 43, descriptorIndex := 44, attributes := #[] }, { accessFlags := 9, nameIndex := 62, descriptorIndex := 63, attributes := #[] }] 49 2 #[] #[])
  fields := #[]
  methods := #[k1m0, k1m1, k1m2, k1m3]
  instanceTypes := #[]
  staticTypes := #[]
  resolved := Array.replicate 66 none
  statics := none }

def pool2 : Array CpInfo := pool [(1, .class_ 2), (0, u "java/lang/constant/Constable"), (0, .class_ 4), (0, u "java/lang/Object")] 6

/-- java/lang/constant/Constable -/
def k2 : Class := { plain "java/lang/constant/Constable" (some 0) with
  accessFlags := 1537
  interfaces := #[]
  cf := some (fileOf pool2 1 #[] #[] 1537 3 #[] #[])
  fields := #[]
  methods := #[]
  instanceTypes := #[]
  staticTypes := #[]
  resolved := Array.replicate 11 none
  statics := none }

def pool3 : Array CpInfo := pool [(1, .class_ 2), (0, u "java/lang/Comparable"), (0, .class_ 4), (0, u "java/lang/Object")] 7

/-- java/lang/Comparable -/
def k3 : Class := { plain "java/lang/Comparable" (some 0) with
  accessFlags := 1537
  interfaces := #[]
  cf := some (fileOf pool3 1 #[] #[] 1537 3 #[] #[])
  fields := #[]
  methods := #[]
  instanceTypes := #[]
  staticTypes := #[]
  resolved := Array.replicate 12 none
  statics := none }

def pool4 : Array CpInfo := pool [(1, .class_ 2), (0, u "java/io/Serializable"), (0, .class_ 4), (0, u "java/lang/Object")] 2

/-- java/io/Serializable -/
def k4 : Class := { plain "java/io/Serializable" (some 0) with
  accessFlags := 1537
  interfaces := #[]
  cf := some (fileOf pool4 1 #[] #[] 1537 3 #[] #[])
  fields := #[]
  methods := #[]
  instanceTypes := #[]
  staticTypes := #[]
  resolved := Array.replicate 7 none
  statics := none }

def pool5 : Array CpInfo := pool [(2, .class_ 4), (1, u "java/lang/Enum"), (0, u "name"), (0, u "Ljava/lang/String;"), (2, u "ordinal"), (0, u "I"), (1, .class_ 14), (1, u "java/lang/Object"), (4, u "hash"), (86, .class_ 108), (1, u "java/lang/Enum$EnumDesc"), (2, .class_ 112), (0, u "java/lang/constant/Constable"), (0, .class_ 114), (0, u "java/lang/Comparable"), (0, .class_ 116), (0, u "java/io/Serializable")] 87

/-- java/lang/Enum -/
def k5 : Class := { plain "java/lang/Enum" (some 0) with
  accessFlags := 1057
  interfaces := #[2, 3, 4]
  cf := some (fileOf pool5 2 #[.nestMembers #[106]] #[] 1057 12 #[111, 113, 115] #[{ accessFlags := 18, nameIndex := 5, descriptorIndex := 6, attributes := #[] }, { accessFlags := 18, nameIndex := 9, descriptorIndex := 10, attributes := #[] }, { accessFlags := 2, nameIndex := 19, descriptorIndex := 10, attributes := #[] }])
  fields := #[{ name := "name", type := (.object "java/lang/String"), accessFlags := 18, slot := 0, constantValue := 0 }, { name := "ordinal", type := .int, accessFlags := 18, slot := 1, constantValue := 0 }, { name := "hash", type := .int, accessFlags := 2, slot := 2, constantValue := 0 }]
  methods := #[]
  instanceTypes := #[(.object "java/lang/String"), .int, .int]
  staticTypes := #[]
  resolved := Array.replicate 204 none
  statics := none }

def pool6 : Array CpInfo := pool [(1, .class_ 2), (0, u "com/example/chipmantle/chipmantle/Primitive"), (2, u "BOOLEAN"), (0, u "Lcom/example/chipmantle/chipmantle/Primitive;"), (2, u "BYTE"), (2, u "CHAR"), (2, u "SHORT"), (2, u "INT"), (2, u "LONG"), (2, u "FLOAT"), (2, u "DOUBLE"), (0, .fieldref 1 29), (0, .nameAndType 30 31), (0, u "$VALUES"), (0, u "[Lcom/example/chipmantle/chipmantle/Primitive;"), (0, .methodref 33 34), (0, .class_ 31), (0, .nameAndType 35 36), (0, u "clone"), (0, u "()Ljava/lang/Object;"), (1, .class_ 40), (1, u "java/lang/Enum"), (6, .fieldref 1 48), (0, .nameAndType 49 50), (0, u "descriptor"), (0, u "C"), (2, u "type"), (0, u "Ljava/lang/Class;"), (2, u "wrapper"), (2, u "size"), (0, u "I"), (0, .methodref 1 63), (0, .nameAndType 64 65), (0, u "values"), (0, u "()[Lcom/example/chipmantle/chipmantle/Primitive;"), (0, .methodref 67 68), (0, .class_ 69), (0, .nameAndType 70 71), (0, u "java/lang/String"), (0, u "length"), (0, u "()I"), (0, .methodref 67 73), (0, .nameAndType 74 75), (0, u "charAt"), (0, u "(I)C"), (168, u "(Ljava/lang/String;)Lcom/example/chipmantle/chipmantle/Primitive;"), (2, u "of")] 30

def k6c0 : Code := { maxStack := 1, maxLocals := 0, code := prog_7_method_1_code, exceptionTable := #[], attributes := #[] }
def k6m0 : Method := { name := "values", desc := "()[Lcom/example/chipmantle/chipmantle/Primitive;", sig := { parameters := [], returnType := some (.array (.object "com/example/chipmantle/chipmantle/Primitive")) }, accessFlags := 9, code := some k6c0 }
def k6c1 : Code := { maxStack := 3, maxLocals := 5, code := prog_7_method_4_code, exceptionTable := #[], attributes := #[] }
def k6m1 : Method := { name := "of", desc := "(Ljava/lang/String;)Lcom/example/chipmantle/chipmantle/Primitive;", sig := { parameters := [(.object "java/lang/String")], returnType := some (.object "com/example/chipmantle/chipmantle/Primitive") }, accessFlags := 8, code := some k6c1 }
/-- com/example/chipmantle/chipmantle/Primitive -/
def k6 : Class := { plain "com/example/chipmantle/chipmantle/Primitive" (some 5) with
  accessFlags := 16432
  interfaces := #[]
  cf := some (fileOf pool6 1 #[] #[{ accessFlags := 9, nameIndex := 64, descriptorIndex := 65, attributes := #[] }, { accessFlags := 8, nameIndex := 247, descriptorIndex := 244, attributes := #[] }] 16432 38 #[] #[{ accessFlags := 16409, nameIndex := 5, descriptorIndex := 6, attributes := #[] }, { accessFlags := 16409, nameIndex := 9, descriptorIndex := 6, attributes := #[] }, { accessFlags := 16409, nameIndex := 12, descriptorIndex := 6, attributes := #[] }, { accessFlags := 16409, nameIndex := 15, descriptorIndex := 6, attributes := #[] }, { accessFlags := 16409, nameIndex := 18, descriptorIndex := 6, attributes := #[] }, { accessFlags := 16409, nameIndex := 21, descriptorIndex := 6, attributes := #[] }, { accessFlags := 16409, nameIndex := 24, descriptorIndex := 6, attributes := #[] }, { accessFlags := 16409, nameIndex := 27, descriptorIndex := 6, attributes := #[] }, { accessFlags := 16, nameIndex := 49, descriptorIndex := 50, attributes := #[] }, { accessFlags := 16, nameIndex := 53, descriptorIndex := 54, attributes := #[] }, { accessFlags := 16, nameIndex := 57, descriptorIndex := 54, attributes := #[] }, { accessFlags := 16, nameIndex := 60, descriptorIndex := 61, attributes := #[] }, { accessFlags := 4122, nameIndex := 30, descriptorIndex := 31, attributes := #[] }])
  fields := #[{ name := "BOOLEAN", type := (.object "com/example/chipmantle/chipmantle/Primitive"), accessFlags := 16409, slot := 0, constantValue := 0 }, { name := "BYTE", type := (.object "com/example/chipmantle/chipmantle/Primitive"), accessFlags := 16409, slot := 1, constantValue := 0 }, { name := "CHAR", type := (.object "com/example/chipmantle/chipmantle/Primitive"), accessFlags := 16409, slot := 2, constantValue := 0 }, { name := "SHORT", type := (.object "com/example/chipmantle/chipmantle/Primitive"), accessFlags := 16409, slot := 3, constantValue := 0 }, { name := "INT", type := (.object "com/example/chipmantle/chipmantle/Primitive"), accessFlags := 16409, slot := 4, constantValue := 0 }, { name := "LONG", type := (.object "com/example/chipmantle/chipmantle/Primitive"), accessFlags := 16409, slot := 5, constantValue := 0 }, { name := "FLOAT", type := (.object "com/example/chipmantle/chipmantle/Primitive"), accessFlags := 16409, slot := 6, constantValue := 0 }, { name := "DOUBLE", type := (.object "com/example/chipmantle/chipmantle/Primitive"), accessFlags := 16409, slot := 7, constantValue := 0 }, { name := "descriptor", type := .char, accessFlags := 16, slot := 3, constantValue := 0 }, { name := "type", type := (.object "java/lang/Class"), accessFlags := 16, slot := 4, constantValue := 0 }, { name := "wrapper", type := (.object "java/lang/Class"), accessFlags := 16, slot := 5, constantValue := 0 }, { name := "size", type := .int, accessFlags := 16, slot := 6, constantValue := 0 }, { name := "$VALUES", type := (.array (.object "com/example/chipmantle/chipmantle/Primitive")), accessFlags := 4122, slot := 8, constantValue := 0 }]
  methods := #[k6m0, k6m1]
  instanceTypes := #[(.object "java/lang/String"), .int, .int, .char, (.object "java/lang/Class"), (.object "java/lang/Class"), .int]
  staticTypes := #[(.object "com/example/chipmantle/chipmantle/Primitive"), (.object "com/example/chipmantle/chipmantle/Primitive"), (.object "com/example/chipmantle/chipmantle/Primitive"), (.object "com/example/chipmantle/chipmantle/Primitive"), (.object "com/example/chipmantle/chipmantle/Primitive"), (.object "com/example/chipmantle/chipmantle/Primitive"), (.object "com/example/chipmantle/chipmantle/Primitive"), (.object "com/example/chipmantle/chipmantle/Primitive"), (.array (.object "com/example/chipmantle/chipmantle/Primitive"))]
  resolved := Array.replicate 278 none
  statics := some 0 }

def pool7 : Array CpInfo := pool [(2, .class_ 4), (1, u "java/lang/CharSequence"), (42, .class_ 48), (0, u "java/lang/CharSequence$1CodePointIterator"), (10, .class_ 60), (0, u "java/lang/CharSequence$1CharIterator"), (5, .class_ 67), (0, u "java/lang/Object")] 63

/-- java/lang/CharSequence -/
def k7 : Class := { plain "java/lang/CharSequence" (some 0) with
  accessFlags := 1537
  interfaces := #[]
  cf := some (fileOf pool7 2 #[.nestMembers #[47, 59]] #[] 1537 66 #[] #[])
  fields := #[]
  methods := #[]
  instanceTypes := #[]
  staticTypes := #[]
  resolved := Array.replicate 131 none
  statics := none }

def pool8 : Array CpInfo := pool [(1, .class_ 2), (0, u "java/lang/constant/ConstantDesc"), (0, .class_ 4), (0, u "java/lang/Object")] 32

/-- java/lang/constant/ConstantDesc -/
def k8 : Class := { plain "java/lang/constant/ConstantDesc" (some 0) with
  accessFlags := 1537
  interfaces := #[]
  cf := some (fileOf pool8 1 #[] #[] 1537 3 #[] #[])
  fields := #[]
  methods := #[]
  instanceTypes := #[]
  staticTypes := #[]
  resolved := Array.replicate 37 none
  statics := none }

def pool9 : Array CpInfo := pool [(1, .methodref 2 3), (0, .class_ 4), (0, .nameAndType 5 6), (0, u "java/lang/Object"), (0, u "<init>"), (0, u "()V"), (2, .fieldref 10 11), (0, .class_ 12), (0, .nameAndType 13 14), (0, u "java/lang/String"), (0, u "value"), (0, u "[B"), (0, .fieldref 10 16), (0, .nameAndType 17 18), (0, u "coder"), (0, u "B"), (2, u "hash"), (0, u "I"), (2, u "hashIsZero"), (0, u "Z"), (11, .fieldref 10 39), (0, .nameAndType 40 26), (0, u "COMPACT_STRINGS"), (12, u "toBytes"), (53, .class_ 109), (1, u "java/lang/StringLatin1"), (32, u "()Z"), (66, .methodref 10 210), (0, .nameAndType 5 211), (0, u "([BB)V"), (122, u "()I"), (0, .methodref 10 336), (0, .nameAndType 17 337), (0, u "()B"), (25, u "([BI)C"), (5, u "(C)Z"), (21, u "(II)V"), (35, u "(I)C"), (64, .methodref 10 493), (0, .nameAndType 494 142), (0, u "isLatin1"), (0, .methodref 107 496), (0, .nameAndType 497 363), (0, u "charAt"), (3, u "checkIndex"), (5, u "length"), (67, .class_ 576), (0, u "java/lang/CharSequence"), (22, u "CASE_INSENSITIVE_ORDER"), (0, u "Ljava/util/Comparator;"), (181, u "valueOf"), (0, u "(C)Ljava/lang/String;"), (231, .methodref 107 1016), (0, .nameAndType 1017 369), (0, u "canEncode"), (0, .methodref 107 1019), (0, .nameAndType 53 1020), (0, u "(C)[B"), (32, .fieldref 1054 1055), (0, .class_ 1056), (0, .nameAndType 1057 1058), (0, u "jdk/internal/util/Preconditions"), (0, u "SIOOBE_FORMATTER"), (0, u "Ljava/util/function/BiFunction;"), (0, .methodref 1054 1060), (0, .nameAndType 501 1061), (0, u "(IILjava/util/function/BiFunction;)I"), (39, u "serialPersistentFields"), (0, u "[Ljava/io/ObjectStreamField;"), (0, .class_ 1104), (0, u "java/lang/String$CaseInsensitiveComparator"), (1, .class_ 1107), (0, u "java/io/Serializable"), (0, .class_ 1109), (0, u "java/lang/Comparable"), (0, .class_ 1111), (0, u "java/lang/constant/Constable"), (0, .class_ 1113), (0, u "java/lang/constant/ConstantDesc"), (2, u "serialVersionUID"), (0, u "J"), (3, u "REPL"), (0, u "C"), (2, u "LATIN1"), (1, u "UTF16")] 323

def k9m0 : Method := { name := "<init>", desc := "()V", sig := { parameters := [], returnType := none }, accessFlags := 1, code := none }
def k9c1 : Code := { maxStack := 2, maxLocals := 1, code := jdk_42_method_54_code, exceptionTable := #[], attributes := #[] }
def k9m1 : Method := { name := "length", desc := "()I", sig := { parameters := [], returnType := some .int }, accessFlags := 1, code := some k9c1 }
def k9c2 : Code := { maxStack := 2, maxLocals := 2, code := jdk_42_method_56_code, exceptionTable := #[], attributes := #[] }
def k9m2 : Method := { name := "charAt", desc := "(I)C", sig := { parameters := [.int], returnType := some .char }, accessFlags := 1, code := some k9c2 }
def k9c3 : Code := { maxStack := 4, maxLocals := 1, code := jdk_42_method_139_code, exceptionTable := #[], attributes := #[] }
def k9m3 : Method := { name := "valueOf", desc := "(C)Ljava/lang/String;", sig := { parameters := [.char], returnType := some (.object "java/lang/String") }, accessFlags := 9, code := some k9c3 }
def k9c4 : Code := { maxStack := 2, maxLocals := 3, code := jdk_42_method_151_code, exceptionTable := #[], attributes := #[] }
def k9m4 : Method := { name := "<init>", desc := "([BB)V", sig := { parameters := [(.array .byte), .byte], returnType := none }, accessFlags := 0, code := some k9c4 }
def k9c5 : Code := { maxStack := 1, maxLocals := 1, code := jdk_42_method_152_code, exceptionTable := #[], attributes := #[] }
def k9m5 : Method := { name := "coder", desc := "()B", sig := { parameters := [], returnType := some .byte }, accessFlags := 0, code := some k9c5 }
def k9c6 : Code := { maxStack := 1, maxLocals := 1, code := jdk_42_method_154_code, exceptionTable := #[], attributes := #[] }
def k9m6 : Method := { name := "isLatin1", desc := "()Z", sig := { parameters := [], returnType := some .boolean }, accessFlags := 0, code := some k9c6 }
def k9c7 : Code := { maxStack := 3, maxLocals := 2, code := jdk_42_method_155_code, exceptionTable := #[], attributes := #[] }
def k9m7 : Method := { name := "checkIndex", desc := "(II)V", sig := { parameters := [.int, .int], returnType := none }, accessFlags := 8, code := some k9c7 }
/-- java/lang/String -/
def k9 : Class := { plain "java/lang/String" (some 0) with
  accessFlags := 49
  interfaces := #[4, 3, 7, 2, 8]
  cf := some (fileOf pool9 10 #[.nestMembers #[1103]] #[{ accessFlags := 1, nameIndex := 5, descriptorIndex := 6, attributes := #[] }, { accessFlags := 1, nameIndex := 507, descriptorIndex := 334, attributes := #[] }, { accessFlags := 1, nameIndex := 497, descriptorIndex := 427, attributes := #[] }, { accessFlags := 9, nameIndex := 782, descriptorIndex := 783, attributes := #[] }, { accessFlags := 0, nameIndex := 5, descriptorIndex := 211, attributes := #[] }, { accessFlags := 0, nameIndex := 17, descriptorIndex := 337, attributes := #[] }, { accessFlags := 0, nameIndex := 494, descriptorIndex := 142, attributes := #[] }, { accessFlags := 8, nameIndex := 501, descriptorIndex := 391, attributes := #[] }] 49 2 #[1106, 1108, 575, 1110, 1112] #[{ accessFlags := 18, nameIndex := 13, descriptorIndex := 14, attributes := #[] }, { accessFlags := 18, nameIndex := 17, descriptorIndex := 18, attributes := #[] }, { accessFlags := 2, nameIndex := 21, descriptorIndex := 22, attributes := #[] }, { accessFlags := 2, nameIndex := 25, descriptorIndex := 26, attributes := #[] }, { accessFlags := 26, nameIndex := 1116, descriptorIndex := 1117, attributes := #[] }, { accessFlags := 24, nameIndex := 40, descriptorIndex := 26, attributes := #[] }, { accessFlags := 26, nameIndex := 1101, descriptorIndex := 1102, attributes := #[] }, { accessFlags := 26, nameIndex := 1121, descriptorIndex := 1122, attributes := #[] }, { accessFlags := 25, nameIndex := 599, descriptorIndex := 600, attributes := #[] }, { accessFlags := 24, nameIndex := 1125, descriptorIndex := 18, attributes := #[] }, { accessFlags := 24, nameIndex := 1127, descriptorIndex := 18, attributes := #[] }])
  fields := #[{ name := "value", type := (.array .byte), accessFlags := 18, slot := 0, constantValue := 0 }, { name := "coder", type := .byte, accessFlags := 18, slot := 1, constantValue := 0 }, { name := "hash", type := .int, accessFlags := 2, slot := 2, constantValue := 0 }, { name := "hashIsZero", type := .boolean, accessFlags := 2, slot := 3, constantValue := 0 }, { name := "serialVersionUID", type := .long, accessFlags := 26, slot := 0, constantValue := 0 }, { name := "COMPACT_STRINGS", type := .boolean, accessFlags := 24, slot := 1, constantValue := 0 }, { name := "serialPersistentFields", type := (.array (.object "java/io/ObjectStreamField")), accessFlags := 26, slot := 2, constantValue := 0 }, { name := "REPL", type := .char, accessFlags := 26, slot := 3, constantValue := 0 }, { name := "CASE_INSENSITIVE_ORDER", type := (.object "java/util/Comparator"), accessFlags := 25, slot := 4, constantValue := 0 }, { name := "LATIN1", type := .byte, accessFlags := 24, slot := 5, constantValue := 0 }, { name := "UTF16", type := .byte, accessFlags := 24, slot := 6, constantValue := 0 }]
  methods := #[k9m0, k9m1, k9m2, k9m3, k9m4, k9m5, k9m6, k9m7]
  instanceTypes := #[(.array .byte), .byte, .int, .boolean]
  staticTypes := #[.long, .boolean, (.array (.object "java/io/ObjectStreamField")), .char, (.object "java/util/Comparator"), .byte, .byte]
  resolved := Array.replicate 1451 none
  statics := some 1 }

def pool10 : Array CpInfo := pool [(1, .class_ 2), (0, u "java/lang/String"), (1, .class_ 6), (1, u "java/lang/Object"), (0, u "<init>"), (0, u "()V"), (0, .methodref 1 10), (0, .nameAndType 11 12), (0, u "checkIndex"), (0, u "(II)V"), (1, .class_ 16), (1, u "java/lang/StringLatin1"), (36, u "([BI)C"), (36, u "canEncode"), (14, u "(C)Z"), (15, u "$assertionsDisabled"), (0, u "Z"), (98, .class_ 223), (1, u "java/lang/StringLatin1$LinesSpliterator"), (28, u "charAt"), (127, u "toBytes"), (1, u "(C)[B"), (7, .class_ 391), (0, u "java/lang/StringLatin1$CharsSpliterator")] 3

def k10m0 : Method := { name := "<init>", desc := "()V", sig := { parameters := [], returnType := none }, accessFlags := 0, code := none }
def k10c1 : Code := { maxStack := 2, maxLocals := 2, code := jdk_43_method_2_code, exceptionTable := #[], attributes := #[] }
def k10m1 : Method := { name := "charAt", desc := "([BI)C", sig := { parameters := [(.array .byte), .int], returnType := some .char }, accessFlags := 9, code := some k10c1 }
def k10c2 : Code := { maxStack := 2, maxLocals := 1, code := jdk_43_method_3_code, exceptionTable := #[], attributes := #[] }
def k10m2 : Method := { name := "canEncode", desc := "(C)Z", sig := { parameters := [.char], returnType := some .boolean }, accessFlags := 9, code := some k10c2 }
def k10c3 : Code := { maxStack := 4, maxLocals := 1, code := jdk_43_method_46_code, exceptionTable := #[], attributes := #[] }
def k10m3 : Method := { name := "toBytes", desc := "(C)[B", sig := { parameters := [.char], returnType := some (.array .byte) }, accessFlags := 9, code := some k10c3 }
/-- java/lang/StringLatin1 -/
def k10 : Class := { plain "java/lang/StringLatin1" (some 0) with
  accessFlags := 48
  interfaces := #[]
  cf := some (fileOf pool10 14 #[.nestMembers #[390, 221]] #[{ accessFlags := 0, nameIndex := 7, descriptorIndex := 8, attributes := #[] }, { accessFlags := 9, nameIndex := 252, descriptorIndex := 53, attributes := #[] }, { accessFlags := 9, nameIndex := 90, descriptorIndex := 105, attributes := #[] }, { accessFlags := 9, nameIndex := 380, descriptorIndex := 382, attributes := #[] }] 48 4 #[] #[{ accessFlags := 4120, nameIndex := 121, descriptorIndex := 122, attributes := #[] }])
  fields := #[{ name := "$assertionsDisabled", type := .boolean, accessFlags := 4120, slot := 0, constantValue := 0 }]
  methods := #[k10m0, k10m1, k10m2, k10m3]
  instanceTypes := #[]
  staticTypes := #[.boolean]
  resolved := Array.replicate 395 none
  statics := none }

def pool11 : Array CpInfo := pool [(1, .class_ 2), (0, u "java/lang/Cloneable"), (0, .class_ 4), (0, u "java/lang/Object")] 2

/-- java/lang/Cloneable -/
def k11 : Class := { plain "java/lang/Cloneable" (some 0) with
  accessFlags := 1537
  interfaces := #[]
  cf := some (fileOf pool11 1 #[] #[] 1537 3 #[] #[])
  fields := #[]
  methods := #[]
  instanceTypes := #[]
  staticTypes := #[]
  resolved := Array.replicate 7 none
  statics := none }

def pool12 : Array CpInfo := pool [(2, .class_ 4), (1, u "java/lang/Object"), (0, u "<init>"), (0, u "()V"), (17, .class_ 26), (1, u "jdk/internal/util/Preconditions"), (6, u "checkIndex"), (21, .class_ 56), (0, u "jdk/internal/util/Preconditions$4"), (57, .class_ 115), (0, u "jdk/internal/util/Preconditions$1"), (7, u "SIOOBE_FORMATTER"), (0, u "Ljava/util/function/BiFunction;"), (0, .class_ 126), (0, u "jdk/internal/util/Preconditions$2"), (3, u "AIOOBE_FORMATTER"), (0, .class_ 132), (0, u "jdk/internal/util/Preconditions$3"), (3, u "IOOBE_FORMATTER"), (41, u "(IILjava/util/function/BiFunction;)I")] 15

def k12m0 : Method := { name := "<init>", desc := "()V", sig := { parameters := [], returnType := none }, accessFlags := 1, code := none }
def k12c1 : Code := { maxStack := 3, maxLocals := 3, code := jdk_41_method_11_code, exceptionTable := #[], attributes := #[] }
def k12m1 : Method := { name := "checkIndex", desc := "(IILjava/util/function/BiFunction;)I", sig := { parameters := [.int, .int, (.object "java/util/function/BiFunction")], returnType := some .int }, accessFlags := 9, code := some k12c1 }
/-- jdk/internal/util/Preconditions -/
def k12 : Class := { plain "jdk/internal/util/Preconditions" (some 0) with
  accessFlags := 33
  interfaces := #[]
  cf := some (fileOf pool12 24 #[.nestMembers #[55, 131, 125, 114]] #[{ accessFlags := 1, nameIndex := 5, descriptorIndex := 6, attributes := #[] }, { accessFlags := 9, nameIndex := 33, descriptorIndex := 178, attributes := #[] }] 33 2 #[] #[{ accessFlags := 25, nameIndex := 123, descriptorIndex := 124, attributes := #[] }, { accessFlags := 25, nameIndex := 130, descriptorIndex := 124, attributes := #[] }, { accessFlags := 25, nameIndex := 136, descriptorIndex := 124, attributes := #[] }])
  fields := #[{ name := "SIOOBE_FORMATTER", type := (.object "java/util/function/BiFunction"), accessFlags := 25, slot := 0, constantValue := 0 }, { name := "AIOOBE_FORMATTER", type := (.object "java/util/function/BiFunction"), accessFlags := 25, slot := 1, constantValue := 0 }, { name := "IOOBE_FORMATTER", type := (.object "java/util/function/BiFunction"), accessFlags := 25, slot := 2, constantValue := 0 }]
  methods := #[k12m0, k12m1]
  instanceTypes := #[]
  staticTypes := #[(.object "java/util/function/BiFunction"), (.object "java/util/function/BiFunction"), (.object "java/util/function/BiFunction")]
  resolved := Array.replicate 194 none
  statics := some 2 }

def pool13 : Array CpInfo := pool [(9, u "<init>"), (6, .class_ 18), (1, u "java/lang/Object"), (0, u "()V"), (1, .class_ 23), (1, u "jdk/internal/util/ArraysSupport"), (0, u "LOG2_ARRAY_LONG_INDEX_SCALE"), (0, u "I"), (2, u "U"), (0, u "Ljdk/internal/misc/Unsafe;"), (8, u "BIG_ENDIAN"), (0, u "Z"), (8, u "LOG2_BYTE_BIT_SIZE"), (4, u "LOG2_ARRAY_INT_INDEX_SCALE"), (54, u "JLA"), (0, u "Ljdk/internal/access/JavaLangAccess;"), (11, u "LOG2_ARRAY_BOOLEAN_INDEX_SCALE"), (9, u "LOG2_ARRAY_BYTE_INDEX_SCALE"), (5, u "LOG2_ARRAY_CHAR_INDEX_SCALE"), (5, u "LOG2_ARRAY_SHORT_INDEX_SCALE"), (18, u "LOG2_ARRAY_FLOAT_INDEX_SCALE"), (24, u "LOG2_ARRAY_DOUBLE_INDEX_SCALE"), (89, u "T_BOOLEAN"), (2, u "T_CHAR"), (1, u "T_FLOAT"), (1, u "T_DOUBLE"), (1, u "T_BYTE"), (1, u "T_SHORT"), (1, u "T_INT"), (1, u "T_LONG"), (1, u "SOFT_MAX_ARRAY_LENGTH")] 83

def k13m0 : Method := { name := "<init>", desc := "()V", sig := { parameters := [], returnType := none }, accessFlags := 2, code := none }
/-- jdk/internal/util/ArraysSupport -/
def k13 : Class := { plain "jdk/internal/util/ArraysSupport" (some 0) with
  accessFlags := 33
  interfaces := #[]
  cf := some (fileOf pool13 21 #[] #[{ accessFlags := 2, nameIndex := 9, descriptorIndex := 19, attributes := #[] }] 33 16 #[] #[{ accessFlags := 24, nameIndex := 28, descriptorIndex := 29, attributes := #[] }, { accessFlags := 26, nameIndex := 38, descriptorIndex := 39, attributes := #[] }, { accessFlags := 25, nameIndex := 121, descriptorIndex := 25, attributes := #[] }, { accessFlags := 25, nameIndex := 131, descriptorIndex := 25, attributes := #[] }, { accessFlags := 25, nameIndex := 137, descriptorIndex := 25, attributes := #[] }, { accessFlags := 25, nameIndex := 143, descriptorIndex := 25, attributes := #[] }, { accessFlags := 25, nameIndex := 53, descriptorIndex := 25, attributes := #[] }, { accessFlags := 25, nameIndex := 24, descriptorIndex := 25, attributes := #[] }, { accessFlags := 25, nameIndex := 162, descriptorIndex := 25, attributes := #[] }, { accessFlags := 25, nameIndex := 187, descriptorIndex := 25, attributes := #[] }, { accessFlags := 26, nameIndex := 48, descriptorIndex := 25, attributes := #[] }, { accessFlags := 25, nameIndex := 277, descriptorIndex := 25, attributes := #[] }, { accessFlags := 25, nameIndex := 280, descriptorIndex := 25, attributes := #[] }, { accessFlags := 25, nameIndex := 282, descriptorIndex := 25, attributes := #[] }, { accessFlags := 25, nameIndex := 284, descriptorIndex := 25, attributes := #[] }, { accessFlags := 25, nameIndex := 286, descriptorIndex := 25, attributes := #[] }, { accessFlags := 25, nameIndex := 288, descriptorIndex := 25, attributes := #[] }, { accessFlags := 25, nameIndex := 290, descriptorIndex := 25, attributes := #[] }, { accessFlags := 25, nameIndex := 292, descriptorIndex := 25, attributes := #[] }, { accessFlags := 26, nameIndex := 108, descriptorIndex := 109, attributes := #[] }, { accessFlags := 25, nameIndex := 294, descriptorIndex := 25, attributes := #[] }])
  fields := #[{ name := "U", type := (.object "jdk/internal/misc/Unsafe"), accessFlags := 24, slot := 0, constantValue := 0 }, { name := "BIG_ENDIAN", type := .boolean, accessFlags := 26, slot := 1, constantValue := 0 }, { name := "LOG2_ARRAY_BOOLEAN_INDEX_SCALE", type := .int, accessFlags := 25, slot := 2, constantValue := 0 }, { name := "LOG2_ARRAY_BYTE_INDEX_SCALE", type := .int, accessFlags := 25, slot := 3, constantValue := 0 }, { name := "LOG2_ARRAY_CHAR_INDEX_SCALE", type := .int, accessFlags := 25, slot := 4, constantValue := 0 }, { name := "LOG2_ARRAY_SHORT_INDEX_SCALE", type := .int, accessFlags := 25, slot := 5, constantValue := 0 }, { name := "LOG2_ARRAY_INT_INDEX_SCALE", type := .int, accessFlags := 25, slot := 6, constantValue := 0 }, { name := "LOG2_ARRAY_LONG_INDEX_SCALE", type := .int, accessFlags := 25, slot := 7, constantValue := 0 }, { name := "LOG2_ARRAY_FLOAT_INDEX_SCALE", type := .int, accessFlags := 25, slot := 8, constantValue := 0 }, { name := "LOG2_ARRAY_DOUBLE_INDEX_SCALE", type := .int, accessFlags := 25, slot := 9, constantValue := 0 }, { name := "LOG2_BYTE_BIT_SIZE", type := .int, accessFlags := 26, slot := 10, constantValue := 0 }, { name := "T_BOOLEAN", type := .int, accessFlags := 25, slot := 11, constantValue := 0 }, { name := "T_CHAR", type := .int, accessFlags := 25, slot := 12, constantValue := 0 }, { name := "T_FLOAT", type := .int, accessFlags := 25, slot := 13, constantValue := 0 }, { name := "T_DOUBLE", type := .int, accessFlags := 25, slot := 14, constantValue := 0 }, { name := "T_BYTE", type := .int, accessFlags := 25, slot := 15, constantValue := 0 }, { name := "T_SHORT", type := .int, accessFlags := 25, slot := 16, constantValue := 0 }, { name := "T_INT", type := .int, accessFlags := 25, slot := 17, constantValue := 0 }, { name := "T_LONG", type := .int, accessFlags := 25, slot := 18, constantValue := 0 }, { name := "JLA", type := (.object "jdk/internal/access/JavaLangAccess"), accessFlags := 26, slot := 19, constantValue := 0 }, { name := "SOFT_MAX_ARRAY_LENGTH", type := .int, accessFlags := 25, slot := 20, constantValue := 0 }]
  methods := #[k13m0]
  instanceTypes := #[]
  staticTypes := #[(.object "jdk/internal/misc/Unsafe"), .boolean, .int, .int, .int, .int, .int, .int, .int, .int, .int, .int, .int, .int, .int, .int, .int, .int, .int, (.object "jdk/internal/access/JavaLangAccess"), .int]
  resolved := Array.replicate 378 none
  statics := none }

/-- the primitive byte -/
def k14 : Class := { plain "byte" none with kind := .primitive 'B', accessFlags := 0x411 }
/-- [B -/
def k15 : Class := { plain "[B" (some 0) with kind := .array 14 .byte, interfaces := #[11, 4], accessFlags := 1041 }

/-- the primitive int -/
def k16 : Class := { plain "int" none with kind := .primitive 'I', accessFlags := 0x411 }
/-- [I -/
def k17 : Class := { plain "[I" (some 0) with kind := .array 16 .int, interfaces := #[11, 4], accessFlags := 1041 }

/-- [Lcom/example/chipmantle/chipmantle/Primitive; -/
def k18 : Class := { plain "[Lcom/example/chipmantle/chipmantle/Primitive;" (some 0) with kind := .array 6 (.object "com/example/chipmantle/chipmantle/Primitive"), interfaces := #[11, 4], accessFlags := 1041 }

def heap : Heap := #[{ cls := 6, slots := #[.ref 4, .ref 5, .ref 6, .ref 7, .ref 8, .ref 9, .ref 10, .ref 11, .ref 3], vm := .statics 6 },
  { cls := 9, slots := #[.long 0, .int 1, .null, .int 0, .null, .int 0, .int 0], vm := .statics 9 },
  { cls := 12, slots := #[.null, .null, .null], vm := .statics 12 },
  { cls := 18, slots := #[.ref 4, .ref 5, .ref 6, .ref 7, .ref 8, .ref 9, .ref 10, .ref 11], vm := .none },
  { cls := 6, slots := #[.null, .int 0, .int 0, .int 90, .null, .null, .int 0], vm := .none },
  { cls := 6, slots := #[.null, .int 1, .int 0, .int 66, .null, .null, .int 0], vm := .none },
  { cls := 6, slots := #[.null, .int 2, .int 0, .int 67, .null, .null, .int 0], vm := .none },
  { cls := 6, slots := #[.null, .int 3, .int 0, .int 83, .null, .null, .int 0], vm := .none },
  { cls := 6, slots := #[.null, .int 4, .int 0, .int 73, .null, .null, .int 0], vm := .none },
  { cls := 6, slots := #[.null, .int 5, .int 0, .int 74, .null, .null, .int 0], vm := .none },
  { cls := 6, slots := #[.null, .int 6, .int 0, .int 70, .null, .null, .int 0], vm := .none },
  { cls := 6, slots := #[.null, .int 7, .int 0, .int 68, .null, .null, .int 0], vm := .none }]
def classes : Array Class := #[k0, k1, k2, k3, k4, k5, k6, k7, k8, k9, k10, k11, k12, k13, k14, k15, k16, k17, k18]
def interned : List (Array UInt16 × Addr) := []
def slotsUsed : Nat := 83
def theMethod : MethodId := ⟨1, 3⟩
def args0 : Array Value := #[.int 5, .int 3]
def aboutOver (below : List Frame) : State where
  vm := { classes := classes, interned := interned.toArray }
  heap := heap
  slotsUsed := slotsUsed
  threads := #[{ frames := .invoking theMethod args0 :: below }]
def below0 : List Frame := [.native { method := ⟨0, 0⟩, args := #[] }]
def about1 : State := aboutOver below0
def p0 : Program := .bare "" "" ""
def e0 : Env := launch0.env 0 0 0
theorem w_frames : about1.frames = Frame.invoking theMethod args0 :: below0 := rfl
set_option maxRecDepth 65536 in
theorem w_args : argsFit about1.vm theMethod args0 = true := by decide +kernel
set_option maxRecDepth 65536 in
theorem w_heap : heapFits about1 = true := by decide +kernel
set_option maxRecDepth 65536 in
theorem w_runnable : about1.curStatus? = some .runnable := by decide +kernel
set_option maxRecDepth 65536 in
theorem w_alone : about1.alone = true := by decide +kernel
set_option maxRecDepth 65536 in
theorem w_named : about1.methodNamed? x = some theMethod := by decide +kernel
set_option maxRecDepth 65536 in
theorem w_hears : about1.hears theMethod below0 = true := by decide +kernel
set_option maxRecDepth 65536 in
theorem w_ripe : about1.ripe theMethod args0 below0 = true := by decide +kernel
theorem w_running : about1.status = .running := rfl
set_option maxRecDepth 65536 in
theorem w_room : about1.hasRoom e0.platform room_1 = true :=
  launch0.hasRoom_least _ room_1 (by decide +kernel) (by decide +kernel) (by decide +kernel) (by decide +kernel) (by decide +kernel) (by decide +kernel)
theorem allAtoms_all (ts : List Jvm.Cond) (a : Array Jvm.Value) (st : Jvm.State) : (allAtoms ts).before a st = ts.all (fun c => c.before a st) := by
  induction ts with
  | nil => rfl
  | cons c t ih =>
    show (Jvm.Cond.and c (allAtoms t)).before a st = _
    rw [Jvm.Cond.before_and, ih, List.all_cons]
def words1 : List Jvm.Cond := Jvm.Cond.code x code maxLocals ret :: tables_1
/-- a 'code' word, met by the world's own term for the bytes: nothing is compared byte by byte -/
theorem code_word {y : MethodName} {bytes : ByteArray} {mx : Nat} {rt : Option FieldType} {a : Array Value} {s : State} {m : MethodId} {meth : Method} {c : Code} (h1 : s.methodNamed? y = some m) (h2 : s.vm.method? m = some meth) (h3 : meth.code = some c) (h4 : c.code = bytes)
    (h5 : (c.maxLocals == mx && c.exceptionTable.isEmpty && decide (c.maxStack ≤ mostOperands) && decide (meth.sig.returnType = rt) && !meth.locks && decide (parseMethodDescriptor y.desc = some meth.sig)) = true) : (Jvm.Cond.code y bytes mx rt).before a s = true := by
  simp only [Bool.and_eq_true, beq_iff_eq, Bool.not_eq_true', decide_eq_true_eq] at h5
  obtain ⟨⟨⟨⟨⟨g1, g2⟩, g3⟩, g4⟩, g5⟩, g6⟩ := h5
  simp [Cond.before, Cond.holds, Cond.value, h1, h2, h3, h4, g1, g2, g3, g4, g5, g6]
def isCode : Jvm.Cond → Bool
  | .code _ _ _ _ => true
  | _ => false
theorem all_split {L : List Jvm.Cond} {P : Jvm.Cond → Bool} (h1 : L.all (fun c => isCode c || P c) = true) (h2 : ∀ c ∈ L.filter isCode, P c = true) : L.all P = true := by
  refine List.all_eq_true.mpr fun c hc => ?_
  have h := List.all_eq_true.mp h1 c hc
  rcases Bool.eq_false_or_eq_true (isCode c) with hi | hi
  · exact h2 c (List.mem_filter.mpr ⟨hc, hi⟩)
  · simpa [hi] using h
set_option maxRecDepth 65536 in
theorem w_c0 : (Jvm.Cond.code x code maxLocals ret).before args0 about1 = true := code_word (m := ⟨1, 3⟩) (meth := k1m3) (c := k1c3) (by decide +kernel) rfl rfl rfl (by decide +kernel)
set_option maxRecDepth 65536 in
theorem w_c1 : (Jvm.Cond.code ({ cls := "com/example/chipmantle/chipmantle/PrimitiveOfPinLaw", name := "expected", desc := "(C)Lcom/example/chipmantle/chipmantle/Primitive;" } : Jvm.MethodName) method_2_code (1 : Nat) (Option.some (Jvm.ClassFile.FieldType.object "com/example/chipmantle/chipmantle/Primitive"))).before args0 about1 = true := code_word (m := ⟨1, 1⟩) (meth := k1m1) (c := k1c1) (by decide +kernel) rfl rfl rfl (by decide +kernel)
set_option maxRecDepth 65536 in
theorem w_c2 : (Jvm.Cond.code ({ cls := "com/example/chipmantle/chipmantle/PrimitiveOfPinLaw", name := "pick", desc := "(I)C" } : Jvm.MethodName) method_3_code (1 : Nat) (Option.some Jvm.ClassFile.FieldType.char)).before args0 about1 = true := code_word (m := ⟨1, 2⟩) (meth := k1m2) (c := k1c2) (by decide +kernel) rfl rfl rfl (by decide +kernel)
set_option maxRecDepth 65536 in
theorem w_c3 : (Jvm.Cond.code ({ cls := "java/lang/String", name := "valueOf", desc := "(C)Ljava/lang/String;" } : Jvm.MethodName) jdk_42_method_139_code (1 : Nat) (Option.some (Jvm.ClassFile.FieldType.object "java/lang/String"))).before args0 about1 = true := code_word (m := ⟨9, 3⟩) (meth := k9m3) (c := k9c3) (by decide +kernel) rfl rfl rfl (by decide +kernel)
set_option maxRecDepth 65536 in
theorem w_c4 : (Jvm.Cond.code ({ cls := "java/lang/StringLatin1", name := "canEncode", desc := "(C)Z" } : Jvm.MethodName) jdk_43_method_3_code (1 : Nat) (Option.some Jvm.ClassFile.FieldType.boolean)).before args0 about1 = true := code_word (m := ⟨10, 2⟩) (meth := k10m2) (c := k10c2) (by decide +kernel) rfl rfl rfl (by decide +kernel)
set_option maxRecDepth 65536 in
theorem w_c5 : (Jvm.Cond.code ({ cls := "java/lang/StringLatin1", name := "toBytes", desc := "(C)[B" } : Jvm.MethodName) jdk_43_method_46_code (1 : Nat) (Option.some (Jvm.ClassFile.FieldType.array Jvm.ClassFile.FieldType.byte))).before args0 about1 = true := code_word (m := ⟨10, 3⟩) (meth := k10m3) (c := k10c3) (by decide +kernel) rfl rfl rfl (by decide +kernel)
set_option maxRecDepth 65536 in
theorem w_c6 : (Jvm.Cond.code ({ cls := "java/lang/String", name := "<init>", desc := "([BB)V" } : Jvm.MethodName) jdk_42_method_151_code (3 : Nat) (Option.none : Option Jvm.ClassFile.FieldType)).before args0 about1 = true := code_word (m := ⟨9, 4⟩) (meth := k9m4) (c := k9c4) (by decide +kernel) rfl rfl rfl (by decide +kernel)
set_option maxRecDepth 65536 in
theorem w_c7 : (Jvm.Cond.code ({ cls := "java/lang/Object", name := "<init>", desc := "()V" } : Jvm.MethodName) object_method_1_code (1 : Nat) (Option.none : Option Jvm.ClassFile.FieldType)).before args0 about1 = true := code_word (m := ⟨0, 0⟩) (meth := k0m0) (c := k0c0) (by decide +kernel) rfl rfl rfl (by decide +kernel)
set_option maxRecDepth 65536 in
theorem w_c8 : (Jvm.Cond.code ({ cls := "com/example/chipmantle/chipmantle/Primitive", name := "of", desc := "(Ljava/lang/String;)Lcom/example/chipmantle/chipmantle/Primitive;" } : Jvm.MethodName) prog_7_method_4_code (5 : Nat) (Option.some (Jvm.ClassFile.FieldType.object "com/example/chipmantle/chipmantle/Primitive"))).before args0 about1 = true := code_word (m := ⟨6, 1⟩) (meth := k6m1) (c := k6c1) (by decide +kernel) rfl rfl rfl (by decide +kernel)
set_option maxRecDepth 65536 in
theorem w_c9 : (Jvm.Cond.code ({ cls := "com/example/chipmantle/chipmantle/Primitive", name := "values", desc := "()[Lcom/example/chipmantle/chipmantle/Primitive;" } : Jvm.MethodName) prog_7_method_1_code (0 : Nat) (Option.some (Jvm.ClassFile.FieldType.array (Jvm.ClassFile.FieldType.object "com/example/chipmantle/chipmantle/Primitive")))).before args0 about1 = true := code_word (m := ⟨6, 0⟩) (meth := k6m0) (c := k6c0) (by decide +kernel) rfl rfl rfl (by decide +kernel)
set_option maxRecDepth 65536 in
theorem w_c10 : (Jvm.Cond.code ({ cls := "java/lang/String", name := "length", desc := "()I" } : Jvm.MethodName) jdk_42_method_54_code (1 : Nat) (Option.some Jvm.ClassFile.FieldType.int)).before args0 about1 = true := code_word (m := ⟨9, 1⟩) (meth := k9m1) (c := k9c1) (by decide +kernel) rfl rfl rfl (by decide +kernel)
set_option maxRecDepth 65536 in
theorem w_c11 : (Jvm.Cond.code ({ cls := "java/lang/String", name := "coder", desc := "()B" } : Jvm.MethodName) jdk_42_method_152_code (1 : Nat) (Option.some Jvm.ClassFile.FieldType.byte)).before args0 about1 = true := code_word (m := ⟨9, 5⟩) (meth := k9m5) (c := k9c5) (by decide +kernel) rfl rfl rfl (by decide +kernel)
set_option maxRecDepth 65536 in
theorem w_c12 : (Jvm.Cond.code ({ cls := "java/lang/String", name := "charAt", desc := "(I)C" } : Jvm.MethodName) jdk_42_method_56_code (2 : Nat) (Option.some Jvm.ClassFile.FieldType.char)).before args0 about1 = true := code_word (m := ⟨9, 2⟩) (meth := k9m2) (c := k9c2) (by decide +kernel) rfl rfl rfl (by decide +kernel)
set_option maxRecDepth 65536 in
theorem w_c13 : (Jvm.Cond.code ({ cls := "java/lang/String", name := "isLatin1", desc := "()Z" } : Jvm.MethodName) jdk_42_method_154_code (1 : Nat) (Option.some Jvm.ClassFile.FieldType.boolean)).before args0 about1 = true := code_word (m := ⟨9, 6⟩) (meth := k9m6) (c := k9c6) (by decide +kernel) rfl rfl rfl (by decide +kernel)
set_option maxRecDepth 65536 in
theorem w_c14 : (Jvm.Cond.code ({ cls := "java/lang/StringLatin1", name := "charAt", desc := "([BI)C" } : Jvm.MethodName) jdk_43_method_2_code (2 : Nat) (Option.some Jvm.ClassFile.FieldType.char)).before args0 about1 = true := code_word (m := ⟨10, 1⟩) (meth := k10m1) (c := k10c1) (by decide +kernel) rfl rfl rfl (by decide +kernel)
set_option maxRecDepth 65536 in
theorem w_c15 : (Jvm.Cond.code ({ cls := "java/lang/String", name := "checkIndex", desc := "(II)V" } : Jvm.MethodName) jdk_42_method_155_code (2 : Nat) (Option.none : Option Jvm.ClassFile.FieldType)).before args0 about1 = true := code_word (m := ⟨9, 7⟩) (meth := k9m7) (c := k9c7) (by decide +kernel) rfl rfl rfl (by decide +kernel)
set_option maxRecDepth 65536 in
theorem w_c16 : (Jvm.Cond.code ({ cls := "jdk/internal/util/Preconditions", name := "checkIndex", desc := "(IILjava/util/function/BiFunction;)I" } : Jvm.MethodName) jdk_41_method_11_code (3 : Nat) (Option.some Jvm.ClassFile.FieldType.int)).before args0 about1 = true := code_word (m := ⟨12, 1⟩) (meth := k12m1) (c := k12c1) (by decide +kernel) rfl rfl rfl (by decide +kernel)
def codes1 : List Jvm.Cond := [Jvm.Cond.code x code maxLocals ret, Jvm.Cond.code ({ cls := "com/example/chipmantle/chipmantle/PrimitiveOfPinLaw", name := "expected", desc := "(C)Lcom/example/chipmantle/chipmantle/Primitive;" } : Jvm.MethodName) method_2_code (1 : Nat) (Option.some (Jvm.ClassFile.FieldType.object "com/example/chipmantle/chipmantle/Primitive")), Jvm.Cond.code ({ cls := "com/example/chipmantle/chipmantle/PrimitiveOfPinLaw", name := "pick", desc := "(I)C" } : Jvm.MethodName) method_3_code (1 : Nat) (Option.some Jvm.ClassFile.FieldType.char), Jvm.Cond.code ({ cls := "java/lang/String", name := "valueOf", desc := "(C)Ljava/lang/String;" } : Jvm.MethodName) jdk_42_method_139_code (1 : Nat) (Option.some (Jvm.ClassFile.FieldType.object "java/lang/String")), Jvm.Cond.code ({ cls := "java/lang/StringLatin1", name := "canEncode", desc := "(C)Z" } : Jvm.MethodName) jdk_43_method_3_code (1 : Nat) (Option.some Jvm.ClassFile.FieldType.boolean), Jvm.Cond.code ({ cls := "java/lang/StringLatin1", name := "toBytes", desc := "(C)[B" } : Jvm.MethodName) jdk_43_method_46_code (1 : Nat) (Option.some (Jvm.ClassFile.FieldType.array Jvm.ClassFile.FieldType.byte)), Jvm.Cond.code ({ cls := "java/lang/String", name := "<init>", desc := "([BB)V" } : Jvm.MethodName) jdk_42_method_151_code (3 : Nat) (Option.none : Option Jvm.ClassFile.FieldType), Jvm.Cond.code ({ cls := "java/lang/Object", name := "<init>", desc := "()V" } : Jvm.MethodName) object_method_1_code (1 : Nat) (Option.none : Option Jvm.ClassFile.FieldType), Jvm.Cond.code ({ cls := "com/example/chipmantle/chipmantle/Primitive", name := "of", desc := "(Ljava/lang/String;)Lcom/example/chipmantle/chipmantle/Primitive;" } : Jvm.MethodName) prog_7_method_4_code (5 : Nat) (Option.some (Jvm.ClassFile.FieldType.object "com/example/chipmantle/chipmantle/Primitive")), Jvm.Cond.code ({ cls := "com/example/chipmantle/chipmantle/Primitive", name := "values", desc := "()[Lcom/example/chipmantle/chipmantle/Primitive;" } : Jvm.MethodName) prog_7_method_1_code (0 : Nat) (Option.some (Jvm.ClassFile.FieldType.array (Jvm.ClassFile.FieldType.object "com/example/chipmantle/chipmantle/Primitive"))), Jvm.Cond.code ({ cls := "java/lang/String", name := "length", desc := "()I" } : Jvm.MethodName) jdk_42_method_54_code (1 : Nat) (Option.some Jvm.ClassFile.FieldType.int), Jvm.Cond.code ({ cls := "java/lang/String", name := "coder", desc := "()B" } : Jvm.MethodName) jdk_42_method_152_code (1 : Nat) (Option.some Jvm.ClassFile.FieldType.byte), Jvm.Cond.code ({ cls := "java/lang/String", name := "charAt", desc := "(I)C" } : Jvm.MethodName) jdk_42_method_56_code (2 : Nat) (Option.some Jvm.ClassFile.FieldType.char), Jvm.Cond.code ({ cls := "java/lang/String", name := "isLatin1", desc := "()Z" } : Jvm.MethodName) jdk_42_method_154_code (1 : Nat) (Option.some Jvm.ClassFile.FieldType.boolean), Jvm.Cond.code ({ cls := "java/lang/StringLatin1", name := "charAt", desc := "([BI)C" } : Jvm.MethodName) jdk_43_method_2_code (2 : Nat) (Option.some Jvm.ClassFile.FieldType.char), Jvm.Cond.code ({ cls := "java/lang/String", name := "checkIndex", desc := "(II)V" } : Jvm.MethodName) jdk_42_method_155_code (2 : Nat) (Option.none : Option Jvm.ClassFile.FieldType), Jvm.Cond.code ({ cls := "jdk/internal/util/Preconditions", name := "checkIndex", desc := "(IILjava/util/function/BiFunction;)I" } : Jvm.MethodName) jdk_41_method_11_code (3 : Nat) (Option.some Jvm.ClassFile.FieldType.int)]
set_option maxRecDepth 65536 in
theorem codes_eq : words1.filter isCode = codes1 := rfl
theorem w_codes : ∀ c ∈ words1.filter isCode, c.before args0 about1 = true := by
  rw [codes_eq]
  intro c hc
  simp only [codes1, List.mem_cons, List.not_mem_nil, or_false] at hc
  rcases hc with rfl | rfl | rfl | rfl | rfl | rfl | rfl | rfl | rfl | rfl | rfl | rfl | rfl | rfl | rfl | rfl | rfl
  · exact w_c0
  · exact w_c1
  · exact w_c2
  · exact w_c3
  · exact w_c4
  · exact w_c5
  · exact w_c6
  · exact w_c7
  · exact w_c8
  · exact w_c9
  · exact w_c10
  · exact w_c11
  · exact w_c12
  · exact w_c13
  · exact w_c14
  · exact w_c15
  · exact w_c16
set_option maxRecDepth 65536 in
theorem w_t1 : (words1.take 24).all (fun c => isCode c || c.before args0 about1) = true := by decide +kernel
set_option maxRecDepth 65536 in
theorem w_t2 : ((words1.drop 24).take 24).all (fun c => isCode c || c.before args0 about1) = true := by decide +kernel
set_option maxRecDepth 65536 in
theorem w_t3 : (((words1.drop 24).drop 24).take 24).all (fun c => isCode c || c.before args0 about1) = true := by decide +kernel
set_option maxRecDepth 65536 in
theorem w_t4 : ((((words1.drop 24).drop 24).drop 24).take 24).all (fun c => isCode c || c.before args0 about1) = true := by decide +kernel
set_option maxRecDepth 65536 in
theorem w_t5 : ((((words1.drop 24).drop 24).drop 24).drop 24).all (fun c => isCode c || c.before args0 about1) = true := by decide +kernel
theorem w_tables : (allAtoms (Jvm.Cond.code x code maxLocals ret :: tables_1)).before args0 about1 = true := by
  rw [allAtoms_all]
  show words1.all (fun c => c.before args0 about1) = true
  refine all_split ?_ w_codes
  rw [← List.take_append_drop 24 words1, List.all_append, w_t1, ← List.take_append_drop 24 (words1.drop 24), List.all_append, w_t2, ← List.take_append_drop 24 ((words1.drop 24).drop 24), List.all_append, w_t3, ← List.take_append_drop 24 (((words1.drop 24).drop 24).drop 24), List.all_append, w_t4, w_t5]
  rfl
set_option maxRecDepth 65536 in
theorem w_rest : rest_1_c.before args0 about1 = true := by decide +kernel
set_option maxRecDepth 65536 in
theorem w_case : (Jvm.Cond.and given_1 narrow_1).before args0 about1 = true := by decide +kernel
theorem w_applies : (headSpec (Jvm.Cond.code x code maxLocals ret :: tables_1) room_1).applies x e0.platform about1 = true :=
  (Spec.applies_iff w_frames).mpr ⟨w_running, w_runnable, w_alone, w_named, w_hears, w_ripe, w_room, w_tables⟩
theorem atStart : AtStart classFile x code maxLocals ret World_1 tables_1 room_1 Calls_1 rest_1 Pre_1 launch0 p0 e0 about1 theMethod args0 below0 :=
  ⟨lists_1, trivial, launch0.admits_env _ _ _, launch0.least_env, fairChoices_fair.cas, fairChoices_fair.clock, w_frames, w_args, w_heap, w_applies, trivial, w_rest, w_case⟩
end start1
theorem witness_1 : WitnessClaimed_1 := ⟨start1.p0, start1.e0, start1.about1, start1.theMethod, start1.args0, start1.below0, start1.atStart⟩
end Jvm.Pilot.@@N@@
