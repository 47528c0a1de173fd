import JvmDerived
import JvmDerived.Pilot.@@N@@Statement
import JvmDerived.Pilot.@@N@@Code
set_option linter.unusedVariables false
set_option linter.unusedSimpArgs false
namespace Jvm.RoadKit
open Sem ClassFile Op Lib Jvm.Stand Jvm.Free Jvm.LawKit
section New
variable {p : Program} {l : Launch} {e : Env} {R : Room} {s : State} {m : MethodId} {args : Array Value} {below : List Frame} {meth : Method} {c : Code} {T : State} {locs : List Loc} {cells slots : Nat}
theorem retI (X : Stand p l e R s m args below meth c T locs cells slots) (hx : p.tables.exec = Jvm.exec) {pc : Nat} {Ls : Array Slot} {z : Int32} {rest : List Value} (hret : meth.sig.returnType = some .int) (hd : decode c.code pc = .ok (.ireturn, 1)) {fs : List Frame}
    (hl : ∀ (f : JFrame) (acts : List Action), f.method = m → f.locked = none → f.entered = [] → (doReturn e (T.setTop f) acts (some (.int z))).1 = T.setFrames fs) : Steps p.tables e below (T.setTop (mkF m pc Ls (.int z :: rest))) (T.setFrames fs) := by
  have hm' : T.vm.method? m = some meth := X.method'
  have hn : narrow .int (.int z) = .int z := rfl
  show Steps p.tables e below (T.setTop { method := m, pc := pc, locals := Ls, stack := _ :: rest, locked := none }) _
  jvm_step X.here [X.here.top, hx, hd, hm', hret, hn]
  first | (intro acts; rw [hl _ acts rfl rfl rfl]) | rw [hl _ _ rfl rfl rfl]
  exact Steps.refl _
end New
end Jvm.RoadKit
namespace Jvm.Pilot.@@N@@
open Jvm Jvm.ClassFile Sem Op Lib Jvm.Free Jvm.Stand Jvm.LawKit Jvm.RoadKit Bundle Jvm.Pilot.@@N@@.Jvm.D
abbrev own_S (p : Program) (e : Env) (below : List Frame) (T : State) (f : JFrame) (t : State) : Prop := Steps p.tables e below (T.setTop f) t
abbrev own_ushr (x y : Int32) : Int32 := (x.toUInt32 >>> (y &&& 31).toUInt32).toInt32
abbrev own_ushrL (x : Int64) (y : Int32) : Int64 := (x.toUInt64 >>> (y &&& 63).toInt64.toUInt64).toInt64
def own_Qi (z : Int32) (h0 : Heap) (n0 : Nat) (v : Option Value) (h : Heap) (L : List Loc) : Prop := v = some (.int z) ∧ Fr n0 L ∧ h = h0
theorem own_wk {Z : State} {ag : Array Value} {d : Jvm.Cond} (hw : ∀ d ∈ tables_1, d.before ag Z = true) (i : Nat) (h : tables_1[i]? = some d) : d.before ag Z = true := hw d (List.mem_of_getElem? h)
theorem own_cast {α : Sort _} {P : α → Prop} {a b : α} (h : a = b) (k : P a) : P b := h ▸ k
abbrev own_EL : List (String × Nat) := consts_1
theorem own_ew {Z : State} {ag : Array Value} (hw : ∀ d ∈ tables_1, d.before ag Z = true) : EW Z ag own_EL := (EW.cons (own_wk hw 85 rfl) (by decide) (EW.cons (own_wk hw 4 rfl) (by decide) (EW.cons (own_wk hw 52 rfl) (by decide) EW.nil)))
theorem own_eq_int {t : Term} {k : Int32} {args : Array Value} {s : State} (h : (Jvm.Cond.eq t (.int k)).value args s none s [] = some true) : t.eval args s none [] s = some (.int k) := by
  obtain ⟨x, y, hx, hy, k1, k2⟩ := cmp_v (Or.inl h)
  have e : y = .int k := Option.some.inj (hy.symm.trans (Term.int_eval k))
  subst e
  obtain ⟨z, rfl⟩ := k2
  have q := gotT (Cond.eq_ints hx (Term.int_eval k)) h
  rw [hx, q]
theorem own_safe_at {Z : State} {EL : List (String × Nat)} {vm vm1 : Vm} {h h' : Heap} {x : Addr} (A : CHr Z EL vm h vm1 h') (q : h'.size ≤ x) : Safe Z EL vm1 h' x := Safe.new q
/-- a String whose array isn't laid yet is none of the booked ones -/
theorem own_safe_str {Z : State} {EL : List (String × Nat)} {vm vm1 : Vm} {h h' : Heap} {a : Addr} {a0' : Array Value} (A : CHr Z EL vm h vm1 h') (hal : Z.vm.Alike vm1) (E : Exa Z h' a "java/lang/String") (F : Fld Z h' a "java/lang/String" "value" "[B" .null) (wi : (Jvm.Cond.instantiable "java/lang/String" 4).before a0' Z = true) : Safe Z EL vm1 h' a := fun B => by
  obtain ⟨p, hp, u, a', hb, q, hq, ⟨cS, ⟨⟨s1, s2, s3, ⟨cv, kv, iv, s4, s4'⟩, ⟨cc, kc, ic, s5, s5'⟩, s6, s7, s8, s9, s10, s11, s12, s13⟩, hfS, hcS⟩, hrest⟩, hy⟩ := B
  rcases hy with rfl | rfl
  · obtain ⟨cell, cf, k, i, f, h1, h2, h3, h4, h5, h6, h7⟩ := F
    cases h1.symm.trans s1
    obtain ⟨kv', z4⟩ := ff_back (U := Wst Z vm1 h') hal s4
    cases h2.symm.trans z4
    rw [s8] at h7
    cases h7
  · have s11' : Z.isArrayOf q.SA .byte := by
      obtain ⟨hst, k9, hk9, comp, hkind9⟩ := s11
      obtain ⟨kz, hkz, ekz⟩ : ∃ kz, Z.vm.classes[q.SA.cls]? = some kz ∧ kz.kind = k9.kind := by
        obtain ⟨c2, k2, e1, e2, e3, e4, e5⟩ := E
        cases e1.symm.trans s10
        obtain ⟨k', hk', ek⟩ := hal.2.2 _ _ e3
        cases (show vm1.classes[q.SA.cls]? = some k9 from hk9).symm.trans hk'
        exact ⟨k2, e3, by rw [ek]⟩
      exact ⟨hst, kz, hkz, comp, by rw [ekz]; exact hkind9⟩
    exact ne_arr E wi ⟨s10, s11', s12⟩ rfl
theorem pn_7 : plainName "jdk/internal/util/Preconditions" = true := by first | (simp [plainName, overriddenIn]; done) | decide +kernel
theorem ef_6 (m : MethodId) (p0 : Int32) (p1 : Int32) (v2 : Value) (rv_v2 : v2.isRef = true) : entryFrame m #[(.int p0), (.int p1), v2] 3 = mkF m 0 #[.val (.int p0), .val (.int p1), .val v2] [] := by rcases ref_cases rv_v2 with rfl | ⟨a, rfl⟩ <;> first | (simp [entryFrame, mkF, argsToLocals, Value.category]; done) | rfl
theorem d6_0 : decode jdk_41_method_11_code 0 = .ok (.iload_n 0, 1) := by decide +kernel
theorem d6_1 : decode jdk_41_method_11_code 1 = .ok (.ifCond .lt 8, 3) := by decide +kernel
theorem d6_4 : decode jdk_41_method_11_code 4 = .ok (.iload_n 0, 1) := by decide +kernel
theorem d6_5 : decode jdk_41_method_11_code 5 = .ok (.iload_n 1, 1) := by decide +kernel
theorem d6_6 : decode jdk_41_method_11_code 6 = .ok (.if_icmp .lt 10, 3) := by decide +kernel
theorem d6_16 : decode jdk_41_method_11_code 16 = .ok (.iload_n 0, 1) := by decide +kernel
theorem d6_17 : decode jdk_41_method_11_code 17 = .ok (.ireturn, 1) := by decide +kernel
def Q6 (Z : State) (p0 : Int32) (p1 : Int32) (v2 : Value) (h0 : Heap) (n0 : Nat) (v : Option Value) (h : Heap) (L : List Loc) : Prop := v = some (.int p0) ∧ Fr n0 L ∧ h = h0
set_option maxRecDepth 65536 in
set_option maxHeartbeats 40000000 in
theorem rm6 (l : Launch) (Z : State) (ag : Array Value) (hw : ∀ d ∈ tables_1, d.before ag Z = true) (ws : List Jvm.Cond) (p0 : Int32) (p1 : Int32) (v2 : Value) (h0 : Heap) (n0 : Nat) (Z0 : n0 ≤ h0.size) (rv_v2 : v2.isRef = true) (h1 : ¬ p0 < (0 : Int32)) (h2 : p0 < p1) :
    MetFree l (⟨"jdk/internal/util/Preconditions", "checkIndex", "(IILjava/util/function/BiFunction;)I"⟩ : MethodName) (head1 (Jvm.Cond.code (⟨"jdk/internal/util/Preconditions", "checkIndex", "(IILjava/util/function/BiFunction;)I"⟩ : MethodName) jdk_41_method_11_code 3 (some .int) :: ws) ({ frames := 0, cells := 0, slots := 0, locals := 0 } : Room)) (fun a U => a = #[(.int p0), (.int p1), v2] ∧ Z.Warmed39 U.vm ∧ U.heap = h0) (fun _ _ _ _ _ => True) (fun _ U o U' => ∃ v L, o = .returned v ∧ Q6 Z p0 p1 v2 h0 n0 v U'.heap L ∧ FrameEnd U o U' L ({ frames := 0, cells := 0, slots := 0, locals := 0 } : Room).cells ({ frames := 0, cells := 0, slots := 0, locals := 0 } : Room).slots) := by
  refine MetFree.of_bodySF (plainFor_of_name pn_7) hisR ?_
  intro p e s m args below meth c s₁ Bd hml0 hP hK
  obtain ⟨rfl, hZ, hh⟩ := hP
  have hx := Bd.exec
  have hby := Bd.bytes
  have hml : c.maxLocals = 3 := hml0
  have hown : s.vm.findClass "jdk/internal/util/Preconditions" = some m.cls := findClass_of_methodNamed Bd.named
  have hnm := (name_of_methodNamed Bd.named Bd.method).1
  have X0 : Stand p l e ({ frames := 0, cells := 0, slots := 0, locals := 0 } : Room) s m #[(.int p0), (.int p1), v2] below meth c s₁ [] 0 0 := Stand.of_body Bd
  have e0 : s₁.heap = h0 := by rw [← hh, Bd.state]; rfl
  have N0 := Fr.nil n0
  have pre0 : ∀ t, Steps p.tables e below (s₁.setTop (mkF m 0 #[.val (.int p0), .val (.int p1), .val v2] [])) t → Steps p.tables e below (s₁.setTop (entryFrame m #[(.int p0), (.int p1), v2] 3)) t := fun t k => castTop (ef_6 m p0 p1 v2 rv_v2) k
  obtain ⟨fs, hr, hrun, hended, hW, hsame⟩ := X0.leave (v := some (.int p0)) (fun h => by rw [Bd.returns] at h; cases h)
  refine ⟨_, _, pre0 _ ?_, hrun, hended, _, _, rfl, ?_, ⟨_, rfl⟩, hW, hsame.mono (by decide) (by decide)⟩
  · show own_S p e below s₁ (mkF m 0 #[.val (.int p0), .val (.int p1), .val v2] []) _
    refine XS.iloadN X0.here hx rfl (hb hby d6_0) rfl ?_
    refine XS.ifNo X0.here hx rfl (hb hby d6_1) rfl ((if0 _ _).trans (flt (show ¬ (p0 < (0 : Int32)) from h1)).1) ?_
    show own_S p e below s₁ (mkF m 4 #[.val (.int p0), .val (.int p1), .val v2] []) _
    refine XS.iloadN X0.here hx rfl (hb hby d6_4) rfl ?_
    refine XS.iloadN X0.here hx rfl (hb hby d6_5) rfl ?_
    refine XS.icmpYes X0.here hx rfl (pc0 := 6) (pc' := 16) rfl (hb hby d6_6) rfl (tlt (show p0 < p1 from h2)).1 (by decide) (by decide) ?_
    show own_S p e below s₁ (mkF m 16 #[.val (.int p0), .val (.int p1), .val v2] []) _
    refine XS.iloadN X0.here hx rfl (hb hby d6_16) rfl ?_
    show own_S p e below s₁ (mkF m 17 #[.val (.int p0), .val (.int p1), .val v2] [(.int p0)]) _
    exact retI X0 hx Bd.returns (hb hby d6_17) hr
  · show Q6 Z p0 p1 v2 h0 n0 _ s₁.heap _
    rw [e0]
    exact ⟨rfl, N0, rfl⟩
theorem pn_4 : plainName "java/lang/String" = true := by first | (simp [plainName, overriddenIn]; done) | decide +kernel
theorem ef_5 (m : MethodId) (p0 : Int32) (p1 : Int32) : entryFrame m #[(.int p0), (.int p1)] 2 = mkF m 0 #[.val (.int p0), .val (.int p1)] [] := by first | (simp [entryFrame, mkF, argsToLocals, Value.category]; done) | rfl
theorem d5_0 : decode jdk_42_method_155_code 0 = .ok (.iload_n 0, 1) := by decide +kernel
theorem d5_1 : decode jdk_42_method_155_code 1 = .ok (.iload_n 1, 1) := by decide +kernel
theorem d5_2 : decode jdk_42_method_155_code 2 = .ok (.getstatic 1053, 3) := by decide +kernel
theorem pd_14 : parseMethodDescriptor "(IILjava/util/function/BiFunction;)I" = some ⟨[.int, .int, (.object "java/util/function/BiFunction")], some .int⟩ := by decide +kernel
theorem d5_5 : decode jdk_42_method_155_code 5 = .ok (.invokestatic 1059, 3) := by decide +kernel
theorem d5_8 : decode jdk_42_method_155_code 8 = .ok (.pop, 1) := by decide +kernel
theorem d5_9 : decode jdk_42_method_155_code 9 = .ok (.return_, 1) := by decide +kernel
def Q5 (Z : State) (p0 : Int32) (p1 : Int32) (gf : Value) (h0 : Heap) (n0 : Nat) (v : Option Value) (h : Heap) (L : List Loc) : Prop := v = none ∧ Fr n0 L ∧ h = h0
set_option maxRecDepth 65536 in
set_option maxHeartbeats 40000000 in
theorem rm5 (l : Launch) (Z : State) (ag : Array Value) (hw : ∀ d ∈ tables_1, d.before ag Z = true) (ws : List Jvm.Cond) (p0 : Int32) (p1 : Int32) (gf : Value) (h0 : Heap) (n0 : Nat) (Z0 : n0 ≤ h0.size) (h1 : ¬ p0 < (0 : Int32)) (h2 : p0 < p1) (O_ : Old Z n0 h0) (S_gf : Sta Z Z.heap "jdk/internal/util/Preconditions" "SIOOBE_FORMATTER" "Ljava/util/function/BiFunction;" gf) (rv_gf : gf.isRef = true) :
    MetFree l (⟨"java/lang/String", "checkIndex", "(II)V"⟩ : MethodName) (head1 (Jvm.Cond.code (⟨"java/lang/String", "checkIndex", "(II)V"⟩ : MethodName) jdk_42_method_155_code 2 none :: ws) ({ frames := 1, cells := 0, slots := 0, locals := 14 } : Room)) (fun a U => a = #[(.int p0), (.int p1)] ∧ Z.Warmed39 U.vm ∧ U.heap = h0) (fun _ _ _ _ _ => True) (fun _ U o U' => ∃ v L, o = .returned v ∧ Q5 Z p0 p1 gf h0 n0 v U'.heap L ∧ FrameEnd U o U' L ({ frames := 1, cells := 0, slots := 0, locals := 14 } : Room).cells ({ frames := 1, cells := 0, slots := 0, locals := 14 } : Room).slots) := by
  refine MetFree.of_bodySF (plainFor_of_name pn_4) hisR ?_
  intro p e s m args below meth c s₁ Bd hml0 hP hK
  obtain ⟨rfl, hZ, hh⟩ := hP
  have hx := Bd.exec
  have hby := Bd.bytes
  have hml : c.maxLocals = 2 := hml0
  have hown : s.vm.findClass "java/lang/String" = some m.cls := findClass_of_methodNamed Bd.named
  have hnm := (name_of_methodNamed Bd.named Bd.method).1
  have X0 : Stand p l e ({ frames := 1, cells := 0, slots := 0, locals := 14 } : Room) s m #[(.int p0), (.int p1)] below meth c s₁ [] 0 0 := Stand.of_body Bd
  have e0 : s₁.heap = h0 := by rw [← hh, Bd.state]; rfl
  have N0 := Fr.nil n0
  have pre0 : ∀ t, Steps p.tables e below (s₁.setTop (mkF m 0 #[.val (.int p0), .val (.int p1)] [])) t → Steps p.tables e below (s₁.setTop (entryFrame m #[(.int p0), (.int p1)] 2)) t := fun t k => castTop (ef_5 m p0 p1) k
  obtain ⟨T1, X1, e1, st1⟩ := getS2 X0 hx hZ hown (host := "") (Or.inl (own_wk hw 32 rfl)) Via.refl e0 (Sta.ext O_.2 S_gf) (g := (mkF m 2 #[.val (.int p0), .val (.int p1)] [(.int p1), (.int p0)])) rfl (hb hby d5_2)
  obtain ⟨_, _, ⟨T2, L2, k2, n2⟩, -, X2, ⟨Lc2, hQ2, l2, y2, z2⟩, st2⟩ := Jvm.LawKit.callS X1 hx (y := (⟨"jdk/internal/util/Preconditions", "checkIndex", "(IILjava/util/function/BiFunction;)I"⟩ : MethodName)) hown (mvT hZ (own_wk hw 34 rfl)) (mvT hZ (own_wk hw 35 rfl)) (mvT hZ (own_wk hw 33 rfl)) (mvT hZ (own_wk hw 36 rfl)) (by decide) (backOf (W := 0) (rm6 l Z ag hw [] p0 p1 gf  h0 n0 Z0 rv_gf h1 h2) hZ (own_wk hw 36 rfl) (own_wk hw 33 rfl) (by decide) (by decide)) (g := (mkF m 5 #[.val (.int p0), .val (.int p1)] [gf, (.int p1), (.int p0)])) rfl (by rw [hml]; rfl) (argsL := [(.int p0), (.int p1), gf]) (rest := []) (lenOf pd_14 rfl) rfl (by show 2 * 0 + _ ≤ _; exact Nat.le_of_eq rfl) (hb hby d5_5) (fun _ _ => ⟨rfl, e1, (by decide : 0 + 0 ≤ _), (by decide : 0 + 0 ≤ _)⟩)
  dsimp only [Pt.U, Pt.locs, Pt.cells, Pt.slots] at X2 l2 y2 z2 st2 hQ2
  subst l2 y2 z2
  obtain ⟨rfl, N2q, e2⟩ := hQ2
  have N2 := Fr.app N0 N2q
  obtain ⟨fs, hr, hrun, hended, hW, hsame⟩ := X2.leave (v := none) (fun _ => rfl)
  refine ⟨_, _, pre0 _ ?_, hrun, hended, _, _, rfl, ?_, ⟨_, rfl⟩, hW, hsame.mono (by decide) (by decide)⟩
  · show own_S p e below s₁ (mkF m 0 #[.val (.int p0), .val (.int p1)] []) _
    refine XS.iloadN X0.here hx rfl (hb hby d5_0) rfl ?_
    refine XS.iloadN X0.here hx rfl (hb hby d5_1) rfl ?_
    show own_S p e below s₁ (mkF m 2 #[.val (.int p0), .val (.int p1)] [(.int p1), (.int p0)]) _
    refine st1 _ ?_
    show own_S p e below T1 (mkF m 5 #[.val (.int p0), .val (.int p1)] [gf, (.int p1), (.int p0)]) _
    refine st2 _ ?_
    show own_S p e below T2 (mkF m 8 #[.val (.int p0), .val (.int p1)] [(.int p0)]) _
    refine XS.pop X2.here hx rfl (hb hby d5_8) rfl rfl ?_
    show own_S p e below T2 (mkF m 9 #[.val (.int p0), .val (.int p1)] []) _
    exact X2.returnOut hx Bd.returns (hb hby d5_9) hr
  · show Q5 Z p0 p1 gf h0 n0 _ T2.heap _
    rw [e2]
    exact ⟨rfl, N2, rfl⟩
theorem ef_3 (m : MethodId) (a0 : Addr) : entryFrame m #[(.ref a0)] 1 = mkF m 0 #[.val (.ref a0)] [] := by first | (simp [entryFrame, mkF, argsToLocals, Value.category]; done) | rfl
theorem d3_0 : decode jdk_42_method_154_code 0 = .ok (.getstatic 38, 3) := by decide +kernel
theorem d3_3 : decode jdk_42_method_154_code 3 = .ok (.ifCond .eq 14, 3) := by decide +kernel
theorem d3_6 : decode jdk_42_method_154_code 6 = .ok (.aload_n 0, 1) := by decide +kernel
theorem d3_7 : decode jdk_42_method_154_code 7 = .ok (.getfield 15, 3) := by decide +kernel
theorem d3_10 : decode jdk_42_method_154_code 10 = .ok (.ifCond .ne 7, 3) := by decide +kernel
theorem d3_13 : decode jdk_42_method_154_code 13 = .ok (.iconst 1, 1) := by decide +kernel
theorem d3_14 : decode jdk_42_method_154_code 14 = .ok (.goto 4, 3) := by decide +kernel
theorem d3_18 : decode jdk_42_method_154_code 18 = .ok (.ireturn, 1) := by decide +kernel
def Q3_0 (Z : State) (a0 : Addr) (cs : Int32) (h0 : Heap) (n0 : Nat) (v : Option Value) (h : Heap) (L : List Loc) : Prop := v = some (.int (1 : Int32)) ∧ Fr n0 L ∧ h = h0
set_option maxRecDepth 65536 in
set_option maxHeartbeats 40000000 in
theorem rm3_0 (l : Launch) (Z : State) (ag : Array Value) (hw : ∀ d ∈ tables_1, d.before ag Z = true) (ws : List Jvm.Cond) (a0 : Addr) (cs : Int32) (h0 : Heap) (n0 : Nat) (Z0 : n0 ≤ h0.size) (F_coder_a0 : Fld Z h0 a0 "java/lang/String" "coder" "B" (.int (0 : Int32))) (O_ : Old Z n0 h0) (S_cs : Sta Z Z.heap "java/lang/String" "COMPACT_STRINGS" "Z" (.int cs)) (hcs : ¬ cs = (0 : Int32)) :
    MetFree l (⟨"java/lang/String", "isLatin1", "()Z"⟩ : MethodName) (head1 (Jvm.Cond.code (⟨"java/lang/String", "isLatin1", "()Z"⟩ : MethodName) jdk_42_method_154_code 1 (some .boolean) :: ws) ({ frames := 0, cells := 0, slots := 0, locals := 0 } : Room)) (fun a U => a = #[(.ref a0)] ∧ Z.Warmed39 U.vm ∧ U.heap = h0) (fun _ _ _ _ _ => True) (fun _ U o U' => ∃ v L, o = .returned v ∧ Q3_0 Z a0 cs h0 n0 v U'.heap L ∧ FrameEnd U o U' L ({ frames := 0, cells := 0, slots := 0, locals := 0 } : Room).cells ({ frames := 0, cells := 0, slots := 0, locals := 0 } : Room).slots) := by
  refine MetFree.of_bodySF (plainFor_of_name pn_4) hisR ?_
  intro p e s m args below meth c s₁ Bd hml0 hP hK
  obtain ⟨rfl, hZ, hh⟩ := hP
  have hx := Bd.exec
  have hby := Bd.bytes
  have hml : c.maxLocals = 1 := hml0
  have hown : s.vm.findClass "java/lang/String" = some m.cls := findClass_of_methodNamed Bd.named
  have hnm := (name_of_methodNamed Bd.named Bd.method).1
  have X0 : Stand p l e ({ frames := 0, cells := 0, slots := 0, locals := 0 } : Room) s m #[(.ref a0)] below meth c s₁ [] 0 0 := Stand.of_body Bd
  have e0 : s₁.heap = h0 := by rw [← hh, Bd.state]; rfl
  have N0 := Fr.nil n0
  have pre0 : ∀ t, Steps p.tables e below (s₁.setTop (mkF m 0 #[.val (.ref a0)] [])) t → Steps p.tables e below (s₁.setTop (entryFrame m #[(.ref a0)] 1)) t := fun t k => castTop (ef_3 m a0) k
  obtain ⟨T3, X3, e3, st3⟩ := getS2 X0 hx hZ hown (host := "") (Or.inl (own_wk hw 22 rfl)) Via.refl e0 (Sta.ext O_.2 S_cs) (g := (mkF m 0 #[.val (.ref a0)] [])) rfl (hb hby d3_0)
  obtain ⟨T4, X4, e4, st4⟩ := getF X3 hx hZ hown (host := "") (Or.inl (own_wk hw 23 rfl)) Via.refl e3 F_coder_a0 (g := (mkF m 7 #[.val (.ref a0)] [(.ref a0)])) rfl rfl (hb hby d3_7)
  obtain ⟨fs, hr, hrun, hended, hW, hsame⟩ := X4.leave (v := some (.int (1 : Int32))) (fun h => by rw [Bd.returns] at h; cases h)
  refine ⟨_, _, pre0 _ ?_, hrun, hended, _, _, rfl, ?_, ⟨_, rfl⟩, hW, hsame.mono (by decide) (by decide)⟩
  · show own_S p e below s₁ (mkF m 0 #[.val (.ref a0)] []) _
    refine st3 _ ?_
    show own_S p e below T3 (mkF m 3 #[.val (.ref a0)] [(.int cs)]) _
    refine XS.ifNo X3.here hx rfl (hb hby d3_3) rfl ((if0 _ _).trans (feq (show ¬ (cs = (0 : Int32)) from hcs)).1) ?_
    show own_S p e below T3 (mkF m 6 #[.val (.ref a0)] []) _
    refine XS.aloadN X3.here hx rfl (hb hby d3_6) rfl rfl ?_
    show own_S p e below T3 (mkF m 7 #[.val (.ref a0)] [(.ref a0)]) _
    refine st4 _ ?_
    show own_S p e below T4 (mkF m 10 #[.val (.ref a0)] [.int 0]) _
    refine XS.ifNo X4.here hx rfl (hb hby d3_10) rfl ((if0 _ _).trans (teq (by decide : (0 : Int32) = (0 : Int32))).2) ?_
    show own_S p e below T4 (mkF m 13 #[.val (.ref a0)] []) _
    refine XS.iconst X4.here hx rfl (hb hby d3_13) ?_
    refine XS.goto X4.here hx rfl (pc0 := 14) (pc' := 18) rfl (hb hby d3_14) (by decide) (by decide) ?_
    show own_S p e below T4 (mkF m 18 #[.val (.ref a0)] [.int 1]) _
    exact retN X4 hx (t := .boolean) Bd.returns (by simp) (hb hby d3_18) hr
  · show Q3_0 Z a0 cs h0 n0 _ T4.heap _
    rw [e4]
    exact ⟨rfl, N0, rfl⟩
theorem d3_17 : decode jdk_42_method_154_code 17 = .ok (.iconst 0, 1) := by decide +kernel
def Q3_1 (Z : State) (a0 : Addr) (cs : Int32) (h0 : Heap) (n0 : Nat) (v : Option Value) (h : Heap) (L : List Loc) : Prop := v = some (.int (0 : Int32)) ∧ Fr n0 L ∧ h = h0
set_option maxRecDepth 65536 in
set_option maxHeartbeats 40000000 in
theorem rm3_1 (l : Launch) (Z : State) (ag : Array Value) (hw : ∀ d ∈ tables_1, d.before ag Z = true) (ws : List Jvm.Cond) (a0 : Addr) (cs : Int32) (h0 : Heap) (n0 : Nat) (Z0 : n0 ≤ h0.size) (F_coder_a0 : Fld Z h0 a0 "java/lang/String" "coder" "B" (.int (1 : Int32))) (O_ : Old Z n0 h0) (S_cs : Sta Z Z.heap "java/lang/String" "COMPACT_STRINGS" "Z" (.int cs)) (hcs : ¬ cs = (0 : Int32)) :
    MetFree l (⟨"java/lang/String", "isLatin1", "()Z"⟩ : MethodName) (head1 (Jvm.Cond.code (⟨"java/lang/String", "isLatin1", "()Z"⟩ : MethodName) jdk_42_method_154_code 1 (some .boolean) :: ws) ({ frames := 0, cells := 0, slots := 0, locals := 0 } : Room)) (fun a U => a = #[(.ref a0)] ∧ Z.Warmed39 U.vm ∧ U.heap = h0) (fun _ _ _ _ _ => True) (fun _ U o U' => ∃ v L, o = .returned v ∧ Q3_1 Z a0 cs h0 n0 v U'.heap L ∧ FrameEnd U o U' L ({ frames := 0, cells := 0, slots := 0, locals := 0 } : Room).cells ({ frames := 0, cells := 0, slots := 0, locals := 0 } : Room).slots) := by
  refine MetFree.of_bodySF (plainFor_of_name pn_4) hisR ?_
  intro p e s m args below meth c s₁ Bd hml0 hP hK
  obtain ⟨rfl, hZ, hh⟩ := hP
  have hx := Bd.exec
  have hby := Bd.bytes
  have hml : c.maxLocals = 1 := hml0
  have hown : s.vm.findClass "java/lang/String" = some m.cls := findClass_of_methodNamed Bd.named
  have hnm := (name_of_methodNamed Bd.named Bd.method).1
  have X0 : Stand p l e ({ frames := 0, cells := 0, slots := 0, locals := 0 } : Room) s m #[(.ref a0)] below meth c s₁ [] 0 0 := Stand.of_body Bd
  have e0 : s₁.heap = h0 := by rw [← hh, Bd.state]; rfl
  have N0 := Fr.nil n0
  have pre0 : ∀ t, Steps p.tables e below (s₁.setTop (mkF m 0 #[.val (.ref a0)] [])) t → Steps p.tables e below (s₁.setTop (entryFrame m #[(.ref a0)] 1)) t := fun t k => castTop (ef_3 m a0) k
  obtain ⟨T5, X5, e5, st5⟩ := getS2 X0 hx hZ hown (host := "") (Or.inl (own_wk hw 22 rfl)) Via.refl e0 (Sta.ext O_.2 S_cs) (g := (mkF m 0 #[.val (.ref a0)] [])) rfl (hb hby d3_0)
  obtain ⟨T6, X6, e6, st6⟩ := getF X5 hx hZ hown (host := "") (Or.inl (own_wk hw 23 rfl)) Via.refl e5 F_coder_a0 (g := (mkF m 7 #[.val (.ref a0)] [(.ref a0)])) rfl rfl (hb hby d3_7)
  obtain ⟨fs, hr, hrun, hended, hW, hsame⟩ := X6.leave (v := some (.int (0 : Int32))) (fun h => by rw [Bd.returns] at h; cases h)
  refine ⟨_, _, pre0 _ ?_, hrun, hended, _, _, rfl, ?_, ⟨_, rfl⟩, hW, hsame.mono (by decide) (by decide)⟩
  · show own_S p e below s₁ (mkF m 0 #[.val (.ref a0)] []) _
    refine st5 _ ?_
    show own_S p e below T5 (mkF m 3 #[.val (.ref a0)] [(.int cs)]) _
    refine XS.ifNo X5.here hx rfl (hb hby d3_3) rfl ((if0 _ _).trans (feq (show ¬ (cs = (0 : Int32)) from hcs)).1) ?_
    show own_S p e below T5 (mkF m 6 #[.val (.ref a0)] []) _
    refine XS.aloadN X5.here hx rfl (hb hby d3_6) rfl rfl ?_
    show own_S p e below T5 (mkF m 7 #[.val (.ref a0)] [(.ref a0)]) _
    refine st6 _ ?_
    show own_S p e below T6 (mkF m 10 #[.val (.ref a0)] [.int 1]) _
    refine XS.ifYes X6.here hx rfl (pc0 := 10) (pc' := 17) rfl (hb hby d3_10) rfl ((if0 _ _).trans (feq (by decide : ¬ ((1 : Int32) = (0 : Int32)))).2) (by decide) (by decide) ?_
    show own_S p e below T6 (mkF m 17 #[.val (.ref a0)] []) _
    refine XS.iconst X6.here hx rfl (hb hby d3_17) ?_
    show own_S p e below T6 (mkF m 18 #[.val (.ref a0)] [.int 0]) _
    exact retN X6 hx (t := .boolean) Bd.returns (by simp) (hb hby d3_18) hr
  · show Q3_1 Z a0 cs h0 n0 _ T6.heap _
    rw [e6]
    exact ⟨rfl, N0, rfl⟩
theorem pn_5 : plainName "java/lang/StringLatin1" = true := by first | (simp [plainName, overriddenIn]; done) | decide +kernel
theorem ef_4 (m : MethodId) (a0 : Addr) (p1 : Int32) : entryFrame m #[(.ref a0), (.int p1)] 2 = mkF m 0 #[.val (.ref a0), .val (.int p1)] [] := by first | (simp [entryFrame, mkF, argsToLocals, Value.category]; done) | rfl
theorem d4_0 : decode jdk_43_method_2_code 0 = .ok (.iload_n 1, 1) := by decide +kernel
theorem d4_1 : decode jdk_43_method_2_code 1 = .ok (.aload_n 0, 1) := by decide +kernel
theorem d4_2 : decode jdk_43_method_2_code 2 = .ok (.arraylength, 1) := by decide +kernel
theorem pd_12 : parseMethodDescriptor "(II)V" = some ⟨[.int, .int], none⟩ := by decide +kernel
theorem d4_3 : decode jdk_43_method_2_code 3 = .ok (.invokestatic 9, 3) := by decide +kernel
theorem d4_6 : decode jdk_43_method_2_code 6 = .ok (.aload_n 0, 1) := by decide +kernel
theorem d4_7 : decode jdk_43_method_2_code 7 = .ok (.iload_n 1, 1) := by decide +kernel
theorem d4_8 : decode jdk_43_method_2_code 8 = .ok (.baload, 1) := by decide +kernel
theorem d4_9 : decode jdk_43_method_2_code 9 = .ok (.sipush 255, 3) := by decide +kernel
theorem d4_12 : decode jdk_43_method_2_code 12 = .ok (.iand, 1) := by decide +kernel
theorem d4_13 : decode jdk_43_method_2_code 13 = .ok (.i2c, 1) := by decide +kernel
theorem d4_14 : decode jdk_43_method_2_code 14 = .ok (.ireturn, 1) := by decide +kernel
def Q4 (Z : State) (a0 : Addr) (p1 : Int32) (kb : ClassId) (nb : Int32) (bs : List Value) (u : Int32) (gf : Value) (h0 : Heap) (n0 : Nat) (v : Option Value) (h : Heap) (L : List Loc) : Prop := v = some (.int (nar .char ((u &&& (255 : Int32)).toUInt32.toUInt16.toUInt32.toInt32))) ∧ Fr n0 L ∧ h = h0
set_option maxRecDepth 65536 in
set_option maxHeartbeats 40000000 in
theorem rm4 (l : Launch) (Z : State) (ag : Array Value) (hw : ∀ d ∈ tables_1, d.before ag Z = true) (ws : List Jvm.Cond) (a0 : Addr) (p1 : Int32) (kb : ClassId) (nb : Int32) (bs : List Value) (u : Int32) (gf : Value) (h0 : Heap) (n0 : Nat) (Z0 : n0 ≤ h0.size) (V_a0 : Arv Z h0 a0 kb .byte nb bs (.int (0 : Int32))) (h1 : ¬ p1 < (0 : Int32)) (h2 : p1 < nb) (hu : bs.getD (p1).toNatClampNeg (.int (0 : Int32)) = .int u) (O_ : Old Z n0 h0) (S_gf : Sta Z Z.heap "jdk/internal/util/Preconditions" "SIOOBE_FORMATTER" "Ljava/util/function/BiFunction;" gf) (rv_gf : gf.isRef = true) :
    MetFree l (⟨"java/lang/StringLatin1", "charAt", "([BI)C"⟩ : MethodName) (head1 (Jvm.Cond.code (⟨"java/lang/StringLatin1", "charAt", "([BI)C"⟩ : MethodName) jdk_43_method_2_code 2 (some .char) :: ws) ({ frames := 2, cells := 0, slots := 0, locals := 27 } : Room)) (fun a U => a = #[(.ref a0), (.int p1)] ∧ Z.Warmed39 U.vm ∧ U.heap = h0) (fun _ _ _ _ _ => True) (fun _ U o U' => ∃ v L, o = .returned v ∧ Q4 Z a0 p1 kb nb bs u gf h0 n0 v U'.heap L ∧ FrameEnd U o U' L ({ frames := 2, cells := 0, slots := 0, locals := 27 } : Room).cells ({ frames := 2, cells := 0, slots := 0, locals := 27 } : Room).slots) := by
  refine MetFree.of_bodySF (plainFor_of_name pn_5) hisR ?_
  intro p e s m args below meth c s₁ Bd hml0 hP hK
  obtain ⟨rfl, hZ, hh⟩ := hP
  have hx := Bd.exec
  have hby := Bd.bytes
  have hml : c.maxLocals = 2 := hml0
  have hown : s.vm.findClass "java/lang/StringLatin1" = some m.cls := findClass_of_methodNamed Bd.named
  have hnm := (name_of_methodNamed Bd.named Bd.method).1
  have X0 : Stand p l e ({ frames := 2, cells := 0, slots := 0, locals := 27 } : Room) s m #[(.ref a0), (.int p1)] below meth c s₁ [] 0 0 := Stand.of_body Bd
  have e0 : s₁.heap = h0 := by rw [← hh, Bd.state]; rfl
  have N0 := Fr.nil n0
  have pre0 : ∀ t, Steps p.tables e below (s₁.setTop (mkF m 0 #[.val (.ref a0), .val (.int p1)] [])) t → Steps p.tables e below (s₁.setTop (entryFrame m #[(.ref a0), (.int p1)] 2)) t := fun t k => castTop (ef_4 m a0 p1) k
  obtain ⟨cl7, Ar7, -, S7, M7, -, -⟩ := id V_a0
  have ld7 := X0.arraylength hx (by rw [e0]; exact Ar7.1) (State.isArrayOf_alike hZ.alike Ar7.2.1) (g := (mkF m 2 #[.val (.ref a0), .val (.int p1)] [(.ref a0), (.int p1)])) rfl rfl (hb hby d4_2)
  obtain ⟨_, _, ⟨T8, L8, k8, n8⟩, -, X8, ⟨Lc8, hQ8, l8, y8, z8⟩, st8⟩ := Jvm.LawKit.callS X0 hx (y := (⟨"java/lang/String", "checkIndex", "(II)V"⟩ : MethodName)) hown (mvT hZ (own_wk hw 29 rfl)) (mvT hZ (own_wk hw 30 rfl)) (mvT hZ (own_wk hw 5 rfl)) (mvT hZ (own_wk hw 31 rfl)) (by decide) (backOf (W := 0) (rm5 l Z ag hw [] p1 nb gf h0 n0 Z0 h1 h2 O_ S_gf rv_gf) hZ (own_wk hw 31 rfl) (own_wk hw 5 rfl) (by decide) (by decide)) (g := (mkF m 3 #[.val (.ref a0), .val (.int p1)] [(.int nb), (.int p1)])) rfl (by rw [hml]; rfl) (argsL := [(.int p1), (.int nb)]) (rest := []) (lenOf pd_12 rfl) rfl (by show 2 * 0 + _ ≤ _; exact Nat.le_of_eq rfl) (hb hby d4_3) (fun _ _ => ⟨rfl, e0, (by decide : 0 + 0 ≤ _), (by decide : 0 + 0 ≤ _)⟩)
  dsimp only [Pt.U, Pt.locs, Pt.cells, Pt.slots] at X8 l8 y8 z8 st8 hQ8
  subst l8 y8 z8
  obtain ⟨rfl, N8q, e8⟩ := hQ8
  have N8 := Fr.app N0 N8q
  obtain ⟨cl9, Ar9, q9, S9, M9, H9, G9⟩ := id V_a0
  have hin9 : ¬ (p1 < 0 ∨ cl9.slots.size ≤ (p1).toNatClampNeg) := inb_of S9 ⟨h1, h2⟩
  have hat9 : cl9.slots[(p1).toNatClampNeg]? = some (.int u) := Has.at H9 hin9 hu
  have ld9 := X8.baloadBytes hx (j := p1) (v := (.int u)) (by rw [e8]; exact Ar9.1) (State.isArrayOf_alike hZ.alike Ar9.2.1) Ar9.2.2 hin9 hat9 (g := (mkF m 8 #[.val (.ref a0), .val (.int p1)] [(.int p1), (.ref a0)])) rfl rfl (hb hby d4_8)
  obtain ⟨fs, hr, hrun, hended, hW, hsame⟩ := X8.leave (v := some (.int (nar .char ((u &&& (255 : Int32)).toUInt32.toUInt16.toUInt32.toInt32)))) (fun h => by rw [Bd.returns] at h; cases h)
  refine ⟨_, _, pre0 _ ?_, hrun, hended, _, _, rfl, ?_, ⟨_, rfl⟩, hW, hsame.mono (by decide) (by decide)⟩
  · show own_S p e below s₁ (mkF m 0 #[.val (.ref a0), .val (.int p1)] []) _
    refine XS.iloadN X0.here hx rfl (hb hby d4_0) rfl ?_
    refine XS.aloadN X0.here hx rfl (hb hby d4_1) rfl rfl ?_
    show own_S p e below s₁ (mkF m 2 #[.val (.ref a0), .val (.int p1)] [(.ref a0), (.int p1)]) _
    refine ld7 _ ?_
    rw [len_of S7 M7]
    show own_S p e below s₁ (mkF m 3 #[.val (.ref a0), .val (.int p1)] [(.int nb), (.int p1)]) _
    refine st8 _ ?_
    show own_S p e below T8 (mkF m 6 #[.val (.ref a0), .val (.int p1)] []) _
    refine XS.aloadN X8.here hx rfl (hb hby d4_6) rfl rfl ?_
    refine XS.iloadN X8.here hx rfl (hb hby d4_7) rfl ?_
    show own_S p e below T8 (mkF m 8 #[.val (.ref a0), .val (.int p1)] [(.int p1), (.ref a0)]) _
    refine ld9 _ ?_
    show own_S p e below T8 (mkF m 9 #[.val (.ref a0), .val (.int p1)] [(.int u)]) _
    refine XS.sipush X8.here hx rfl (hb hby d4_9) ?_
    refine XS.iand X8.here hx rfl (hb hby d4_12) rfl ?_
    refine XS.i2c X8.here hx rfl (hb hby d4_13) rfl ?_
    show own_S p e below T8 (mkF m 14 #[.val (.ref a0), .val (.int p1)] [(.int ((u &&& (255 : Int32)).toUInt32.toUInt16.toUInt32.toInt32))]) _
    exact retN X8 hx (t := .char) Bd.returns (by simp) (hb hby d4_14) hr
  · show Q4 Z a0 p1 kb nb bs u gf h0 n0 _ T8.heap _
    rw [e8]
    exact ⟨rfl, N8, rfl⟩
theorem ef_13 (m : MethodId) (a0 : Addr) : entryFrame m #[(.ref a0)] 1 = mkF m 0 #[.val (.ref a0)] [] := by first | (simp [entryFrame, mkF, argsToLocals, Value.category]; done) | rfl
theorem d13_0 : decode jdk_42_method_152_code 0 = .ok (.getstatic 38, 3) := by decide +kernel
theorem d13_3 : decode jdk_42_method_152_code 3 = .ok (.ifCond .eq 10, 3) := by decide +kernel
theorem d13_6 : decode jdk_42_method_152_code 6 = .ok (.aload_n 0, 1) := by decide +kernel
theorem d13_7 : decode jdk_42_method_152_code 7 = .ok (.getfield 15, 3) := by decide +kernel
theorem d13_10 : decode jdk_42_method_152_code 10 = .ok (.goto 4, 3) := by decide +kernel
theorem d13_14 : decode jdk_42_method_152_code 14 = .ok (.ireturn, 1) := by decide +kernel
def Q13 (Z : State) (a0 : Addr) (cd : Int32) (cs : Int32) (h0 : Heap) (n0 : Nat) (v : Option Value) (h : Heap) (L : List Loc) : Prop := v = some (.int (nar .byte cd)) ∧ Fr n0 L ∧ h = h0
set_option maxRecDepth 65536 in
set_option maxHeartbeats 40000000 in
theorem rm13 (l : Launch) (Z : State) (ag : Array Value) (hw : ∀ d ∈ tables_1, d.before ag Z = true) (ws : List Jvm.Cond) (a0 : Addr) (cd : Int32) (cs : Int32) (h0 : Heap) (n0 : Nat) (Z0 : n0 ≤ h0.size) (F_coder_a0 : Fld Z h0 a0 "java/lang/String" "coder" "B" (.int cd)) (O_ : Old Z n0 h0) (S_cs : Sta Z Z.heap "java/lang/String" "COMPACT_STRINGS" "Z" (.int cs)) (hcs : ¬ cs = (0 : Int32)) :
    MetFree l (⟨"java/lang/String", "coder", "()B"⟩ : MethodName) (head1 (Jvm.Cond.code (⟨"java/lang/String", "coder", "()B"⟩ : MethodName) jdk_42_method_152_code 1 (some .byte) :: ws) ({ frames := 0, cells := 0, slots := 0, locals := 0 } : Room)) (fun a U => a = #[(.ref a0)] ∧ Z.Warmed39 U.vm ∧ U.heap = h0) (fun _ _ _ _ _ => True) (fun _ U o U' => ∃ v L, o = .returned v ∧ Q13 Z a0 cd cs h0 n0 v U'.heap L ∧ FrameEnd U o U' L ({ frames := 0, cells := 0, slots := 0, locals := 0 } : Room).cells ({ frames := 0, cells := 0, slots := 0, locals := 0 } : Room).slots) := by
  refine MetFree.of_bodySF (plainFor_of_name pn_4) hisR ?_
  intro p e s m args below meth c s₁ Bd hml0 hP hK
  obtain ⟨rfl, hZ, hh⟩ := hP
  have hx := Bd.exec
  have hby := Bd.bytes
  have hml : c.maxLocals = 1 := hml0
  have hown : s.vm.findClass "java/lang/String" = some m.cls := findClass_of_methodNamed Bd.named
  have hnm := (name_of_methodNamed Bd.named Bd.method).1
  have X0 : Stand p l e ({ frames := 0, cells := 0, slots := 0, locals := 0 } : Room) s m #[(.ref a0)] below meth c s₁ [] 0 0 := Stand.of_body Bd
  have e0 : s₁.heap = h0 := by rw [← hh, Bd.state]; rfl
  have N0 := Fr.nil n0
  have pre0 : ∀ t, Steps p.tables e below (s₁.setTop (mkF m 0 #[.val (.ref a0)] [])) t → Steps p.tables e below (s₁.setTop (entryFrame m #[(.ref a0)] 1)) t := fun t k => castTop (ef_13 m a0) k
  obtain ⟨T10, X10, e10, st10⟩ := getS2 X0 hx hZ hown (host := "") (Or.inl (own_wk hw 22 rfl)) Via.refl e0 (Sta.ext O_.2 S_cs) (g := (mkF m 0 #[.val (.ref a0)] [])) rfl (hb hby d13_0)
  obtain ⟨T11, X11, e11, st11⟩ := getF X10 hx hZ hown (host := "") (Or.inl (own_wk hw 23 rfl)) Via.refl e10 F_coder_a0 (g := (mkF m 7 #[.val (.ref a0)] [(.ref a0)])) rfl rfl (hb hby d13_7)
  obtain ⟨fs, hr, hrun, hended, hW, hsame⟩ := X11.leave (v := some (.int (nar .byte cd))) (fun h => by rw [Bd.returns] at h; cases h)
  refine ⟨_, _, pre0 _ ?_, hrun, hended, _, _, rfl, ?_, ⟨_, rfl⟩, hW, hsame.mono (by decide) (by decide)⟩
  · show own_S p e below s₁ (mkF m 0 #[.val (.ref a0)] []) _
    refine st10 _ ?_
    show own_S p e below T10 (mkF m 3 #[.val (.ref a0)] [(.int cs)]) _
    refine XS.ifNo X10.here hx rfl (hb hby d13_3) rfl ((if0 _ _).trans (feq (show ¬ (cs = (0 : Int32)) from hcs)).1) ?_
    show own_S p e below T10 (mkF m 6 #[.val (.ref a0)] []) _
    refine XS.aloadN X10.here hx rfl (hb hby d13_6) rfl rfl ?_
    show own_S p e below T10 (mkF m 7 #[.val (.ref a0)] [(.ref a0)]) _
    refine st11 _ ?_
    show own_S p e below T11 (mkF m 10 #[.val (.ref a0)] [(.int cd)]) _
    refine XS.goto X11.here hx rfl (pc0 := 10) (pc' := 14) rfl (hb hby d13_10) (by decide) (by decide) ?_
    show own_S p e below T11 (mkF m 14 #[.val (.ref a0)] [(.int cd)]) _
    exact retN X11 hx (t := .byte) Bd.returns (by simp) (hb hby d13_14) hr
  · show Q13 Z a0 cd cs h0 n0 _ T11.heap _
    rw [e11]
    exact ⟨rfl, N0, rfl⟩
theorem pn_6 : plainName "java/lang/StringUTF16" = true := by first | (simp [plainName, overriddenIn]; done) | decide +kernel
theorem ef_34 (m : MethodId) (a0 : Addr) : entryFrame m #[(.ref a0)] 1 = mkF m 0 #[.val (.ref a0)] [] := by first | (simp [entryFrame, mkF, argsToLocals, Value.category]; done) | rfl
theorem d34_0 : decode jdk_52_method_6_code 0 = .ok (.aload_n 0, 1) := by decide +kernel
theorem d34_1 : decode jdk_52_method_6_code 1 = .ok (.arraylength, 1) := by decide +kernel
theorem d34_2 : decode jdk_52_method_6_code 2 = .ok (.iconst 1, 1) := by decide +kernel
theorem d34_3 : decode jdk_52_method_6_code 3 = .ok (.ishr, 1) := by decide +kernel
theorem d34_4 : decode jdk_52_method_6_code 4 = .ok (.ireturn, 1) := by decide +kernel
def Q34 (Z : State) (a0 : Addr) (kb : ClassId) (nb : Int32) (bs : List Value) (h0 : Heap) (n0 : Nat) (v : Option Value) (h : Heap) (L : List Loc) : Prop := v = some (.int (nb >>> ((1 : Int32) &&& 31))) ∧ Fr n0 L ∧ h = h0
set_option maxRecDepth 65536 in
set_option maxHeartbeats 40000000 in
theorem rm34 (l : Launch) (Z : State) (ag : Array Value) (hw : ∀ d ∈ tables_1, d.before ag Z = true) (ws : List Jvm.Cond) (a0 : Addr) (kb : ClassId) (nb : Int32) (bs : List Value) (h0 : Heap) (n0 : Nat) (Z0 : n0 ≤ h0.size) (V_a0 : Arv Z h0 a0 kb .byte nb bs (.int (0 : Int32))) :
    MetFree l (⟨"java/lang/StringUTF16", "length", "([B)I"⟩ : MethodName) (head1 (Jvm.Cond.code (⟨"java/lang/StringUTF16", "length", "([B)I"⟩ : MethodName) jdk_52_method_6_code 1 (some .int) :: ws) ({ frames := 0, cells := 0, slots := 0, locals := 0 } : Room)) (fun a U => a = #[(.ref a0)] ∧ Z.Warmed39 U.vm ∧ U.heap = h0) (fun _ _ _ _ _ => True) (fun _ U o U' => ∃ v L, o = .returned v ∧ Q34 Z a0 kb nb bs h0 n0 v U'.heap L ∧ FrameEnd U o U' L ({ frames := 0, cells := 0, slots := 0, locals := 0 } : Room).cells ({ frames := 0, cells := 0, slots := 0, locals := 0 } : Room).slots) := by
  refine MetFree.of_bodySF (plainFor_of_name pn_6) hisR ?_
  intro p e s m args below meth c s₁ Bd hml0 hP hK
  obtain ⟨rfl, hZ, hh⟩ := hP
  have hx := Bd.exec
  have hby := Bd.bytes
  have hml : c.maxLocals = 1 := hml0
  have hown : s.vm.findClass "java/lang/StringUTF16" = some m.cls := findClass_of_methodNamed Bd.named
  have hnm := (name_of_methodNamed Bd.named Bd.method).1
  have X0 : Stand p l e ({ frames := 0, cells := 0, slots := 0, locals := 0 } : Room) s m #[(.ref a0)] below meth c s₁ [] 0 0 := Stand.of_body Bd
  have e0 : s₁.heap = h0 := by rw [← hh, Bd.state]; rfl
  have N0 := Fr.nil n0
  have pre0 : ∀ t, Steps p.tables e below (s₁.setTop (mkF m 0 #[.val (.ref a0)] [])) t → Steps p.tables e below (s₁.setTop (entryFrame m #[(.ref a0)] 1)) t := fun t k => castTop (ef_34 m a0) k
  obtain ⟨cl12, Ar12, -, S12, M12, -, -⟩ := id V_a0
  have ld12 := X0.arraylength hx (by rw [e0]; exact Ar12.1) (State.isArrayOf_alike hZ.alike Ar12.2.1) (g := (mkF m 1 #[.val (.ref a0)] [(.ref a0)])) rfl rfl (hb hby d34_1)
  obtain ⟨fs, hr, hrun, hended, hW, hsame⟩ := X0.leave (v := some (.int (nb >>> ((1 : Int32) &&& 31)))) (fun h => by rw [Bd.returns] at h; cases h)
  refine ⟨_, _, pre0 _ ?_, hrun, hended, _, _, rfl, ?_, ⟨_, rfl⟩, hW, hsame.mono (by decide) (by decide)⟩
  · show own_S p e below s₁ (mkF m 0 #[.val (.ref a0)] []) _
    refine XS.aloadN X0.here hx rfl (hb hby d34_0) rfl rfl ?_
    show own_S p e below s₁ (mkF m 1 #[.val (.ref a0)] [(.ref a0)]) _
    refine ld12 _ ?_
    rw [len_of S12 M12]
    show own_S p e below s₁ (mkF m 2 #[.val (.ref a0)] [(.int nb)]) _
    refine XS.iconst X0.here hx rfl (hb hby d34_2) ?_
    refine XS.ishr X0.here hx rfl (hb hby d34_3) rfl ?_
    show own_S p e below s₁ (mkF m 4 #[.val (.ref a0)] [(.int (nb >>> ((1 : Int32) &&& 31)))]) _
    exact retI X0 hx Bd.returns (hb hby d34_4) hr
  · show Q34 Z a0 kb nb bs h0 n0 _ s₁.heap _
    rw [e0]
    exact ⟨rfl, N0, rfl⟩
theorem ef_33 (m : MethodId) (p0 : Int32) (a1 : Addr) : entryFrame m #[(.int p0), (.ref a1)] 2 = mkF m 0 #[.val (.int p0), .val (.ref a1)] [] := by first | (simp [entryFrame, mkF, argsToLocals, Value.category]; done) | rfl
theorem d33_0 : decode jdk_52_method_91_code 0 = .ok (.iload_n 0, 1) := by decide +kernel
theorem d33_1 : decode jdk_52_method_91_code 1 = .ok (.aload_n 1, 1) := by decide +kernel
theorem pd_17 : parseMethodDescriptor "([B)I" = some ⟨[(.array .byte)], some .int⟩ := by decide +kernel
theorem d33_2 : decode jdk_52_method_91_code 2 = .ok (.invokestatic 48, 3) := by decide +kernel
theorem d33_5 : decode jdk_52_method_91_code 5 = .ok (.invokestatic 414, 3) := by decide +kernel
theorem d33_8 : decode jdk_52_method_91_code 8 = .ok (.return_, 1) := by decide +kernel
def Q33 (Z : State) (p0 : Int32) (a1 : Addr) (kb : ClassId) (nb : Int32) (bs : List Value) (gf : Value) (h0 : Heap) (n0 : Nat) (v : Option Value) (h : Heap) (L : List Loc) : Prop := v = none ∧ Fr n0 L ∧ h = h0
set_option maxRecDepth 65536 in
set_option maxHeartbeats 40000000 in
theorem rm33 (l : Launch) (Z : State) (ag : Array Value) (hw : ∀ d ∈ tables_1, d.before ag Z = true) (ws : List Jvm.Cond) (p0 : Int32) (a1 : Addr) (kb : ClassId) (nb : Int32) (bs : List Value) (gf : Value) (h0 : Heap) (n0 : Nat) (Z0 : n0 ≤ h0.size) (V_a1 : Arv Z h0 a1 kb .byte nb bs (.int (0 : Int32))) (h1 : ¬ p0 < (0 : Int32)) (h2 : p0 < (nb >>> ((1 : Int32) &&& 31))) (O_ : Old Z n0 h0) (S_gf : Sta Z Z.heap "jdk/internal/util/Preconditions" "SIOOBE_FORMATTER" "Ljava/util/function/BiFunction;" gf) (rv_gf : gf.isRef = true) :
    MetFree l (⟨"java/lang/StringUTF16", "checkIndex", "(I[B)V"⟩ : MethodName) (head1 (Jvm.Cond.code (⟨"java/lang/StringUTF16", "checkIndex", "(I[B)V"⟩ : MethodName) jdk_52_method_91_code 2 none :: ws) ({ frames := 2, cells := 0, slots := 0, locals := 27 } : Room)) (fun a U => a = #[(.int p0), (.ref a1)] ∧ Z.Warmed39 U.vm ∧ U.heap = h0) (fun _ _ _ _ _ => True) (fun _ U o U' => ∃ v L, o = .returned v ∧ Q33 Z p0 a1 kb nb bs gf h0 n0 v U'.heap L ∧ FrameEnd U o U' L ({ frames := 2, cells := 0, slots := 0, locals := 27 } : Room).cells ({ frames := 2, cells := 0, slots := 0, locals := 27 } : Room).slots) := by
  refine MetFree.of_bodySF (plainFor_of_name pn_6) hisR ?_
  intro p e s m args below meth c s₁ Bd hml0 hP hK
  obtain ⟨rfl, hZ, hh⟩ := hP
  have hx := Bd.exec
  have hby := Bd.bytes
  have hml : c.maxLocals = 2 := hml0
  have hown : s.vm.findClass "java/lang/StringUTF16" = some m.cls := findClass_of_methodNamed Bd.named
  have hnm := (name_of_methodNamed Bd.named Bd.method).1
  have X0 : Stand p l e ({ frames := 2, cells := 0, slots := 0, locals := 27 } : Room) s m #[(.int p0), (.ref a1)] below meth c s₁ [] 0 0 := Stand.of_body Bd
  have e0 : s₁.heap = h0 := by rw [← hh, Bd.state]; rfl
  have N0 := Fr.nil n0
  have pre0 : ∀ t, Steps p.tables e below (s₁.setTop (mkF m 0 #[.val (.int p0), .val (.ref a1)] [])) t → Steps p.tables e below (s₁.setTop (entryFrame m #[(.int p0), (.ref a1)] 2)) t := fun t k => castTop (ef_33 m p0 a1) k
  obtain ⟨_, _, ⟨T13, L13, k13, n13⟩, -, X13, ⟨Lc13, hQ13, l13, y13, z13⟩, st13⟩ := Jvm.LawKit.callS X0 hx (y := (⟨"java/lang/StringUTF16", "length", "([B)I"⟩ : MethodName)) hown (mvT hZ (own_wk hw 142 rfl)) (mvT hZ (own_wk hw 143 rfl)) (mvT hZ (own_wk hw 77 rfl)) (mvT hZ (own_wk hw 144 rfl)) (by decide) (backOf (W := 1) (rm34 l Z ag hw [] a1 kb nb bs h0 n0 Z0 V_a1) hZ (own_wk hw 144 rfl) (own_wk hw 77 rfl) (by decide) (by decide)) (g := (mkF m 2 #[.val (.int p0), .val (.ref a1)] [(.ref a1), (.int p0)])) rfl (by rw [hml]; rfl) (argsL := [(.ref a1)]) (rest := [(.int p0)]) (lenOf pd_17 rfl) rfl (by show 2 * 0 + _ ≤ _; exact Nat.le_of_eq rfl) (hb hby d33_2) (fun _ _ => ⟨rfl, e0, (by decide : 0 + 0 ≤ _), (by decide : 0 + 0 ≤ _)⟩)
  dsimp only [Pt.U, Pt.locs, Pt.cells, Pt.slots] at X13 l13 y13 z13 st13 hQ13
  subst l13 y13 z13
  obtain ⟨rfl, N13q, e13⟩ := hQ13
  have N13 := Fr.app N0 N13q
  obtain ⟨_, _, ⟨T14, L14, k14, n14⟩, -, X14, ⟨Lc14, hQ14, l14, y14, z14⟩, st14⟩ := Jvm.LawKit.callS X13 hx (y := (⟨"java/lang/String", "checkIndex", "(II)V"⟩ : MethodName)) hown (mvT hZ (own_wk hw 145 rfl)) (mvT hZ (own_wk hw 30 rfl)) (mvT hZ (own_wk hw 5 rfl)) (mvT hZ (own_wk hw 31 rfl)) (by decide) (backOf (W := 0) (rm5 l Z ag hw [] p0 (nb >>> ((1 : Int32) &&& 31)) gf h0 n0 Z0 h1 h2 O_ S_gf rv_gf) hZ (own_wk hw 31 rfl) (own_wk hw 5 rfl) (by decide) (by decide)) (g := (mkF m 5 #[.val (.int p0), .val (.ref a1)] [(.int (nb >>> ((1 : Int32) &&& 31))), (.int p0)])) rfl (by rw [hml]; rfl) (argsL := [(.int p0), (.int (nb >>> ((1 : Int32) &&& 31)))]) (rest := []) (lenOf pd_12 rfl) rfl (by show 2 * 0 + _ ≤ _; exact Nat.le_of_eq rfl) (hb hby d33_5) (fun _ _ => ⟨rfl, e13, (by decide : 0 + 0 ≤ _), (by decide : 0 + 0 ≤ _)⟩)
  dsimp only [Pt.U, Pt.locs, Pt.cells, Pt.slots] at X14 l14 y14 z14 st14 hQ14
  subst l14 y14 z14
  obtain ⟨rfl, N14q, e14⟩ := hQ14
  have N14 := Fr.app N13 N14q
  obtain ⟨fs, hr, hrun, hended, hW, hsame⟩ := X14.leave (v := none) (fun _ => rfl)
  refine ⟨_, _, pre0 _ ?_, hrun, hended, _, _, rfl, ?_, ⟨_, rfl⟩, hW, hsame.mono (by decide) (by decide)⟩
  · show own_S p e below s₁ (mkF m 0 #[.val (.int p0), .val (.ref a1)] []) _
    refine XS.iloadN X0.here hx rfl (hb hby d33_0) rfl ?_
    refine XS.aloadN X0.here hx rfl (hb hby d33_1) rfl rfl ?_
    show own_S p e below s₁ (mkF m 2 #[.val (.int p0), .val (.ref a1)] [(.ref a1), (.int p0)]) _
    refine st13 _ ?_
    show own_S p e below T13 (mkF m 5 #[.val (.int p0), .val (.ref a1)] [(.int (nb >>> ((1 : Int32) &&& 31))), (.int p0)]) _
    refine st14 _ ?_
    show own_S p e below T14 (mkF m 8 #[.val (.int p0), .val (.ref a1)] []) _
    exact X14.returnOut hx Bd.returns (hb hby d33_8) hr
  · show Q33 Z p0 a1 kb nb bs gf h0 n0 _ T14.heap _
    rw [e14]
    exact ⟨rfl, N14, rfl⟩
theorem ef_31 (m : MethodId) (a0 : Addr) (p1 : Int32) : entryFrame m #[(.ref a0), (.int p1)] 2 = mkF m 0 #[.val (.ref a0), .val (.int p1)] [] := by first | (simp [entryFrame, mkF, argsToLocals, Value.category]; done) | rfl
theorem d31_0 : decode jdk_52_method_5_code 0 = .ok (.getstatic 44, 3) := by decide +kernel
theorem d31_3 : decode jdk_52_method_5_code 3 = .ok (.ifCond .ne 25, 3) := by decide +kernel
theorem d31_28 : decode jdk_52_method_5_code 28 = .ok (.iload_n 1, 1) := by decide +kernel
theorem d31_29 : decode jdk_52_method_5_code 29 = .ok (.iconst 1, 1) := by decide +kernel
theorem d31_30 : decode jdk_52_method_5_code 30 = .ok (.ishl, 1) := by decide +kernel
theorem d31_31 : decode jdk_52_method_5_code 31 = .ok (.istore_n 1, 1) := by decide +kernel
theorem d31_32 : decode jdk_52_method_5_code 32 = .ok (.aload_n 0, 1) := by decide +kernel
theorem d31_33 : decode jdk_52_method_5_code 33 = .ok (.iload_n 1, 1) := by decide +kernel
theorem d31_34 : decode jdk_52_method_5_code 34 = .ok (.iinc 1 1, 3) := by decide +kernel
theorem d31_37 : decode jdk_52_method_5_code 37 = .ok (.baload, 1) := by decide +kernel
theorem d31_38 : decode jdk_52_method_5_code 38 = .ok (.sipush 255, 3) := by decide +kernel
theorem d31_41 : decode jdk_52_method_5_code 41 = .ok (.iand, 1) := by decide +kernel
theorem d31_42 : decode jdk_52_method_5_code 42 = .ok (.getstatic 59, 3) := by decide +kernel
theorem d31_45 : decode jdk_52_method_5_code 45 = .ok (.ishl, 1) := by decide +kernel
theorem d31_46 : decode jdk_52_method_5_code 46 = .ok (.aload_n 0, 1) := by decide +kernel
theorem d31_47 : decode jdk_52_method_5_code 47 = .ok (.iload_n 1, 1) := by decide +kernel
theorem d31_48 : decode jdk_52_method_5_code 48 = .ok (.baload, 1) := by decide +kernel
theorem d31_49 : decode jdk_52_method_5_code 49 = .ok (.sipush 255, 3) := by decide +kernel
theorem d31_52 : decode jdk_52_method_5_code 52 = .ok (.iand, 1) := by decide +kernel
theorem d31_53 : decode jdk_52_method_5_code 53 = .ok (.getstatic 63, 3) := by decide +kernel
theorem d31_56 : decode jdk_52_method_5_code 56 = .ok (.ishl, 1) := by decide +kernel
theorem d31_57 : decode jdk_52_method_5_code 57 = .ok (.ior, 1) := by decide +kernel
theorem d31_58 : decode jdk_52_method_5_code 58 = .ok (.i2c, 1) := by decide +kernel
theorem d31_59 : decode jdk_52_method_5_code 59 = .ok (.ireturn, 1) := by decide +kernel
def Q31 (Z : State) (a0 : Addr) (p1 : Int32) (kb : ClassId) (nb : Int32) (bs : List Value) (u : Int32) (x : Int32) (h0 : Heap) (n0 : Nat) (v : Option Value) (h : Heap) (L : List Loc) : Prop := v = some (.int (nar .char ((((u &&& (255 : Int32)) <<< ((0 : Int32) &&& 31)) ||| ((x &&& (255 : Int32)) <<< ((8 : Int32) &&& 31))).toUInt32.toUInt16.toUInt32.toInt32))) ∧ Fr n0 L ∧ h = h0
set_option maxRecDepth 65536 in
set_option maxHeartbeats 40000000 in
theorem rm31 (l : Launch) (Z : State) (ag : Array Value) (hw : ∀ d ∈ tables_1, d.before ag Z = true) (ws : List Jvm.Cond) (a0 : Addr) (p1 : Int32) (kb : ClassId) (nb : Int32) (bs : List Value) (u : Int32) (x : Int32) (h0 : Heap) (n0 : Nat) (Z0 : n0 ≤ h0.size) (V_a0 : Arv Z h0 a0 kb .byte nb bs (.int (0 : Int32))) (hj : ¬ (p1 <<< ((1 : Int32) &&& 31)) < 0 ∧ (p1 <<< ((1 : Int32) &&& 31)) < nb) (hj1 : ¬ ((p1 <<< ((1 : Int32) &&& 31)) + (1 : Int32)) < 0 ∧ ((p1 <<< ((1 : Int32) &&& 31)) + (1 : Int32)) < nb) (hu : bs.getD ((p1 <<< ((1 : Int32) &&& 31))).toNatClampNeg (.int (0 : Int32)) = .int u) (hx_ : bs.getD (((p1 <<< ((1 : Int32) &&& 31)) + (1 : Int32))).toNatClampNeg (.int (0 : Int32)) = .int x) (O_ : Old Z n0 h0) (S_ad : Sta Z Z.heap "java/lang/StringUTF16" "$assertionsDisabled" "Z" (.int (1 : Int32))) (S_hi : Sta Z Z.heap "java/lang/StringUTF16" "HI_BYTE_SHIFT" "I" (.int (0 : Int32))) (S_lo : Sta Z Z.heap "java/lang/StringUTF16" "LO_BYTE_SHIFT" "I" (.int (8 : Int32))) :
    MetFree l (⟨"java/lang/StringUTF16", "getChar", "([BI)C"⟩ : MethodName) (head1 (Jvm.Cond.code (⟨"java/lang/StringUTF16", "getChar", "([BI)C"⟩ : MethodName) jdk_52_method_5_code 2 (some .char) :: ws) ({ frames := 0, cells := 0, slots := 0, locals := 0 } : Room)) (fun a U => a = #[(.ref a0), (.int p1)] ∧ Z.Warmed39 U.vm ∧ U.heap = h0) (fun _ _ _ _ _ => True) (fun _ U o U' => ∃ v L, o = .returned v ∧ Q31 Z a0 p1 kb nb bs u x h0 n0 v U'.heap L ∧ FrameEnd U o U' L ({ frames := 0, cells := 0, slots := 0, locals := 0 } : Room).cells ({ frames := 0, cells := 0, slots := 0, locals := 0 } : Room).slots) := by
  refine MetFree.of_bodySF (plainFor_of_name pn_6) hisR ?_
  intro p e s m args below meth c s₁ Bd hml0 hP hK
  obtain ⟨rfl, hZ, hh⟩ := hP
  have hx := Bd.exec
  have hby := Bd.bytes
  have hml : c.maxLocals = 2 := hml0
  have hown : s.vm.findClass "java/lang/StringUTF16" = some m.cls := findClass_of_methodNamed Bd.named
  have hnm := (name_of_methodNamed Bd.named Bd.method).1
  have X0 : Stand p l e ({ frames := 0, cells := 0, slots := 0, locals := 0 } : Room) s m #[(.ref a0), (.int p1)] below meth c s₁ [] 0 0 := Stand.of_body Bd
  have e0 : s₁.heap = h0 := by rw [← hh, Bd.state]; rfl
  have N0 := Fr.nil n0
  have pre0 : ∀ t, Steps p.tables e below (s₁.setTop (mkF m 0 #[.val (.ref a0), .val (.int p1)] [])) t → Steps p.tables e below (s₁.setTop (entryFrame m #[(.ref a0), (.int p1)] 2)) t := fun t k => castTop (ef_31 m a0 p1) k
  obtain ⟨T15, X15, e15, st15⟩ := getS2 X0 hx hZ hown (host := "") (Or.inl (own_wk hw 130 rfl)) Via.refl e0 (Sta.ext O_.2 S_ad) (g := (mkF m 0 #[.val (.ref a0), .val (.int p1)] [])) rfl (hb hby d31_0)
  obtain ⟨cl16, Ar16, q16, S16, M16, H16, G16⟩ := id V_a0
  have hin16 : ¬ ((p1 <<< ((1 : Int32) &&& 31)) < 0 ∨ cl16.slots.size ≤ ((p1 <<< ((1 : Int32) &&& 31))).toNatClampNeg) := inb_of S16 hj
  have hat16 : cl16.slots[((p1 <<< ((1 : Int32) &&& 31))).toNatClampNeg]? = some (.int u) := Has.at H16 hin16 hu
  have ld16 := X15.baloadBytes hx (j := (p1 <<< ((1 : Int32) &&& 31))) (v := (.int u)) (by rw [e15]; exact Ar16.1) (State.isArrayOf_alike hZ.alike Ar16.2.1) Ar16.2.2 hin16 hat16 (g := (mkF m 37 #[.val (.ref a0), .val (.int ((p1 <<< ((1 : Int32) &&& 31)) + (1 : Int32)))] [(.int (p1 <<< ((1 : Int32) &&& 31))), (.ref a0)])) rfl rfl (hb hby d31_37)
  obtain ⟨T17, X17, e17, st17⟩ := getS2 X15 hx hZ hown (host := "") (Or.inl (own_wk hw 131 rfl)) Via.refl e15 (Sta.ext O_.2 S_hi) (g := (mkF m 42 #[.val (.ref a0), .val (.int ((p1 <<< ((1 : Int32) &&& 31)) + (1 : Int32)))] [(.int (u &&& (255 : Int32)))])) rfl (hb hby d31_42)
  obtain ⟨cl18, Ar18, q18, S18, M18, H18, G18⟩ := id V_a0
  have hin18 : ¬ (((p1 <<< ((1 : Int32) &&& 31)) + (1 : Int32)) < 0 ∨ cl18.slots.size ≤ (((p1 <<< ((1 : Int32) &&& 31)) + (1 : Int32))).toNatClampNeg) := inb_of S18 hj1
  have hat18 : cl18.slots[(((p1 <<< ((1 : Int32) &&& 31)) + (1 : Int32))).toNatClampNeg]? = some (.int x) := Has.at H18 hin18 hx_
  have ld18 := X17.baloadBytes hx (j := ((p1 <<< ((1 : Int32) &&& 31)) + (1 : Int32))) (v := (.int x)) (by rw [e17]; exact Ar18.1) (State.isArrayOf_alike hZ.alike Ar18.2.1) Ar18.2.2 hin18 hat18 (g := (mkF m 48 #[.val (.ref a0), .val (.int ((p1 <<< ((1 : Int32) &&& 31)) + (1 : Int32)))] [(.int ((p1 <<< ((1 : Int32) &&& 31)) + (1 : Int32))), (.ref a0), (.int ((u &&& (255 : Int32)) <<< ((0 : Int32) &&& 31)))])) rfl rfl (hb hby d31_48)
  obtain ⟨T19, X19, e19, st19⟩ := getS2 X17 hx hZ hown (host := "") (Or.inl (own_wk hw 132 rfl)) Via.refl e17 (Sta.ext O_.2 S_lo) (g := (mkF m 53 #[.val (.ref a0), .val (.int ((p1 <<< ((1 : Int32) &&& 31)) + (1 : Int32)))] [(.int (x &&& (255 : Int32))), (.int ((u &&& (255 : Int32)) <<< ((0 : Int32) &&& 31)))])) rfl (hb hby d31_53)
  obtain ⟨fs, hr, hrun, hended, hW, hsame⟩ := X19.leave (v := some (.int (nar .char ((((u &&& (255 : Int32)) <<< ((0 : Int32) &&& 31)) ||| ((x &&& (255 : Int32)) <<< ((8 : Int32) &&& 31))).toUInt32.toUInt16.toUInt32.toInt32)))) (fun h => by rw [Bd.returns] at h; cases h)
  refine ⟨_, _, pre0 _ ?_, hrun, hended, _, _, rfl, ?_, ⟨_, rfl⟩, hW, hsame.mono (by decide) (by decide)⟩
  · show own_S p e below s₁ (mkF m 0 #[.val (.ref a0), .val (.int p1)] []) _
    refine st15 _ ?_
    show own_S p e below T15 (mkF m 3 #[.val (.ref a0), .val (.int p1)] [.int 1]) _
    refine XS.ifYes X15.here hx rfl (pc0 := 3) (pc' := 28) rfl (hb hby d31_3) rfl ((if0 _ _).trans (feq (by decide : ¬ ((1 : Int32) = (0 : Int32)))).2) (by decide) (by decide) ?_
    show own_S p e below T15 (mkF m 28 #[.val (.ref a0), .val (.int p1)] []) _
    refine XS.iloadN X15.here hx rfl (hb hby d31_28) rfl ?_
    refine XS.iconst X15.here hx rfl (hb hby d31_29) ?_
    refine XS.ishl X15.here hx rfl (hb hby d31_30) rfl ?_
    refine XS.istoreN X15.here hx rfl (hb hby d31_31) rfl (l' := #[.val (.ref a0), .val (.int (p1 <<< ((1 : Int32) &&& 31)))]) rfl ?_
    show own_S p e below T15 (mkF m 32 #[.val (.ref a0), .val (.int (p1 <<< ((1 : Int32) &&& 31)))] []) _
    refine XS.aloadN X15.here hx rfl (hb hby d31_32) rfl rfl ?_
    refine XS.iloadN X15.here hx rfl (hb hby d31_33) rfl ?_
    show own_S p e below T15 (mkF m 34 #[.val (.ref a0), .val (.int (p1 <<< ((1 : Int32) &&& 31)))] [(.int (p1 <<< ((1 : Int32) &&& 31))), (.ref a0)]) _
    refine XS.iinc X15.here hx rfl (hb hby d31_34) rfl (l' := #[.val (.ref a0), .val (.int ((p1 <<< ((1 : Int32) &&& 31)) + (1 : Int32)))]) rfl ?_
    show own_S p e below T15 (mkF m 37 #[.val (.ref a0), .val (.int ((p1 <<< ((1 : Int32) &&& 31)) + (1 : Int32)))] [(.int (p1 <<< ((1 : Int32) &&& 31))), (.ref a0)]) _
    refine ld16 _ ?_
    show own_S p e below T15 (mkF m 38 #[.val (.ref a0), .val (.int ((p1 <<< ((1 : Int32) &&& 31)) + (1 : Int32)))] [(.int u)]) _
    refine XS.sipush X15.here hx rfl (hb hby d31_38) ?_
    refine XS.iand X15.here hx rfl (hb hby d31_41) rfl ?_
    show own_S p e below T15 (mkF m 42 #[.val (.ref a0), .val (.int ((p1 <<< ((1 : Int32) &&& 31)) + (1 : Int32)))] [(.int (u &&& (255 : Int32)))]) _
    refine st17 _ ?_
    show own_S p e below T17 (mkF m 45 #[.val (.ref a0), .val (.int ((p1 <<< ((1 : Int32) &&& 31)) + (1 : Int32)))] [.int 0, (.int (u &&& (255 : Int32)))]) _
    refine XS.ishl X17.here hx rfl (hb hby d31_45) rfl ?_
    refine XS.aloadN X17.here hx rfl (hb hby d31_46) rfl rfl ?_
    refine XS.iloadN X17.here hx rfl (hb hby d31_47) rfl ?_
    show own_S p e below T17 (mkF m 48 #[.val (.ref a0), .val (.int ((p1 <<< ((1 : Int32) &&& 31)) + (1 : Int32)))] [(.int ((p1 <<< ((1 : Int32) &&& 31)) + (1 : Int32))), (.ref a0), (.int ((u &&& (255 : Int32)) <<< ((0 : Int32) &&& 31)))]) _
    refine ld18 _ ?_
    show own_S p e below T17 (mkF m 49 #[.val (.ref a0), .val (.int ((p1 <<< ((1 : Int32) &&& 31)) + (1 : Int32)))] [(.int x), (.int ((u &&& (255 : Int32)) <<< ((0 : Int32) &&& 31)))]) _
    refine XS.sipush X17.here hx rfl (hb hby d31_49) ?_
    refine XS.iand X17.here hx rfl (hb hby d31_52) rfl ?_
    show own_S p e below T17 (mkF m 53 #[.val (.ref a0), .val (.int ((p1 <<< ((1 : Int32) &&& 31)) + (1 : Int32)))] [(.int (x &&& (255 : Int32))), (.int ((u &&& (255 : Int32)) <<< ((0 : Int32) &&& 31)))]) _
    refine st19 _ ?_
    show own_S p e below T19 (mkF m 56 #[.val (.ref a0), .val (.int ((p1 <<< ((1 : Int32) &&& 31)) + (1 : Int32)))] [.int 8, (.int (x &&& (255 : Int32))), (.int ((u &&& (255 : Int32)) <<< ((0 : Int32) &&& 31)))]) _
    refine XS.ishl X19.here hx rfl (hb hby d31_56) rfl ?_
    refine XS.ior X19.here hx rfl (hb hby d31_57) rfl ?_
    refine XS.i2c X19.here hx rfl (hb hby d31_58) rfl ?_
    show own_S p e below T19 (mkF m 59 #[.val (.ref a0), .val (.int ((p1 <<< ((1 : Int32) &&& 31)) + (1 : Int32)))] [(.int ((((u &&& (255 : Int32)) <<< ((0 : Int32) &&& 31)) ||| ((x &&& (255 : Int32)) <<< ((8 : Int32) &&& 31))).toUInt32.toUInt16.toUInt32.toInt32))]) _
    exact retN X19 hx (t := .char) Bd.returns (by simp) (hb hby d31_59) hr
  · show Q31 Z a0 p1 kb nb bs u x h0 n0 _ T19.heap _
    rw [e19]
    exact ⟨rfl, N0, rfl⟩
def own_gc (u x : Int32) : Int32 := (nar .char ((((u &&& (255 : Int32)) <<< ((0 : Int32) &&& 31)) ||| ((x &&& (255 : Int32)) <<< ((8 : Int32) &&& 31))).toUInt32.toUInt16.toUInt32.toInt32))
theorem ef_32 (m : MethodId) (a0 : Addr) (p1 : Int32) : entryFrame m #[(.ref a0), (.int p1)] 2 = mkF m 0 #[.val (.ref a0), .val (.int p1)] [] := by first | (simp [entryFrame, mkF, argsToLocals, Value.category]; done) | rfl
theorem d32_0 : decode jdk_52_method_83_code 0 = .ok (.iload_n 1, 1) := by decide +kernel
theorem d32_1 : decode jdk_52_method_83_code 1 = .ok (.aload_n 0, 1) := by decide +kernel
theorem pd_15 : parseMethodDescriptor "(I[B)V" = some ⟨[.int, (.array .byte)], none⟩ := by decide +kernel
theorem d32_2 : decode jdk_52_method_83_code 2 = .ok (.invokestatic 67, 3) := by decide +kernel
theorem d32_5 : decode jdk_52_method_83_code 5 = .ok (.aload_n 0, 1) := by decide +kernel
theorem d32_6 : decode jdk_52_method_83_code 6 = .ok (.iload_n 1, 1) := by decide +kernel
theorem pd_19 : parseMethodDescriptor "([BI)C" = some ⟨[(.array .byte), .int], some .char⟩ := by decide +kernel
theorem d32_7 : decode jdk_52_method_83_code 7 = .ok (.invokestatic 71, 3) := by decide +kernel
theorem d32_10 : decode jdk_52_method_83_code 10 = .ok (.ireturn, 1) := by decide +kernel
def Q32 (Z : State) (a0 : Addr) (p1 : Int32) (kb : ClassId) (nb : Int32) (bs : List Value) (u : Int32) (x : Int32) (gf : Value) (h0 : Heap) (n0 : Nat) (v : Option Value) (h : Heap) (L : List Loc) : Prop := v = some (.int (nar .char (own_gc u x))) ∧ Fr n0 L ∧ h = h0
set_option maxRecDepth 65536 in
set_option maxHeartbeats 40000000 in
theorem rm32 (l : Launch) (Z : State) (ag : Array Value) (hw : ∀ d ∈ tables_1, d.before ag Z = true) (ws : List Jvm.Cond) (a0 : Addr) (p1 : Int32) (kb : ClassId) (nb : Int32) (bs : List Value) (u : Int32) (x : Int32) (gf : Value) (h0 : Heap) (n0 : Nat) (Z0 : n0 ≤ h0.size) (V_a0 : Arv Z h0 a0 kb .byte nb bs (.int (0 : Int32))) (h1 : ¬ p1 < (0 : Int32)) (h2 : p1 < (nb >>> ((1 : Int32) &&& 31))) (hj : ¬ (p1 <<< ((1 : Int32) &&& 31)) < 0 ∧ (p1 <<< ((1 : Int32) &&& 31)) < nb) (hj1 : ¬ ((p1 <<< ((1 : Int32) &&& 31)) + (1 : Int32)) < 0 ∧ ((p1 <<< ((1 : Int32) &&& 31)) + (1 : Int32)) < nb) (hu : bs.getD ((p1 <<< ((1 : Int32) &&& 31))).toNatClampNeg (.int (0 : Int32)) = .int u) (hx_ : bs.getD (((p1 <<< ((1 : Int32) &&& 31)) + (1 : Int32))).toNatClampNeg (.int (0 : Int32)) = .int x) (O_ : Old Z n0 h0) (S_gf : Sta Z Z.heap "jdk/internal/util/Preconditions" "SIOOBE_FORMATTER" "Ljava/util/function/BiFunction;" gf) (rv_gf : gf.isRef = true) (S_ad : Sta Z Z.heap "java/lang/StringUTF16" "$assertionsDisabled" "Z" (.int (1 : Int32))) (S_hi : Sta Z Z.heap "java/lang/StringUTF16" "HI_BYTE_SHIFT" "I" (.int (0 : Int32))) (S_lo : Sta Z Z.heap "java/lang/StringUTF16" "LO_BYTE_SHIFT" "I" (.int (8 : Int32))) :
    MetFree l (⟨"java/lang/StringUTF16", "charAt", "([BI)C"⟩ : MethodName) (head1 (Jvm.Cond.code (⟨"java/lang/StringUTF16", "charAt", "([BI)C"⟩ : MethodName) jdk_52_method_83_code 2 (some .char) :: ws) ({ frames := 3, cells := 0, slots := 0, locals := 40 } : Room)) (fun a U => a = #[(.ref a0), (.int p1)] ∧ Z.Warmed39 U.vm ∧ U.heap = h0) (fun _ _ _ _ _ => True) (fun _ U o U' => ∃ v L, o = .returned v ∧ Q32 Z a0 p1 kb nb bs u x gf h0 n0 v U'.heap L ∧ FrameEnd U o U' L ({ frames := 3, cells := 0, slots := 0, locals := 40 } : Room).cells ({ frames := 3, cells := 0, slots := 0, locals := 40 } : Room).slots) := by
  refine MetFree.of_bodySF (plainFor_of_name pn_6) hisR ?_
  intro p e s m args below meth c s₁ Bd hml0 hP hK
  obtain ⟨rfl, hZ, hh⟩ := hP
  have hx := Bd.exec
  have hby := Bd.bytes
  have hml : c.maxLocals = 2 := hml0
  have hown : s.vm.findClass "java/lang/StringUTF16" = some m.cls := findClass_of_methodNamed Bd.named
  have hnm := (name_of_methodNamed Bd.named Bd.method).1
  have X0 : Stand p l e ({ frames := 3, cells := 0, slots := 0, locals := 40 } : Room) s m #[(.ref a0), (.int p1)] below meth c s₁ [] 0 0 := Stand.of_body Bd
  have e0 : s₁.heap = h0 := by rw [← hh, Bd.state]; rfl
  have N0 := Fr.nil n0
  have pre0 : ∀ t, Steps p.tables e below (s₁.setTop (mkF m 0 #[.val (.ref a0), .val (.int p1)] [])) t → Steps p.tables e below (s₁.setTop (entryFrame m #[(.ref a0), (.int p1)] 2)) t := fun t k => castTop (ef_32 m a0 p1) k
  obtain ⟨_, _, ⟨T20, L20, k20, n20⟩, -, X20, ⟨Lc20, hQ20, l20, y20, z20⟩, st20⟩ := Jvm.LawKit.callS X0 hx (y := (⟨"java/lang/StringUTF16", "checkIndex", "(I[B)V"⟩ : MethodName)) hown (mvT hZ (own_wk hw 139 rfl)) (mvT hZ (own_wk hw 140 rfl)) (mvT hZ (own_wk hw 77 rfl)) (mvT hZ (own_wk hw 141 rfl)) (by decide) (backOf (W := 0) (rm33 l Z ag hw [] p1 a0 kb nb bs gf h0 n0 Z0 V_a0 h1 h2 O_ S_gf rv_gf) hZ (own_wk hw 141 rfl) (own_wk hw 77 rfl) (by decide) (by decide)) (g := (mkF m 2 #[.val (.ref a0), .val (.int p1)] [(.ref a0), (.int p1)])) rfl (by rw [hml]; rfl) (argsL := [(.int p1), (.ref a0)]) (rest := []) (lenOf pd_15 rfl) rfl (by show 2 * 0 + _ ≤ _; exact Nat.le_of_eq rfl) (hb hby d32_2) (fun _ _ => ⟨rfl, e0, (by decide : 0 + 0 ≤ _), (by decide : 0 + 0 ≤ _)⟩)
  dsimp only [Pt.U, Pt.locs, Pt.cells, Pt.slots] at X20 l20 y20 z20 st20 hQ20
  subst l20 y20 z20
  obtain ⟨rfl, N20q, e20⟩ := hQ20
  have N20 := Fr.app N0 N20q
  obtain ⟨_, _, ⟨T21, L21, k21, n21⟩, -, X21, ⟨Lc21, hQ21, l21, y21, z21⟩, st21⟩ := Jvm.LawKit.callS X20 hx (y := (⟨"java/lang/StringUTF16", "getChar", "([BI)C"⟩ : MethodName)) hown (mvT hZ (own_wk hw 133 rfl)) (mvT hZ (own_wk hw 134 rfl)) (mvT hZ (own_wk hw 77 rfl)) (mvT hZ (own_wk hw 135 rfl)) (by decide) (backOf (W := 0) (rm31 l Z ag hw [] a0 p1 kb nb bs u x h0 n0 Z0 V_a0 hj hj1 hu hx_ O_ S_ad S_hi S_lo) hZ (own_wk hw 135 rfl) (own_wk hw 77 rfl) (by decide) (by decide)) (g := (mkF m 7 #[.val (.ref a0), .val (.int p1)] [(.int p1), (.ref a0)])) rfl (by rw [hml]; rfl) (argsL := [(.ref a0), (.int p1)]) (rest := []) (lenOf pd_19 rfl) rfl (by show 2 * 0 + _ ≤ _; exact Nat.le_of_eq rfl) (hb hby d32_7) (fun _ _ => ⟨rfl, e20, (by decide : 0 + 0 ≤ _), (by decide : 0 + 0 ≤ _)⟩)
  dsimp only [Pt.U, Pt.locs, Pt.cells, Pt.slots] at X21 l21 y21 z21 st21 hQ21
  subst l21 y21 z21
  obtain ⟨rfl, N21q, e21⟩ := hQ21
  have N21 := Fr.app N20 N21q
  obtain ⟨fs, hr, hrun, hended, hW, hsame⟩ := X21.leave (v := some (.int (nar .char (own_gc u x)))) (fun h => by rw [Bd.returns] at h; cases h)
  refine ⟨_, _, pre0 _ ?_, hrun, hended, _, _, rfl, ?_, ⟨_, rfl⟩, hW, hsame.mono (by decide) (by decide)⟩
  · show own_S p e below s₁ (mkF m 0 #[.val (.ref a0), .val (.int p1)] []) _
    refine XS.iloadN X0.here hx rfl (hb hby d32_0) rfl ?_
    refine XS.aloadN X0.here hx rfl (hb hby d32_1) rfl rfl ?_
    show own_S p e below s₁ (mkF m 2 #[.val (.ref a0), .val (.int p1)] [(.ref a0), (.int p1)]) _
    refine st20 _ ?_
    show own_S p e below T20 (mkF m 5 #[.val (.ref a0), .val (.int p1)] []) _
    refine XS.aloadN X20.here hx rfl (hb hby d32_5) rfl rfl ?_
    refine XS.iloadN X20.here hx rfl (hb hby d32_6) rfl ?_
    show own_S p e below T20 (mkF m 7 #[.val (.ref a0), .val (.int p1)] [(.int p1), (.ref a0)]) _
    refine st21 _ ?_
    show own_S p e below T21 (mkF m 10 #[.val (.ref a0), .val (.int p1)] [(.int (own_gc u x))]) _
    exact retN X21 hx (t := .char) Bd.returns (by simp) (hb hby d32_10) hr
  · show Q32 Z a0 p1 kb nb bs u x gf h0 n0 _ T21.heap _
    rw [e21]
    exact ⟨rfl, N21, rfl⟩
def own_lc (u : Int32) : Int32 := (nar .char (nar .char ((u &&& (255 : Int32)).toUInt32.toUInt16.toUInt32.toInt32)))
def own_uc (u x : Int32) : Int32 := (nar .char (nar .char (own_gc u x)))
theorem own_char (a : Int32) (h0 : 0 ≤ a.toInt) (h1 : a.toInt < 65536) : a.toUInt32.toUInt16.toUInt32.toInt32 = a := by
  apply Int32.toBitVec_inj.mp; apply BitVec.eq_of_toNat_eq
  have e : a.toBitVec.toInt = a.toInt := rfl
  rw [← e, BitVec.toInt_eq_toNat_cond] at h0 h1
  show a.toUInt32.toUInt16.toUInt32.toNat = a.toBitVec.toNat
  rw [UInt16.toNat_toUInt32, UInt32.toNat_toUInt16]
  show a.toBitVec.toNat % 2 ^ 16 = _
  split at h0 <;> split at h1 <;> omega
theorem own_nar (a : Int32) (h0 : 0 ≤ a.toInt) (h1 : a.toInt < 65536) : nar .char a = a := own_char a h0 h1
/-- the low byte of x, as a byte and back -/
theorem own_by (x : Int32) : ((nar .byte (x.toInt8.toInt32)) &&& (255 : Int32)).toInt = x.toInt % 256 := by
  have a := (c_i2b x).1
  have b := (c_i2b (x.toInt8.toInt32)).1
  have m := c_mask ((x.toInt8.toInt32).toInt8.toInt32) 255 8 (by decide) (by decide)
  show (((x.toInt8.toInt32).toInt8.toInt32) &&& (255 : Int32)).toInt = x.toInt % 256
  omega
theorem own_gc_back (c : Int32) (h : 0 ≤ c.toInt ∧ c.toInt < 65536) : own_gc (nar .byte ((c >>> ((0 : Int32) &&& 31)).toInt8.toInt32)) (nar .byte ((c >>> ((8 : Int32) &&& 31)).toInt8.toInt32)) = c := by
  have s0 := c_ishr c 0 0 (by decide); have s8 := c_ishr c 8 8 (by decide)
  have b0 := own_by (c >>> ((0 : Int32) &&& 31)); have b8 := own_by (c >>> ((8 : Int32) &&& 31))
  unfold own_gc
  generalize hA : ((nar .byte ((c >>> ((0 : Int32) &&& 31)).toInt8.toInt32)) &&& (255 : Int32)) = A at *
  generalize hB : ((nar .byte ((c >>> ((8 : Int32) &&& 31)).toInt8.toInt32)) &&& (255 : Int32)) = B at *
  have t0 := c_ishl A 0 0 (by decide); have r0 := rng32 (A <<< ((0 : Int32) &&& 31))
  have t8 := c_ishl B 8 8 (by decide); have r8 := rng32 (B <<< ((8 : Int32) &&& 31))
  have u0 : (A <<< ((0 : Int32) &&& 31)).toInt = A.toInt := by omega
  have u8 : (B <<< ((8 : Int32) &&& 31)).toInt = B.toInt * 256 := by omega
  have o := c_or (B <<< ((8 : Int32) &&& 31)) (A <<< ((0 : Int32) &&& 31)) 8 (by decide) 256 (by decide) (by omega) (by omega) (by omega)
  have r := rng32 ((B <<< ((8 : Int32) &&& 31)) ||| (A <<< ((0 : Int32) &&& 31)))
  have e : ((A <<< ((0 : Int32) &&& 31)) ||| (B <<< ((8 : Int32) &&& 31))) = c := by
    rw [Int32.or_comm]; exact Int32.toInt_inj.mp (by omega)
  rw [e, own_char c h.1 h.2, own_nar c h.1 h.2]
theorem own_uc_back (c : Int32) (h : 0 ≤ c.toInt ∧ c.toInt < 65536) : own_uc (nar .byte ((c >>> ((0 : Int32) &&& 31)).toInt8.toInt32)) (nar .byte ((c >>> ((8 : Int32) &&& 31)).toInt8.toInt32)) = c := by
  unfold own_uc; rw [own_gc_back c h, own_nar c h.1 h.2, own_nar c h.1 h.2]
theorem own_lc_back (c : Int32) (h : 0 ≤ c.toInt ∧ c.toInt < 65536) (k : ¬ (255 : Int32) < c) : own_lc (nar .byte (c.toInt8.toInt32)) = c := by
  have b := own_by c
  rw [Int32.lt_iff_toInt_lt, show (255 : Int32).toInt = 255 from rfl] at k
  have e : ((nar .byte (c.toInt8.toInt32)) &&& (255 : Int32)) = c := Int32.toInt_inj.mp (by omega)
  unfold own_lc; rw [e, own_char c h.1 h.2, own_nar c h.1 h.2, own_nar c h.1 h.2]
theorem own_four (p : Int32) (n : Nat) (h4 : n ≤ 4) (h1 : ¬ p < 0) (h2 : p.toNatClampNeg < n) : (p = 0 ∧ 0 < n) ∨ (p = 1 ∧ 1 < n) ∨ (p = 2 ∧ 2 < n) ∨ (p = 3 ∧ 3 < n) := by
  have e := nat_of h1
  simp only [← Int32.toInt_inj, show (0 : Int32).toInt = 0 from rfl, show (1 : Int32).toInt = 1 from rfl, show (2 : Int32).toInt = 2 from rfl, show (3 : Int32).toInt = 3 from rfl]; omega
theorem own_five (n : Nat) (h : n ≤ 4) : n = 0 ∨ n = 1 ∨ n = 2 ∨ n = 3 ∨ n = 4 := by omega
theorem own_ll {p nb : Int32} {n : Nat} (h4 : n ≤ 4) (h1 : ¬ p < 0) (h2 : p.toNatClampNeg < n) (hn : nb = Int32.ofNat n) : p < nb := by
  subst hn
  rcases own_five n h4 with rfl | rfl | rfl | rfl | rfl <;> rcases own_four p _ (by decide) h1 h2 with ⟨rfl, q⟩ | ⟨rfl, q⟩ | ⟨rfl, q⟩ | ⟨rfl, q⟩ <;> first | (exact absurd q (by decide)) | decide
theorem own_ui {p nb : Int32} {n : Nat} (h4 : n ≤ 4) (h1 : ¬ p < 0) (h2 : p.toNatClampNeg < n) (hn : nb = Int32.ofNat (2 * n)) :
    p < (nb >>> ((1 : Int32) &&& 31)) ∧ (¬ (p <<< ((1 : Int32) &&& 31)) < 0 ∧ (p <<< ((1 : Int32) &&& 31)) < nb) ∧ (¬ ((p <<< ((1 : Int32) &&& 31)) + (1 : Int32)) < 0 ∧ ((p <<< ((1 : Int32) &&& 31)) + (1 : Int32)) < nb) ∧ (p <<< ((1 : Int32) &&& 31)).toNatClampNeg = 2 * p.toNatClampNeg ∧ ((p <<< ((1 : Int32) &&& 31)) + (1 : Int32)).toNatClampNeg = 2 * p.toNatClampNeg + 1 := by
  subst hn
  rcases own_five n h4 with rfl | rfl | rfl | rfl | rfl <;> rcases own_four p _ (by decide) h1 h2 with ⟨rfl, q⟩ | ⟨rfl, q⟩ | ⟨rfl, q⟩ | ⟨rfl, q⟩ <;> first | (exact absurd q (by decide)) | decide
theorem own_sl {nb cd : Int32} {n : Nat} (h4 : n ≤ 4) (h : (cd = 0 ∧ nb = Int32.ofNat n) ∨ (cd = 1 ∧ nb = Int32.ofNat (2 * n))) : (nb >>> ((nar .byte cd) &&& 31)) = Int32.ofNat n := by
  rcases h with ⟨rfl, rfl⟩ | ⟨rfl, rfl⟩ <;> rcases own_five n h4 with rfl | rfl | rfl | rfl | rfl <;> decide
def own_lat (vs : List Value) (cs : List Int32) : Prop := ∀ i, i < cs.length → ∃ u : Int32, vs.getD i (.int (0 : Int32)) = .int u ∧ own_lc u = cs.getD i 0
def own_u16 (vs : List Value) (cs : List Int32) : Prop := ∀ i, i < cs.length → ∃ u x : Int32, vs.getD (2 * i) (.int (0 : Int32)) = .int u ∧ vs.getD (2 * i + 1) (.int (0 : Int32)) = .int x ∧ own_uc u x = cs.getD i 0
/-- what the String at r spells: these chars, four at the most -/
def own_str (Z : State) (h : Heap) (r : Addr) (cs : List Int32) : Prop :=
  Exa Z h r "java/lang/String" ∧ cs.length ≤ 4 ∧ ∃ (b : Addr) (k : ClassId) (nb cd : Int32) (vs : List Value), Fld Z h r "java/lang/String" "value" "[B" (.ref b) ∧ Fld Z h r "java/lang/String" "coder" "B" (.int cd) ∧ Arv Z h b k .byte nb vs (.int (0 : Int32)) ∧
    ((cd = 0 ∧ nb = Int32.ofNat cs.length ∧ own_lat vs cs) ∨ (cd = 1 ∧ nb = Int32.ofNat (2 * cs.length) ∧ own_u16 vs cs))
theorem own_str.ext {Z : State} {h h' : Heap} {r : Addr} {cs : List Int32} (S : own_str Z h r cs) (E : Ext h h') : own_str Z h' r cs := by
  obtain ⟨e, l, b, k, nb, cd, vs, f1, f2, v, q⟩ := S; exact ⟨e.ext E, l, b, k, nb, cd, vs, f1.ext E, f2.ext E, v.ext E, q⟩
theorem own_str.keep0 {Z : State} {h h' : Heap} {r : Addr} {cs : List Int32} (S : own_str Z h r cs) (K : Keep h h' []) : own_str Z h' r cs := by
  obtain ⟨e, l, b, k, nb, cd, vs, f1, f2, v, q⟩ := S; exact ⟨e.keep K, l, b, k, nb, cd, vs, f1.keep K nin0, f2.keep K nin0, v.keep K nin0, q⟩
theorem own_str.lt {Z : State} {h : Heap} {r : Addr} {cs : List Int32} (S : own_str Z h r cs) : r < h.size := S.1.lt
theorem own_str_len {nb cd : Int32} {cs : List Int32} {vs : List Value} (h4 : cs.length ≤ 4) (h : (cd = 0 ∧ nb = Int32.ofNat cs.length ∧ own_lat vs cs) ∨ (cd = 1 ∧ nb = Int32.ofNat (2 * cs.length) ∧ own_u16 vs cs)) : (nb >>> ((nar .byte cd) &&& 31)) = Int32.ofNat cs.length :=
  own_sl h4 (h.imp (fun q => ⟨q.1, q.2.1⟩) (fun q => ⟨q.1, q.2.1⟩))
theorem own_lat_lt {p nb : Int32} {cs : List Int32} (h4 : cs.length ≤ 4) (h1 : ¬ p < 0) (h2 : p.toNatClampNeg < cs.length) (hn : nb = Int32.ofNat cs.length) : p < nb := own_ll h4 h1 h2 hn
theorem own_u16_ix {p nb : Int32} {cs : List Int32} (h4 : cs.length ≤ 4) (h1 : ¬ p < 0) (h2 : p.toNatClampNeg < cs.length) (hn : nb = Int32.ofNat (2 * cs.length)) :
    p < (nb >>> ((1 : Int32) &&& 31)) ∧ (¬ (p <<< ((1 : Int32) &&& 31)) < 0 ∧ (p <<< ((1 : Int32) &&& 31)) < nb) ∧ (¬ ((p <<< ((1 : Int32) &&& 31)) + (1 : Int32)) < 0 ∧ ((p <<< ((1 : Int32) &&& 31)) + (1 : Int32)) < nb) ∧ (p <<< ((1 : Int32) &&& 31)).toNatClampNeg = 2 * p.toNatClampNeg ∧ ((p <<< ((1 : Int32) &&& 31)) + (1 : Int32)).toNatClampNeg = 2 * p.toNatClampNeg + 1 := own_ui h4 h1 h2 hn
theorem own_lat_of1 {c0 : Int32} (r0 : 0 ≤ c0.toInt ∧ c0.toInt < 65536) (l0 : ¬ ((255 : Int32) < c0)) : own_lat [(.int (nar .byte (c0.toInt8.toInt32)))] [c0] := fun i hi => by
  match i, hi with
  | 0, _ => exact ⟨_, rfl, own_lc_back c0 r0 l0⟩
  | n + 1, q => exact absurd q (by simp)
theorem own_u16_of1 {c0 : Int32} (r0 : 0 ≤ c0.toInt ∧ c0.toInt < 65536) : own_u16 [(.int (nar .byte ((c0 >>> ((0 : Int32) &&& 31)).toInt8.toInt32))), (.int (nar .byte ((c0 >>> ((8 : Int32) &&& 31)).toInt8.toInt32)))] [c0] := fun i hi => by
  match i, hi with
  | 0, _ => exact ⟨_, _, rfl, rfl, own_uc_back c0 r0⟩
  | n + 1, q => exact absurd q (by simp)
theorem own_lat_of2 {c0 c1 : Int32} (r0 : 0 ≤ c0.toInt ∧ c0.toInt < 65536) (r1 : 0 ≤ c1.toInt ∧ c1.toInt < 65536) (l0 : ¬ ((255 : Int32) < c0)) (l1 : ¬ ((255 : Int32) < c1)) : own_lat [(.int (nar .byte (c0.toInt8.toInt32))), (.int (nar .byte (c1.toInt8.toInt32)))] [c0, c1] := fun i hi => by
  match i, hi with
  | 0, _ => exact ⟨_, rfl, own_lc_back c0 r0 l0⟩
  | 1, _ => exact ⟨_, rfl, own_lc_back c1 r1 l1⟩
  | n + 2, q => exact absurd q (by simp)
theorem own_u16_of2 {c0 c1 : Int32} (r0 : 0 ≤ c0.toInt ∧ c0.toInt < 65536) (r1 : 0 ≤ c1.toInt ∧ c1.toInt < 65536) : own_u16 [(.int (nar .byte ((c0 >>> ((0 : Int32) &&& 31)).toInt8.toInt32))), (.int (nar .byte ((c0 >>> ((8 : Int32) &&& 31)).toInt8.toInt32))), (.int (nar .byte ((c1 >>> ((0 : Int32) &&& 31)).toInt8.toInt32))), (.int (nar .byte ((c1 >>> ((8 : Int32) &&& 31)).toInt8.toInt32)))] [c0, c1] := fun i hi => by
  match i, hi with
  | 0, _ => exact ⟨_, _, rfl, rfl, own_uc_back c0 r0⟩
  | 1, _ => exact ⟨_, _, rfl, rfl, own_uc_back c1 r1⟩
  | n + 2, q => exact absurd q (by simp)
theorem own_lat_of3 {c0 c1 c2 : Int32} (r0 : 0 ≤ c0.toInt ∧ c0.toInt < 65536) (r1 : 0 ≤ c1.toInt ∧ c1.toInt < 65536) (r2 : 0 ≤ c2.toInt ∧ c2.toInt < 65536) (l0 : ¬ ((255 : Int32) < c0)) (l1 : ¬ ((255 : Int32) < c1)) (l2 : ¬ ((255 : Int32) < c2)) : own_lat [(.int (nar .byte (c0.toInt8.toInt32))), (.int (nar .byte (c1.toInt8.toInt32))), (.int (nar .byte (c2.toInt8.toInt32)))] [c0, c1, c2] := fun i hi => by
  match i, hi with
  | 0, _ => exact ⟨_, rfl, own_lc_back c0 r0 l0⟩
  | 1, _ => exact ⟨_, rfl, own_lc_back c1 r1 l1⟩
  | 2, _ => exact ⟨_, rfl, own_lc_back c2 r2 l2⟩
  | n + 3, q => exact absurd q (by simp)
theorem own_u16_of3 {c0 c1 c2 : Int32} (r0 : 0 ≤ c0.toInt ∧ c0.toInt < 65536) (r1 : 0 ≤ c1.toInt ∧ c1.toInt < 65536) (r2 : 0 ≤ c2.toInt ∧ c2.toInt < 65536) : own_u16 [(.int (nar .byte ((c0 >>> ((0 : Int32) &&& 31)).toInt8.toInt32))), (.int (nar .byte ((c0 >>> ((8 : Int32) &&& 31)).toInt8.toInt32))), (.int (nar .byte ((c1 >>> ((0 : Int32) &&& 31)).toInt8.toInt32))), (.int (nar .byte ((c1 >>> ((8 : Int32) &&& 31)).toInt8.toInt32))), (.int (nar .byte ((c2 >>> ((0 : Int32) &&& 31)).toInt8.toInt32))), (.int (nar .byte ((c2 >>> ((8 : Int32) &&& 31)).toInt8.toInt32)))] [c0, c1, c2] := fun i hi => by
  match i, hi with
  | 0, _ => exact ⟨_, _, rfl, rfl, own_uc_back c0 r0⟩
  | 1, _ => exact ⟨_, _, rfl, rfl, own_uc_back c1 r1⟩
  | 2, _ => exact ⟨_, _, rfl, rfl, own_uc_back c2 r2⟩
  | n + 3, q => exact absurd q (by simp)
theorem own_lat_of4 {c0 c1 c2 c3 : Int32} (r0 : 0 ≤ c0.toInt ∧ c0.toInt < 65536) (r1 : 0 ≤ c1.toInt ∧ c1.toInt < 65536) (r2 : 0 ≤ c2.toInt ∧ c2.toInt < 65536) (r3 : 0 ≤ c3.toInt ∧ c3.toInt < 65536) (l0 : ¬ ((255 : Int32) < c0)) (l1 : ¬ ((255 : Int32) < c1)) (l2 : ¬ ((255 : Int32) < c2)) (l3 : ¬ ((255 : Int32) < c3)) : own_lat [(.int (nar .byte (c0.toInt8.toInt32))), (.int (nar .byte (c1.toInt8.toInt32))), (.int (nar .byte (c2.toInt8.toInt32))), (.int (nar .byte (c3.toInt8.toInt32)))] [c0, c1, c2, c3] := fun i hi => by
  match i, hi with
  | 0, _ => exact ⟨_, rfl, own_lc_back c0 r0 l0⟩
  | 1, _ => exact ⟨_, rfl, own_lc_back c1 r1 l1⟩
  | 2, _ => exact ⟨_, rfl, own_lc_back c2 r2 l2⟩
  | 3, _ => exact ⟨_, rfl, own_lc_back c3 r3 l3⟩
  | n + 4, q => exact absurd q (by simp)
theorem own_u16_of4 {c0 c1 c2 c3 : Int32} (r0 : 0 ≤ c0.toInt ∧ c0.toInt < 65536) (r1 : 0 ≤ c1.toInt ∧ c1.toInt < 65536) (r2 : 0 ≤ c2.toInt ∧ c2.toInt < 65536) (r3 : 0 ≤ c3.toInt ∧ c3.toInt < 65536) : own_u16 [(.int (nar .byte ((c0 >>> ((0 : Int32) &&& 31)).toInt8.toInt32))), (.int (nar .byte ((c0 >>> ((8 : Int32) &&& 31)).toInt8.toInt32))), (.int (nar .byte ((c1 >>> ((0 : Int32) &&& 31)).toInt8.toInt32))), (.int (nar .byte ((c1 >>> ((8 : Int32) &&& 31)).toInt8.toInt32))), (.int (nar .byte ((c2 >>> ((0 : Int32) &&& 31)).toInt8.toInt32))), (.int (nar .byte ((c2 >>> ((8 : Int32) &&& 31)).toInt8.toInt32))), (.int (nar .byte ((c3 >>> ((0 : Int32) &&& 31)).toInt8.toInt32))), (.int (nar .byte ((c3 >>> ((8 : Int32) &&& 31)).toInt8.toInt32)))] [c0, c1, c2, c3] := fun i hi => by
  match i, hi with
  | 0, _ => exact ⟨_, _, rfl, rfl, own_uc_back c0 r0⟩
  | 1, _ => exact ⟨_, _, rfl, rfl, own_uc_back c1 r1⟩
  | 2, _ => exact ⟨_, _, rfl, rfl, own_uc_back c2 r2⟩
  | 3, _ => exact ⟨_, _, rfl, rfl, own_uc_back c3 r3⟩
  | n + 4, q => exact absurd q (by simp)
theorem ef_12 (m : MethodId) (a0 : Addr) : entryFrame m #[(.ref a0)] 1 = mkF m 0 #[.val (.ref a0)] [] := by first | (simp [entryFrame, mkF, argsToLocals, Value.category]; done) | rfl
theorem d12_0 : decode jdk_42_method_54_code 0 = .ok (.aload_n 0, 1) := by decide +kernel
theorem d12_1 : decode jdk_42_method_54_code 1 = .ok (.getfield 9, 3) := by decide +kernel
theorem d12_4 : decode jdk_42_method_54_code 4 = .ok (.arraylength, 1) := by decide +kernel
theorem d12_5 : decode jdk_42_method_54_code 5 = .ok (.aload_n 0, 1) := by decide +kernel
theorem pd_0 : parseMethodDescriptor "()B" = some ⟨[], some .byte⟩ := by decide +kernel
theorem d12_6 : decode jdk_42_method_54_code 6 = .ok (.invokevirtual 335, 3) := by decide +kernel
theorem d12_9 : decode jdk_42_method_54_code 9 = .ok (.ishr, 1) := by decide +kernel
theorem d12_10 : decode jdk_42_method_54_code 10 = .ok (.ireturn, 1) := by decide +kernel
def Q12 (Z : State) (a0 : Addr) (b : Addr) (kb : ClassId) (nb : Int32) (bs : List Value) (cd : Int32) (res : Int32) (cs : Int32) (h0 : Heap) (n0 : Nat) (v : Option Value) (h : Heap) (L : List Loc) : Prop := v = some (.int res) ∧ Fr n0 L ∧ h = h0
set_option maxRecDepth 65536 in
set_option maxHeartbeats 40000000 in
theorem rm12_g (l : Launch) (Z : State) (ag : Array Value) (hw : ∀ d ∈ tables_1, d.before ag Z = true) (ws : List Jvm.Cond) (a0 : Addr) (b : Addr) (kb : ClassId) (nb : Int32) (bs : List Value) (cd : Int32) (res : Int32) (cs : Int32) (h0 : Heap) (n0 : Nat) (Z0 : n0 ≤ h0.size) (E_a0 : Exa Z h0 a0 "java/lang/String") (F_value_a0 : Fld Z h0 a0 "java/lang/String" "value" "[B" (.ref b)) (F_coder_a0 : Fld Z h0 a0 "java/lang/String" "coder" "B" (.int cd)) (V_b : Arv Z h0 b kb .byte nb bs (.int (0 : Int32))) (hres : (nb >>> ((nar .byte cd) &&& 31)) = res) (O_ : Old Z n0 h0) (S_cs : Sta Z Z.heap "java/lang/String" "COMPACT_STRINGS" "Z" (.int cs)) (hcs : ¬ cs = (0 : Int32)) :
    MetFree l (⟨"java/lang/String", "length", "()I"⟩ : MethodName) (head1 (Jvm.Cond.code (⟨"java/lang/String", "length", "()I"⟩ : MethodName) jdk_42_method_54_code 1 (some .int) :: ws) ({ frames := 1, cells := 0, slots := 0, locals := 13 } : Room)) (fun a U => a = #[(.ref a0)] ∧ Z.Warmed39 U.vm ∧ U.heap = h0) (fun _ _ _ _ _ => True) (fun _ U o U' => ∃ v L, o = .returned v ∧ Q12 Z a0 b kb nb bs cd res cs h0 n0 v U'.heap L ∧ FrameEnd U o U' L ({ frames := 1, cells := 0, slots := 0, locals := 13 } : Room).cells ({ frames := 1, cells := 0, slots := 0, locals := 13 } : Room).slots) := by
  refine MetFree.of_bodySF (plainFor_of_name pn_4) hisR ?_
  intro p e s m args below meth c s₁ Bd hml0 hP hK
  obtain ⟨rfl, hZ, hh⟩ := hP
  have hx := Bd.exec
  have hby := Bd.bytes
  have hml : c.maxLocals = 1 := hml0
  have hown : s.vm.findClass "java/lang/String" = some m.cls := findClass_of_methodNamed Bd.named
  have hnm := (name_of_methodNamed Bd.named Bd.method).1
  have X0 : Stand p l e ({ frames := 1, cells := 0, slots := 0, locals := 13 } : Room) s m #[(.ref a0)] below meth c s₁ [] 0 0 := Stand.of_body Bd
  have e0 : s₁.heap = h0 := by rw [← hh, Bd.state]; rfl
  have N0 := Fr.nil n0
  have pre0 : ∀ t, Steps p.tables e below (s₁.setTop (mkF m 0 #[.val (.ref a0)] [])) t → Steps p.tables e below (s₁.setTop (entryFrame m #[(.ref a0)] 1)) t := fun t k => castTop (ef_12 m a0) k
  obtain ⟨T22, X22, e22, st22⟩ := getF X0 hx hZ hown (host := "") (Or.inl (own_wk hw 24 rfl)) Via.refl e0 F_value_a0 (g := (mkF m 1 #[.val (.ref a0)] [(.ref a0)])) rfl rfl (hb hby d12_1)
  obtain ⟨cl23, Ar23, -, S23, M23, -, -⟩ := id V_b
  have ld23 := X22.arraylength hx (by rw [e22]; exact Ar23.1) (State.isArrayOf_alike hZ.alike Ar23.2.1) (g := (mkF m 4 #[.val (.ref a0)] [(.ref b)])) rfl rfl (hb hby d12_4)
  obtain ⟨cq24, kq24, q24a, q24b, q24c⟩ := isOf hZ e22 E_a0
  obtain ⟨_, _, ⟨T24, L24, k24, n24⟩, -, X24, ⟨Lc24, hQ24, l24, y24, z24⟩, st24⟩ := X22.virtualBack hx (y := (⟨"java/lang/String", "coder", "()B"⟩ : MethodName)) (z := (⟨"java/lang/String", "coder", "()B"⟩ : MethodName)) hown (mvT hZ (own_wk hw 62 rfl)) (mvT hZ (own_wk hw 63 rfl)) (notFace_of_selects (args := #[]) (mvT hZ (own_wk hw 65 rfl))) (mvT hZ (own_wk hw 65 rfl)) (mvT hZ (own_wk hw 64 rfl)) (by decide) (backOf (W := 1) (rm13 l Z ag hw [] a0 cd cs h0 n0 Z0 F_coder_a0 O_ S_cs hcs) hZ (own_wk hw 66 rfl) (own_wk hw 5 rfl) (by decide) (by decide)) q24a q24c (g := (mkF m 6 #[.val (.ref a0)] [(.ref a0), (.int nb)])) rfl (by rw [hml]; rfl) (Steps.refl _) (argsL := []) (rest := [(.int nb)]) (lenOf pd_0 rfl) rfl (by show 2 * 0 + _ ≤ _; exact Nat.le_of_eq rfl) (hb hby d12_6) (fun _ _ => ⟨rfl, e22, (by decide : 0 + 0 ≤ _), (by decide : 0 + 0 ≤ _)⟩)
  dsimp only [Pt.U, Pt.locs, Pt.cells, Pt.slots] at X24 l24 y24 z24 st24 hQ24
  subst l24 y24 z24
  obtain ⟨rfl, N24q, e24⟩ := hQ24
  have N24 := Fr.app N0 N24q
  obtain ⟨fs, hr, hrun, hended, hW, hsame⟩ := X24.leave (v := some (.int (nb >>> ((nar .byte cd) &&& 31)))) (fun h => by rw [Bd.returns] at h; cases h)
  refine ⟨_, _, pre0 _ ?_, hrun, hended, _, _, rfl, ?_, ⟨_, rfl⟩, hW, hsame.mono (by decide) (by decide)⟩
  · show own_S p e below s₁ (mkF m 0 #[.val (.ref a0)] []) _
    refine XS.aloadN X0.here hx rfl (hb hby d12_0) rfl rfl ?_
    show own_S p e below s₁ (mkF m 1 #[.val (.ref a0)] [(.ref a0)]) _
    refine st22 _ ?_
    show own_S p e below T22 (mkF m 4 #[.val (.ref a0)] [(.ref b)]) _
    refine ld23 _ ?_
    rw [len_of S23 M23]
    show own_S p e below T22 (mkF m 5 #[.val (.ref a0)] [(.int nb)]) _
    refine XS.aloadN X22.here hx rfl (hb hby d12_5) rfl rfl ?_
    show own_S p e below T22 (mkF m 6 #[.val (.ref a0)] [(.ref a0), (.int nb)]) _
    refine st24.trans ?_
    show own_S p e below T24 (mkF m 9 #[.val (.ref a0)] [(.int (nar .byte cd)), (.int nb)]) _
    refine XS.ishr X24.here hx rfl (hb hby d12_9) rfl ?_
    show own_S p e below T24 (mkF m 10 #[.val (.ref a0)] [(.int (nb >>> ((nar .byte cd) &&& 31)))]) _
    exact retI X24 hx Bd.returns (hb hby d12_10) hr
  · show Q12 Z a0 b kb nb bs cd res cs h0 n0 _ T24.heap _
    rw [e24]
    exact ⟨congrArg (fun z => some (Value.int z)) hres, N24, rfl⟩
theorem rm12 (l : Launch) (Z : State) (a0_ : Array Value) (hw : ∀ d ∈ tables_1, d.before a0_ Z = true) (ws : List Jvm.Cond) (a0 : Addr) (ds : List Int32) (cs : Int32) (h0 : Heap) (n0 : Nat) (Z0 : n0 ≤ h0.size) (S : own_str Z h0 a0 ds) (O_ : Old Z n0 h0) (S_cs : Sta Z Z.heap "java/lang/String" "COMPACT_STRINGS" "Z" (.int cs)) (hcs : ¬ cs = (0 : Int32)) :
    MetFree l (⟨"java/lang/String", "length", "()I"⟩ : MethodName) (head1 (Jvm.Cond.code (⟨"java/lang/String", "length", "()I"⟩ : MethodName) jdk_42_method_54_code 1 (some .int) :: ws) ({ frames := 1, cells := 0, slots := 0, locals := 13 } : Room)) (fun a U => a = #[(.ref a0)] ∧ Z.Warmed39 U.vm ∧ U.heap = h0) (fun _ _ _ _ _ => True) (fun _ U o U' => ∃ v L, o = .returned v ∧ own_Qi (Int32.ofNat ds.length) h0 n0 v U'.heap L ∧ FrameEnd U o U' L ({ frames := 1, cells := 0, slots := 0, locals := 13 } : Room).cells ({ frames := 1, cells := 0, slots := 0, locals := 13 } : Room).slots) := by
  obtain ⟨E, hl4, b, k, nb, cd, vs, Fv, Fc, V, hor⟩ := S
  exact rm12_g l Z a0_ hw ws a0 b k nb vs cd _ cs h0 n0 Z0 E Fv Fc V (own_str_len hl4 hor) O_ S_cs hcs
theorem ef_2 (m : MethodId) (a0 : Addr) (p1 : Int32) : entryFrame m #[(.ref a0), (.int p1)] 2 = mkF m 0 #[.val (.ref a0), .val (.int p1)] [] := by first | (simp [entryFrame, mkF, argsToLocals, Value.category]; done) | rfl
theorem d2_0 : decode jdk_42_method_56_code 0 = .ok (.aload_n 0, 1) := by decide +kernel
theorem pd_3 : parseMethodDescriptor "()Z" = some ⟨[], some .boolean⟩ := by decide +kernel
theorem d2_1 : decode jdk_42_method_56_code 1 = .ok (.invokevirtual 492, 3) := by decide +kernel
theorem d2_4 : decode jdk_42_method_56_code 4 = .ok (.ifCond .eq 12, 3) := by decide +kernel
theorem d2_7 : decode jdk_42_method_56_code 7 = .ok (.aload_n 0, 1) := by decide +kernel
theorem d2_8 : decode jdk_42_method_56_code 8 = .ok (.getfield 9, 3) := by decide +kernel
theorem d2_11 : decode jdk_42_method_56_code 11 = .ok (.iload_n 1, 1) := by decide +kernel
theorem d2_12 : decode jdk_42_method_56_code 12 = .ok (.invokestatic 495, 3) := by decide +kernel
theorem d2_15 : decode jdk_42_method_56_code 15 = .ok (.ireturn, 1) := by decide +kernel
def Q2_0 (Z : State) (a0 : Addr) (p1 : Int32) (b : Addr) (kb : ClassId) (nb : Int32) (bs : List Value) (u : Int32) (res : Int32) (cs : Int32) (gf : Value) (h0 : Heap) (n0 : Nat) (v : Option Value) (h : Heap) (L : List Loc) : Prop := v = some (.int res) ∧ Fr n0 L ∧ h = h0
set_option maxRecDepth 65536 in
set_option maxHeartbeats 40000000 in
theorem rm2_0 (l : Launch) (Z : State) (ag : Array Value) (hw : ∀ d ∈ tables_1, d.before ag Z = true) (ws : List Jvm.Cond) (a0 : Addr) (p1 : Int32) (b : Addr) (kb : ClassId) (nb : Int32) (bs : List Value) (u : Int32) (res : Int32) (cs : Int32) (gf : Value) (h0 : Heap) (n0 : Nat) (Z0 : n0 ≤ h0.size) (E_a0 : Exa Z h0 a0 "java/lang/String") (F_value_a0 : Fld Z h0 a0 "java/lang/String" "value" "[B" (.ref b)) (F_coder_a0 : Fld Z h0 a0 "java/lang/String" "coder" "B" (.int (0 : Int32))) (V_b : Arv Z h0 b kb .byte nb bs (.int (0 : Int32))) (h1 : ¬ p1 < (0 : Int32)) (h2 : p1 < nb) (hu : bs.getD (p1).toNatClampNeg (.int (0 : Int32)) = .int u) (hres : own_lc u = res) (O_ : Old Z n0 h0) (S_cs : Sta Z Z.heap "java/lang/String" "COMPACT_STRINGS" "Z" (.int cs)) (hcs : ¬ cs = (0 : Int32)) (S_gf : Sta Z Z.heap "jdk/internal/util/Preconditions" "SIOOBE_FORMATTER" "Ljava/util/function/BiFunction;" gf) (rv_gf : gf.isRef = true) (S_ad : Sta Z Z.heap "java/lang/StringUTF16" "$assertionsDisabled" "Z" (.int (1 : Int32))) (S_hi : Sta Z Z.heap "java/lang/StringUTF16" "HI_BYTE_SHIFT" "I" (.int (0 : Int32))) (S_lo : Sta Z Z.heap "java/lang/StringUTF16" "LO_BYTE_SHIFT" "I" (.int (8 : Int32))) :
    MetFree l (⟨"java/lang/String", "charAt", "(I)C"⟩ : MethodName) (head1 (Jvm.Cond.code (⟨"java/lang/String", "charAt", "(I)C"⟩ : MethodName) jdk_42_method_56_code 2 (some .char) :: ws) ({ frames := 5, cells := 0, slots := 0, locals := 70 } : Room)) (fun a U => a = #[(.ref a0), (.int p1)] ∧ Z.Warmed39 U.vm ∧ U.heap = h0) (fun _ _ _ _ _ => True) (fun _ U o U' => ∃ v L, o = .returned v ∧ Q2_0 Z a0 p1 b kb nb bs u res cs gf h0 n0 v U'.heap L ∧ FrameEnd U o U' L ({ frames := 5, cells := 0, slots := 0, locals := 70 } : Room).cells ({ frames := 5, cells := 0, slots := 0, locals := 70 } : Room).slots) := by
  refine MetFree.of_bodySF (plainFor_of_name pn_4) hisR ?_
  intro p e s m args below meth c s₁ Bd hml0 hP hK
  obtain ⟨rfl, hZ, hh⟩ := hP
  have hx := Bd.exec
  have hby := Bd.bytes
  have hml : c.maxLocals = 2 := hml0
  have hown : s.vm.findClass "java/lang/String" = some m.cls := findClass_of_methodNamed Bd.named
  have hnm := (name_of_methodNamed Bd.named Bd.method).1
  have X0 : Stand p l e ({ frames := 5, cells := 0, slots := 0, locals := 70 } : Room) s m #[(.ref a0), (.int p1)] below meth c s₁ [] 0 0 := Stand.of_body Bd
  have e0 : s₁.heap = h0 := by rw [← hh, Bd.state]; rfl
  have N0 := Fr.nil n0
  have pre0 : ∀ t, Steps p.tables e below (s₁.setTop (mkF m 0 #[.val (.ref a0), .val (.int p1)] [])) t → Steps p.tables e below (s₁.setTop (entryFrame m #[(.ref a0), (.int p1)] 2)) t := fun t k => castTop (ef_2 m a0 p1) k
  obtain ⟨cq25, kq25, q25a, q25b, q25c⟩ := isOf hZ e0 E_a0
  obtain ⟨_, _, ⟨T25, L25, k25, n25⟩, -, X25, ⟨Lc25, hQ25, l25, y25, z25⟩, st25⟩ := X0.virtualBack hx (y := (⟨"java/lang/String", "isLatin1", "()Z"⟩ : MethodName)) (z := (⟨"java/lang/String", "isLatin1", "()Z"⟩ : MethodName)) hown (mvT hZ (own_wk hw 17 rfl)) (mvT hZ (own_wk hw 18 rfl)) (notFace_of_selects (args := #[]) (mvT hZ (own_wk hw 20 rfl))) (mvT hZ (own_wk hw 20 rfl)) (mvT hZ (own_wk hw 19 rfl)) (by decide) (backOf (W := 0) (rm3_0 l Z ag hw [] a0 cs h0 n0 Z0 F_coder_a0 O_ S_cs hcs) hZ (own_wk hw 21 rfl) (own_wk hw 5 rfl) (by decide) (by decide)) q25a q25c (g := (mkF m 1 #[.val (.ref a0), .val (.int p1)] [(.ref a0)])) rfl (by rw [hml]; rfl) (Steps.refl _) (argsL := []) (rest := []) (lenOf pd_3 rfl) rfl (by show 2 * 0 + _ ≤ _; exact Nat.le_of_eq rfl) (hb hby d2_1) (fun _ _ => ⟨rfl, e0, (by decide : 0 + 0 ≤ _), (by decide : 0 + 0 ≤ _)⟩)
  dsimp only [Pt.U, Pt.locs, Pt.cells, Pt.slots] at X25 l25 y25 z25 st25 hQ25
  subst l25 y25 z25
  obtain ⟨rfl, N25q, e25⟩ := hQ25
  have N25 := Fr.app N0 N25q
  obtain ⟨T26, X26, e26, st26⟩ := getF X25 hx hZ hown (host := "") (Or.inl (own_wk hw 24 rfl)) Via.refl e25 F_value_a0 (g := (mkF m 8 #[.val (.ref a0), .val (.int p1)] [(.ref a0)])) rfl rfl (hb hby d2_8)
  obtain ⟨_, _, ⟨T27, L27, k27, n27⟩, -, X27, ⟨Lc27, hQ27, l27, y27, z27⟩, st27⟩ := Jvm.LawKit.callS X26 hx (y := (⟨"java/lang/StringLatin1", "charAt", "([BI)C"⟩ : MethodName)) hown (mvT hZ (own_wk hw 25 rfl)) (mvT hZ (own_wk hw 26 rfl)) (mvT hZ (own_wk hw 27 rfl)) (mvT hZ (own_wk hw 28 rfl)) (by decide) (backOf (W := 0) (rm4 l Z ag hw [] b p1 kb nb bs u gf h0 n0 Z0 V_b h1 h2 hu O_ S_gf rv_gf) hZ (own_wk hw 28 rfl) (own_wk hw 27 rfl) (by decide) (by decide)) (g := (mkF m 12 #[.val (.ref a0), .val (.int p1)] [(.int p1), (.ref b)])) rfl (by rw [hml]; rfl) (argsL := [(.ref b), (.int p1)]) (rest := []) (lenOf pd_19 rfl) rfl (by show 2 * 0 + _ ≤ _; exact Nat.le_of_eq rfl) (hb hby d2_12) (fun _ _ => ⟨rfl, e26, (by decide : 0 + 0 ≤ _), (by decide : 0 + 0 ≤ _)⟩)
  dsimp only [Pt.U, Pt.locs, Pt.cells, Pt.slots] at X27 l27 y27 z27 st27 hQ27
  subst l27 y27 z27
  obtain ⟨rfl, N27q, e27⟩ := hQ27
  have N27 := Fr.app N25 N27q
  obtain ⟨fs, hr, hrun, hended, hW, hsame⟩ := X27.leave (v := some (.int (nar .char (nar .char ((u &&& (255 : Int32)).toUInt32.toUInt16.toUInt32.toInt32))))) (fun h => by rw [Bd.returns] at h; cases h)
  refine ⟨_, _, pre0 _ ?_, hrun, hended, _, _, rfl, ?_, ⟨_, rfl⟩, hW, hsame.mono (by decide) (by decide)⟩
  · show own_S p e below s₁ (mkF m 0 #[.val (.ref a0), .val (.int p1)] []) _
    refine XS.aloadN X0.here hx rfl (hb hby d2_0) rfl rfl ?_
    show own_S p e below s₁ (mkF m 1 #[.val (.ref a0), .val (.int p1)] [(.ref a0)]) _
    refine st25.trans ?_
    show own_S p e below T25 (mkF m 4 #[.val (.ref a0), .val (.int p1)] [.int 1]) _
    refine XS.ifNo X25.here hx rfl (hb hby d2_4) rfl ((if0 _ _).trans (feq (by decide : ¬ ((1 : Int32) = (0 : Int32)))).1) ?_
    show own_S p e below T25 (mkF m 7 #[.val (.ref a0), .val (.int p1)] []) _
    refine XS.aloadN X25.here hx rfl (hb hby d2_7) rfl rfl ?_
    show own_S p e below T25 (mkF m 8 #[.val (.ref a0), .val (.int p1)] [(.ref a0)]) _
    refine st26 _ ?_
    show own_S p e below T26 (mkF m 11 #[.val (.ref a0), .val (.int p1)] [(.ref b)]) _
    refine XS.iloadN X26.here hx rfl (hb hby d2_11) rfl ?_
    show own_S p e below T26 (mkF m 12 #[.val (.ref a0), .val (.int p1)] [(.int p1), (.ref b)]) _
    refine st27 _ ?_
    show own_S p e below T27 (mkF m 15 #[.val (.ref a0), .val (.int p1)] [(.int (nar .char ((u &&& (255 : Int32)).toUInt32.toUInt16.toUInt32.toInt32)))]) _
    exact retN X27 hx (t := .char) Bd.returns (by simp) (hb hby d2_15) hr
  · show Q2_0 Z a0 p1 b kb nb bs u res cs gf h0 n0 _ T27.heap _
    rw [e27]
    exact ⟨congrArg (fun z => some (Value.int z)) hres, N27, rfl⟩
theorem d2_16 : decode jdk_42_method_56_code 16 = .ok (.aload_n 0, 1) := by decide +kernel
theorem d2_17 : decode jdk_42_method_56_code 17 = .ok (.getfield 9, 3) := by decide +kernel
theorem d2_20 : decode jdk_42_method_56_code 20 = .ok (.iload_n 1, 1) := by decide +kernel
theorem d2_21 : decode jdk_42_method_56_code 21 = .ok (.invokestatic 498, 3) := by decide +kernel
theorem d2_24 : decode jdk_42_method_56_code 24 = .ok (.ireturn, 1) := by decide +kernel
def Q2_1 (Z : State) (a0 : Addr) (p1 : Int32) (b : Addr) (kb : ClassId) (nb : Int32) (bs : List Value) (u : Int32) (x : Int32) (res : Int32) (cs : Int32) (gf : Value) (h0 : Heap) (n0 : Nat) (v : Option Value) (h : Heap) (L : List Loc) : Prop := v = some (.int res) ∧ Fr n0 L ∧ h = h0
set_option maxRecDepth 65536 in
set_option maxHeartbeats 40000000 in
theorem rm2_1 (l : Launch) (Z : State) (ag : Array Value) (hw : ∀ d ∈ tables_1, d.before ag Z = true) (ws : List Jvm.Cond) (a0 : Addr) (p1 : Int32) (b : Addr) (kb : ClassId) (nb : Int32) (bs : List Value) (u : Int32) (x : Int32) (res : Int32) (cs : Int32) (gf : Value) (h0 : Heap) (n0 : Nat) (Z0 : n0 ≤ h0.size) (E_a0 : Exa Z h0 a0 "java/lang/String") (F_value_a0 : Fld Z h0 a0 "java/lang/String" "value" "[B" (.ref b)) (F_coder_a0 : Fld Z h0 a0 "java/lang/String" "coder" "B" (.int (1 : Int32))) (V_b : Arv Z h0 b kb .byte nb bs (.int (0 : Int32))) (h1 : ¬ p1 < (0 : Int32)) (h2 : p1 < (nb >>> ((1 : Int32) &&& 31))) (hj : ¬ (p1 <<< ((1 : Int32) &&& 31)) < 0 ∧ (p1 <<< ((1 : Int32) &&& 31)) < nb) (hj1 : ¬ ((p1 <<< ((1 : Int32) &&& 31)) + (1 : Int32)) < 0 ∧ ((p1 <<< ((1 : Int32) &&& 31)) + (1 : Int32)) < nb) (hu : bs.getD ((p1 <<< ((1 : Int32) &&& 31))).toNatClampNeg (.int (0 : Int32)) = .int u) (hx_ : bs.getD (((p1 <<< ((1 : Int32) &&& 31)) + (1 : Int32))).toNatClampNeg (.int (0 : Int32)) = .int x) (hres : own_uc u x = res) (O_ : Old Z n0 h0) (S_cs : Sta Z Z.heap "java/lang/String" "COMPACT_STRINGS" "Z" (.int cs)) (hcs : ¬ cs = (0 : Int32)) (S_gf : Sta Z Z.heap "jdk/internal/util/Preconditions" "SIOOBE_FORMATTER" "Ljava/util/function/BiFunction;" gf) (rv_gf : gf.isRef = true) (S_ad : Sta Z Z.heap "java/lang/StringUTF16" "$assertionsDisabled" "Z" (.int (1 : Int32))) (S_hi : Sta Z Z.heap "java/lang/StringUTF16" "HI_BYTE_SHIFT" "I" (.int (0 : Int32))) (S_lo : Sta Z Z.heap "java/lang/StringUTF16" "LO_BYTE_SHIFT" "I" (.int (8 : Int32))) :
    MetFree l (⟨"java/lang/String", "charAt", "(I)C"⟩ : MethodName) (head1 (Jvm.Cond.code (⟨"java/lang/String", "charAt", "(I)C"⟩ : MethodName) jdk_42_method_56_code 2 (some .char) :: ws) ({ frames := 5, cells := 0, slots := 0, locals := 70 } : Room)) (fun a U => a = #[(.ref a0), (.int p1)] ∧ Z.Warmed39 U.vm ∧ U.heap = h0) (fun _ _ _ _ _ => True) (fun _ U o U' => ∃ v L, o = .returned v ∧ Q2_1 Z a0 p1 b kb nb bs u x res cs gf h0 n0 v U'.heap L ∧ FrameEnd U o U' L ({ frames := 5, cells := 0, slots := 0, locals := 70 } : Room).cells ({ frames := 5, cells := 0, slots := 0, locals := 70 } : Room).slots) := by
  refine MetFree.of_bodySF (plainFor_of_name pn_4) hisR ?_
  intro p e s m args below meth c s₁ Bd hml0 hP hK
  obtain ⟨rfl, hZ, hh⟩ := hP
  have hx := Bd.exec
  have hby := Bd.bytes
  have hml : c.maxLocals = 2 := hml0
  have hown : s.vm.findClass "java/lang/String" = some m.cls := findClass_of_methodNamed Bd.named
  have hnm := (name_of_methodNamed Bd.named Bd.method).1
  have X0 : Stand p l e ({ frames := 5, cells := 0, slots := 0, locals := 70 } : Room) s m #[(.ref a0), (.int p1)] below meth c s₁ [] 0 0 := Stand.of_body Bd
  have e0 : s₁.heap = h0 := by rw [← hh, Bd.state]; rfl
  have N0 := Fr.nil n0
  have pre0 : ∀ t, Steps p.tables e below (s₁.setTop (mkF m 0 #[.val (.ref a0), .val (.int p1)] [])) t → Steps p.tables e below (s₁.setTop (entryFrame m #[(.ref a0), (.int p1)] 2)) t := fun t k => castTop (ef_2 m a0 p1) k
  obtain ⟨cq28, kq28, q28a, q28b, q28c⟩ := isOf hZ e0 E_a0
  obtain ⟨_, _, ⟨T28, L28, k28, n28⟩, -, X28, ⟨Lc28, hQ28, l28, y28, z28⟩, st28⟩ := X0.virtualBack hx (y := (⟨"java/lang/String", "isLatin1", "()Z"⟩ : MethodName)) (z := (⟨"java/lang/String", "isLatin1", "()Z"⟩ : MethodName)) hown (mvT hZ (own_wk hw 17 rfl)) (mvT hZ (own_wk hw 18 rfl)) (notFace_of_selects (args := #[]) (mvT hZ (own_wk hw 20 rfl))) (mvT hZ (own_wk hw 20 rfl)) (mvT hZ (own_wk hw 19 rfl)) (by decide) (backOf (W := 0) (rm3_1 l Z ag hw [] a0 cs h0 n0 Z0 F_coder_a0 O_ S_cs hcs) hZ (own_wk hw 21 rfl) (own_wk hw 5 rfl) (by decide) (by decide)) q28a q28c (g := (mkF m 1 #[.val (.ref a0), .val (.int p1)] [(.ref a0)])) rfl (by rw [hml]; rfl) (Steps.refl _) (argsL := []) (rest := []) (lenOf pd_3 rfl) rfl (by show 2 * 0 + _ ≤ _; exact Nat.le_of_eq rfl) (hb hby d2_1) (fun _ _ => ⟨rfl, e0, (by decide : 0 + 0 ≤ _), (by decide : 0 + 0 ≤ _)⟩)
  dsimp only [Pt.U, Pt.locs, Pt.cells, Pt.slots] at X28 l28 y28 z28 st28 hQ28
  subst l28 y28 z28
  obtain ⟨rfl, N28q, e28⟩ := hQ28
  have N28 := Fr.app N0 N28q
  obtain ⟨T29, X29, e29, st29⟩ := getF X28 hx hZ hown (host := "") (Or.inl (own_wk hw 24 rfl)) Via.refl e28 F_value_a0 (g := (mkF m 17 #[.val (.ref a0), .val (.int p1)] [(.ref a0)])) rfl rfl (hb hby d2_17)
  obtain ⟨_, _, ⟨T30, L30, k30, n30⟩, -, X30, ⟨Lc30, hQ30, l30, y30, z30⟩, st30⟩ := Jvm.LawKit.callS X29 hx (y := (⟨"java/lang/StringUTF16", "charAt", "([BI)C"⟩ : MethodName)) hown (mvT hZ (own_wk hw 136 rfl)) (mvT hZ (own_wk hw 137 rfl)) (mvT hZ (own_wk hw 77 rfl)) (mvT hZ (own_wk hw 138 rfl)) (by decide) (backOf (W := 0) (rm32 l Z ag hw [] b p1 kb nb bs u x gf h0 n0 Z0 V_b h1 h2 hj hj1 hu hx_ O_ S_gf rv_gf S_ad S_hi S_lo) hZ (own_wk hw 138 rfl) (own_wk hw 77 rfl) (by decide) (by decide)) (g := (mkF m 21 #[.val (.ref a0), .val (.int p1)] [(.int p1), (.ref b)])) rfl (by rw [hml]; rfl) (argsL := [(.ref b), (.int p1)]) (rest := []) (lenOf pd_19 rfl) rfl (by show 2 * 0 + _ ≤ _; exact Nat.le_of_eq rfl) (hb hby d2_21) (fun _ _ => ⟨rfl, e29, (by decide : 0 + 0 ≤ _), (by decide : 0 + 0 ≤ _)⟩)
  dsimp only [Pt.U, Pt.locs, Pt.cells, Pt.slots] at X30 l30 y30 z30 st30 hQ30
  subst l30 y30 z30
  obtain ⟨rfl, N30q, e30⟩ := hQ30
  have N30 := Fr.app N28 N30q
  obtain ⟨fs, hr, hrun, hended, hW, hsame⟩ := X30.leave (v := some (.int (nar .char (nar .char (own_gc u x))))) (fun h => by rw [Bd.returns] at h; cases h)
  refine ⟨_, _, pre0 _ ?_, hrun, hended, _, _, rfl, ?_, ⟨_, rfl⟩, hW, hsame.mono (by decide) (by decide)⟩
  · show own_S p e below s₁ (mkF m 0 #[.val (.ref a0), .val (.int p1)] []) _
    refine XS.aloadN X0.here hx rfl (hb hby d2_0) rfl rfl ?_
    show own_S p e below s₁ (mkF m 1 #[.val (.ref a0), .val (.int p1)] [(.ref a0)]) _
    refine st28.trans ?_
    show own_S p e below T28 (mkF m 4 #[.val (.ref a0), .val (.int p1)] [.int 0]) _
    refine XS.ifYes X28.here hx rfl (pc0 := 4) (pc' := 16) rfl (hb hby d2_4) rfl ((if0 _ _).trans (teq (by decide : (0 : Int32) = (0 : Int32))).1) (by decide) (by decide) ?_
    show own_S p e below T28 (mkF m 16 #[.val (.ref a0), .val (.int p1)] []) _
    refine XS.aloadN X28.here hx rfl (hb hby d2_16) rfl rfl ?_
    show own_S p e below T28 (mkF m 17 #[.val (.ref a0), .val (.int p1)] [(.ref a0)]) _
    refine st29 _ ?_
    show own_S p e below T29 (mkF m 20 #[.val (.ref a0), .val (.int p1)] [(.ref b)]) _
    refine XS.iloadN X29.here hx rfl (hb hby d2_20) rfl ?_
    show own_S p e below T29 (mkF m 21 #[.val (.ref a0), .val (.int p1)] [(.int p1), (.ref b)]) _
    refine st30 _ ?_
    show own_S p e below T30 (mkF m 24 #[.val (.ref a0), .val (.int p1)] [(.int (nar .char (own_gc u x)))]) _
    exact retN X30 hx (t := .char) Bd.returns (by simp) (hb hby d2_24) hr
  · show Q2_1 Z a0 p1 b kb nb bs u x res cs gf h0 n0 _ T30.heap _
    rw [e30]
    exact ⟨congrArg (fun z => some (Value.int z)) hres, N30, rfl⟩
theorem rm2 (l : Launch) (Z : State) (a0_ : Array Value) (hw : ∀ d ∈ tables_1, d.before a0_ Z = true) (ws : List Jvm.Cond) (a0 : Addr) (p1 : Int32) (ds : List Int32) (cs : Int32) (gf : Value) (h0 : Heap) (n0 : Nat) (Z0 : n0 ≤ h0.size) (S : own_str Z h0 a0 ds) (h1 : ¬ p1 < (0 : Int32)) (h2 : p1.toNatClampNeg < ds.length) (O_ : Old Z n0 h0) (S_cs : Sta Z Z.heap "java/lang/String" "COMPACT_STRINGS" "Z" (.int cs)) (hcs : ¬ cs = (0 : Int32)) (S_gf : Sta Z Z.heap "jdk/internal/util/Preconditions" "SIOOBE_FORMATTER" "Ljava/util/function/BiFunction;" gf) (rv_gf : gf.isRef = true) (S_ad : Sta Z Z.heap "java/lang/StringUTF16" "$assertionsDisabled" "Z" (.int (1 : Int32))) (S_hi : Sta Z Z.heap "java/lang/StringUTF16" "HI_BYTE_SHIFT" "I" (.int (0 : Int32))) (S_lo : Sta Z Z.heap "java/lang/StringUTF16" "LO_BYTE_SHIFT" "I" (.int (8 : Int32))) :
    MetFree l (⟨"java/lang/String", "charAt", "(I)C"⟩ : MethodName) (head1 (Jvm.Cond.code (⟨"java/lang/String", "charAt", "(I)C"⟩ : MethodName) jdk_42_method_56_code 2 (some .char) :: ws) ({ frames := 5, cells := 0, slots := 0, locals := 70 } : Room)) (fun a U => a = #[(.ref a0), (.int p1)] ∧ Z.Warmed39 U.vm ∧ U.heap = h0) (fun _ _ _ _ _ => True) (fun _ U o U' => ∃ v L, o = .returned v ∧ own_Qi (ds.getD p1.toNatClampNeg 0) h0 n0 v U'.heap L ∧ FrameEnd U o U' L ({ frames := 5, cells := 0, slots := 0, locals := 70 } : Room).cells ({ frames := 5, cells := 0, slots := 0, locals := 70 } : Room).slots) := by
  obtain ⟨E, hl4, b, k, nb, cd, vs, Fv, Fc, V, hor⟩ := S
  rcases hor with ⟨rfl, hn, H⟩ | ⟨rfl, hn, H⟩
  · obtain ⟨u, hu, hr⟩ := H _ h2
    exact rm2_0 l Z a0_ hw ws a0 p1 b k nb vs u _ cs gf h0 n0 Z0 E Fv Fc V h1 (own_lat_lt hl4 h1 h2 hn) hu hr O_ S_cs hcs S_gf rv_gf S_ad S_hi S_lo
  · obtain ⟨u, x, hu, hx, hr⟩ := H _ h2
    obtain ⟨q1, q2, q3, q4, q5⟩ := own_u16_ix hl4 h1 h2 hn
    exact rm2_1 l Z a0_ hw ws a0 p1 b k nb vs u x _ cs gf h0 n0 Z0 E Fv Fc V h1 q1 q2 q3 (by rw [q4]; exact hu) (by rw [q5]; exact hx) hr O_ S_cs hcs S_gf rv_gf S_ad S_hi S_lo
def own_sb (j : Int32) : Int32 := if j = 0 then 46 else if j = 1 then 44 else if j = 2 then 59 else if j = 3 then 58 else if j = 4 then 47 else 32
theorem own_six (j : Int32) (h0 : 0 ≤ j.toInt) (h : j < (6 : Int32)) : j = 0 ∨ j = 1 ∨ j = 2 ∨ j = 3 ∨ j = 4 ∨ j = 5 := by
  rw [Int32.lt_iff_toInt_lt, show (6 : Int32).toInt = 6 from rfl] at h
  simp only [← Int32.toInt_inj, show (0 : Int32).toInt = 0 from rfl, show (1 : Int32).toInt = 1 from rfl, show (2 : Int32).toInt = 2 from rfl, show (3 : Int32).toInt = 3 from rfl, show (4 : Int32).toInt = 4 from rfl, show (5 : Int32).toInt = 5 from rfl]; omega
theorem own_m7 (p : Int32) : 0 ≤ (p &&& (7 : Int32)).toInt ∧ (p &&& (7 : Int32)).toInt < 8 := by
  have m := c_mask p (7 : Int32) 3 (by decide) (by decide); omega
theorem own_nn (j : Int32) (h : 0 ≤ j.toInt) : ¬ j < (0 : Int32) := by rw [Int32.lt_iff_toInt_lt, show (0 : Int32).toInt = 0 from rfl]; omega
theorem own_sb_at (j : Int32) (h0 : 0 ≤ j.toInt) (h : j < (6 : Int32)) : ([(.int (46 : Int32)), (.int (44 : Int32)), (.int (59 : Int32)), (.int (58 : Int32)), (.int (47 : Int32)), (.int (32 : Int32))] : List Value).getD j.toNatClampNeg (.int (0 : Int32)) = .int (own_sb j) := by
  rcases own_six j h0 h with rfl | rfl | rfl | rfl | rfl | rfl <;> rfl
theorem own_nar_rng (x : Int32) : 0 ≤ (nar .char x).toInt ∧ (nar .char x).toInt < 65536 := (c_i2c x).2
theorem own_len4 (us : List Int32) (h : us.length ≤ 4) (p : Int32) (hp : ¬ p < (4 : Int32)) : ¬ p < (Int32.ofNat us.length) := by
  rw [Int32.lt_iff_toInt_lt] at hp ⊢; rw [show (4 : Int32).toInt = 4 from rfl] at hp
  have e : (Int32.ofNat us.length).toInt = us.length := by rcases own_five us.length h with q | q | q | q | q <;> rw [q] <;> rfl
  omega
theorem own_us_lt (us : List Int32) (h4 : us.length ≤ 4) (j : Int32) (i : Nat) (hi : j.toInt = i) (h : j < (Int32.ofNat us.length)) : i < us.length := by
  rw [Int32.lt_iff_toInt_lt] at h
  have e : (Int32.ofNat us.length).toInt = us.length := by rcases own_five us.length h4 with q | q | q | q | q <;> rw [q] <;> rfl
  omega
theorem own_five5 (n : Int32) : ((n &&& (7 : Int32)) % (5 : Int32)) = 0 ∨ ((n &&& (7 : Int32)) % (5 : Int32)) = 1 ∨ ((n &&& (7 : Int32)) % (5 : Int32)) = 2 ∨ ((n &&& (7 : Int32)) % (5 : Int32)) = 3 ∨ ((n &&& (7 : Int32)) % (5 : Int32)) = 4 := by
  have m := own_m7 n; have a := (c_irem (n &&& (7 : Int32)) 5 5 rfl).1 m.1
  simp only [← Int32.toInt_inj, show (0 : Int32).toInt = 0 from rfl, show (1 : Int32).toInt = 1 from rfl, show (2 : Int32).toInt = 2 from rfl, show (3 : Int32).toInt = 3 from rfl, show (4 : Int32).toInt = 4 from rfl]; omega
theorem ef_9_vv00n (m : MethodId) (a0 : Addr) (a1 : Addr) : entryFrame m #[(.ref a0), (.ref a1), (.int (0 : Int32)), (.int (0 : Int32)), .null] 6 = mkF m 0 #[.val (.ref a0), .val (.ref a1), .val (.int 0), .val (.int 0), .val .null, .unset] [] := by first | (simp [entryFrame, mkF, argsToLocals, Value.category]; done) | rfl
theorem d9_0 : decode jdk_42_method_149_code 0 = .ok (.aload_n 0, 1) := by decide +kernel
theorem d9_1 : decode jdk_42_method_149_code 1 = .ok (.invokespecial 1, 3) := by decide +kernel
theorem d9_4 : decode jdk_42_method_149_code 4 = .ok (.iload_n 3, 1) := by decide +kernel
theorem d9_5 : decode jdk_42_method_149_code 5 = .ok (.ifCond .ne 22, 3) := by decide +kernel
theorem d9_8 : decode jdk_42_method_149_code 8 = .ok (.aload_n 0, 1) := by decide +kernel
theorem d9_9 : decode jdk_42_method_149_code 9 = .ok (.ldc 7, 2) := by decide +kernel
theorem d9_11 : decode jdk_42_method_149_code 11 = .ok (.getfield 9, 3) := by decide +kernel
theorem d9_14 : decode jdk_42_method_149_code 14 = .ok (.putfield 9, 3) := by decide +kernel
theorem d9_17 : decode jdk_42_method_149_code 17 = .ok (.aload_n 0, 1) := by decide +kernel
theorem d9_18 : decode jdk_42_method_149_code 18 = .ok (.ldc 7, 2) := by decide +kernel
theorem d9_20 : decode jdk_42_method_149_code 20 = .ok (.getfield 15, 3) := by decide +kernel
theorem d9_23 : decode jdk_42_method_149_code 23 = .ok (.putfield 15, 3) := by decide +kernel
theorem d9_26 : decode jdk_42_method_149_code 26 = .ok (.return_, 1) := by decide +kernel
def Q9_s0 (Z : State) (a0 : Addr) (a1 : Addr) (kc : ClassId) (us : List Value) (h0 : Heap) (n0 : Nat) (v : Option Value) (h : Heap) (L : List Loc) : Prop := v = none ∧ Fr n0 L ∧ Keep h0 h [a0] ∧ own_str Z h a0 []
set_option maxRecDepth 65536 in
set_option maxHeartbeats 40000000 in
theorem rm9_s0 (l : Launch) (Z : State) (ag : Array Value) (hw : ∀ d ∈ tables_1, d.before ag Z = true) (ws : List Jvm.Cond) (a0 : Addr) (a1 : Addr) (kc : ClassId) (us : List Value) (h0 : Heap) (n0 : Nat) (Z0 : n0 ≤ h0.size) (E_a0 : Exa Z h0 a0 "java/lang/String") (F_value_a0 : Fld Z h0 a0 "java/lang/String" "value" "[B" .null) (F_coder_a0 : Fld Z h0 a0 "java/lang/String" "coder" "B" (.int (0 : Int32))) (ge_a0 : n0 ≤ a0) (V_a1 : Arv Z h0 a1 kc .char (0 : Int32) us (.int (0 : Int32))) :
    MetFree l (⟨"java/lang/String", "<init>", "([CIILjava/lang/Void;)V"⟩ : MethodName) (head1 (Jvm.Cond.code (⟨"java/lang/String", "<init>", "([CIILjava/lang/Void;)V"⟩ : MethodName) jdk_42_method_149_code 6 none :: ws) ({ frames := 1, cells := 4, slots := 8, locals := 12 } : Room)) (fun a U => a = #[(.ref a0), (.ref a1), (.int (0 : Int32)), (.int (0 : Int32)), .null] ∧ Z.Warmed39 U.vm ∧ U.heap = h0 ∧ CHv Z own_EL U.vm h0) (fun _ _ _ _ _ => True) (fun _ U o U' => ∃ v L, o = .returned v ∧ Q9_s0 Z a0 a1 kc us h0 n0 v U'.heap L ∧ CHr Z own_EL U.vm U.heap U'.vm U'.heap ∧ ReturnedEndW U o U' L ({ frames := 1, cells := 4, slots := 8, locals := 12 } : Room).cells ({ frames := 1, cells := 4, slots := 8, locals := 12 } : Room).slots) := by
  refine MetFree.of_bodySF (plainFor_of_name pn_4) hisR ?_
  intro p e s m args below meth c s₁ Bd hml0 hP hK
  obtain ⟨rfl, hZ, hh, hI⟩ := hP
  have hx := Bd.exec
  have hby := Bd.bytes
  have hml : c.maxLocals = 6 := hml0
  have hown : s.vm.findClass "java/lang/String" = some m.cls := findClass_of_methodNamed Bd.named
  have hnm := (name_of_methodNamed Bd.named Bd.method).1
  have X0 : Stand p l e ({ frames := 1, cells := 4, slots := 8, locals := 12 } : Room) s m #[(.ref a0), (.ref a1), (.int (0 : Int32)), (.int (0 : Int32)), .null] below meth c s₁ [] 0 0 := Stand.of_body Bd
  have e0 : s₁.heap = h0 := by rw [← hh, Bd.state]; rfl
  have N0 := Fr.nil n0
  have pre0 : ∀ t, Steps p.tables e below (s₁.setTop (mkF m 0 #[.val (.ref a0), .val (.ref a1), .val (.int 0), .val (.int 0), .val .null, .unset] [])) t → Steps p.tables e below (s₁.setTop (entryFrame m #[(.ref a0), (.ref a1), (.int (0 : Int32)), (.int (0 : Int32)), .null] 6)) t := fun t k => castTop (ef_9_vv00n m a0 a1) k
  have X0 : Stand p l e ({ frames := 1, cells := 4, slots := 8, locals := 12 } : Room) (s.setVm s.vm) m #[(.ref a0), (.ref a1), (.int (0 : Int32)), (.int (0 : Int32)), .null] below meth c s₁ [] 0 0 := X0
  have hS : s.Since s.vm 0 := (State.WarmedH.refl s).since 0
  have hkS : 0 ≤ h0.size := Nat.zero_le _
  have hC : CHr Z own_EL s.vm h0 s.vm h0 := CHr.refl hI
  have hEL : EW Z ag own_EL := own_ew hw
  have hwS : ∀ d ∈ Bundle.stringAtoms, d.before ag Z = true := fun d hd => hw d ((by decide +kernel : ∀ d ∈ Bundle.stringAtoms, d ∈ tables_1) d hd)
  have sf_a0 := own_safe_str hC hZ.alike E_a0 F_value_a0 (own_wk hw 6 rfl)
  obtain ⟨T31, X31, e31, st31⟩ := initO X0 hx hZ hown (own_wk hw 49 rfl) (own_wk hw 50 rfl) (own_wk hw 51 rfl) e0 (g := (mkF m 1 #[.val (.ref a0), .val (.ref a1), .val (.int 0), .val (.int 0), .val .null, .unset] [(.ref a0)])) rfl (by rw [hml]; rfl) rfl (hb hby d9_1) (by decide) (W := 0) (by show 2 * 0 + _ ≤ _; exact Nat.le_of_eq rfl) (by decide)
  obtain ⟨sa32, T32, h32, kS32, sb32, kb32, X32, e32, E32, hS, hkS32, hZ, hown, Es32, Fc32, Fv32, Vs32, lta32, ltb32, hCs32, hLit32, hSf32, st32⟩ := ldcCH X31 hx hZ hown (own_wk hw 52 rfl) hwS e31 hS hkS hEL (by decide) hC.1 (vs := []) (z := (0 : Int32)) ⟨by decide, rfl⟩ (by decide) (by decide) (g := (mkF m 9 #[.val (.ref a0), .val (.ref a1), .val (.int 0), .val (.int 0), .val .null, .unset] [(.ref a0)])) rfl (hb hby d9_9) (n := 0) (by decide) (by decide) (by decide) (by decide)
  have x33 := E_a0.ext E32
  have x34 := F_value_a0.ext E32
  have x35 := F_coder_a0.ext E32
  have x36 := hCs32.safe E_a0.lt sf_a0
  have sz37 : n0 ≤ h32.size := Nat.le_trans Z0 E32.1
  have hkS := Nat.le_trans hkS E32.1
  have hC := hC.trans hCs32
  have kp38 : Keep h0 h32 [a0] := (Keep.refl h0 [a0]).ext E32
  have hkS := hkS32
  obtain ⟨T39, X39, e39, st39⟩ := getF X32 hx hZ hown (host := "") (Or.inl (own_wk hw 24 rfl)) Via.refl e32 Fv32 (g := (mkF m 11 #[.val (.ref a0), .val (.ref a1), .val (.int 0), .val (.int 0), .val .null, .unset] [(.ref sa32), (.ref a0)])) rfl rfl (hb hby d9_11)
  obtain ⟨T40, h40, X40, e40, W40, st40⟩ := putF X39 hx hZ hown (host := "") (Or.inl (own_wk hw 24 rfl)) Via.refl e39 x34 x33 (Or.inr ⟨(own_wk hw 8 rfl), rfl, hnm⟩) (own_wk hw 6 rfl) (ty := (.array .byte)) (by decide) rfl rfl (g := (mkF m 14 #[.val (.ref a0), .val (.ref a1), .val (.int 0), .val (.int 0), .val .null, .unset] [(.ref sb32), (.ref a0)])) rfl rfl (hb hby d9_14)
  have Fw40 := x34.same W40
  have x41 := x33.wr W40
  have x42 := x35.other W40 (Or.inr (slot_ne (Or.inr (own_wk hw 9 rfl)) (Or.inr (own_wk hw 8 rfl)) (by decide) (t := .byte) (t' := (.array .byte)) (by decide) (by decide)))
  have x43 := Safe.wr W40 x36 hC.1 x36
  have x44 := Es32.wr W40
  have x45 := Fc32.other W40 (Or.inl (Ne.symm (hSf32 _ x36).1))
  have x46 := Fv32.other W40 (Or.inl (Ne.symm (hSf32 _ x36).1))
  have x47 := Vs32.other W40 (Ne.symm (hSf32 _ x36).2)
  have sz48 : n0 ≤ h40.size := Nat.le_trans sz37 (Keep.of_wr W40).1
  have hkS := Nat.le_trans hkS (Keep.of_wr W40).1
  have hC := hC.trans (CHr.wr W40 x36 hC.1)
  have kp49 : Keep h0 h40 [a0] := kp38.wr W40 (Or.inl (List.mem_of_getElem? (i := 0) rfl))
  have N40 := Fr.snoc X40 N0 ge_a0
  obtain ⟨sa50, T50, h50, kS50, sb50, kb50, X50, e50, E50, hS, hkS50, hZ, hown, Es50, Fc50, Fv50, Vs50, lta50, ltb50, hCs50, hLit50, hSf50, st50⟩ := ldcCH X40 hx hZ hown (own_wk hw 52 rfl) hwS e40 hS hkS hEL (by decide) hC.1 (vs := []) (z := (0 : Int32)) ⟨by decide, rfl⟩ (by decide) (by decide) (g := (mkF m 18 #[.val (.ref a0), .val (.ref a1), .val (.int 0), .val (.int 0), .val .null, .unset] [(.ref a0)])) rfl (hb hby d9_18) (n := 0) (by decide) (by decide) (by decide) (by decide)
  have x51 := x41.ext E50
  have x52 := x42.ext E50
  have x53 := hCs50.safe x41.lt x43
  have x54 := x44.ext E50
  have x55 := x45.ext E50
  have x56 := x46.ext E50
  have x57 := x47.ext E50
  have x58 := Fw40.ext E50
  have sz59 : n0 ≤ h50.size := Nat.le_trans sz48 E50.1
  have hkS := Nat.le_trans hkS E50.1
  have hC := hC.trans hCs50
  have kp60 : Keep h0 h50 [a0] := kp49.ext E50
  have hkS := hkS50
  obtain ⟨T61, X61, e61, st61⟩ := getF X50 hx hZ hown (host := "") (Or.inl (own_wk hw 23 rfl)) Via.refl e50 Fc50 (g := (mkF m 20 #[.val (.ref a0), .val (.ref a1), .val (.int 0), .val (.int 0), .val .null, .unset] [(.ref sa50), (.ref a0)])) rfl rfl (hb hby d9_20)
  obtain ⟨T62, h62, X62, e62, W62, st62⟩ := putFN X61 hx hZ hown (own_wk hw 23 rfl) Via.refl e61 x52 x51 (Or.inr ⟨(own_wk hw 9 rfl), rfl, hnm⟩) (own_wk hw 6 rfl) (ty := .byte) (v' := (.int (0 : Int32))) (by decide) rfl (fits_nar_byte (0 : Int32)) (g := (mkF m 23 #[.val (.ref a0), .val (.ref a1), .val (.int 0), .val (.int 0), .val .null, .unset] [.int 0, (.ref a0)])) rfl rfl (hb hby d9_23)
  have Fw62 := x52.same W62
  have x63 := x51.wr W62
  have x64 := Safe.wr W62 x53 hC.1 x53
  have x65 := x54.wr W62
  have x66 := x55.other W62 (Or.inl (Ne.symm (hSf32 _ x36).1))
  have x67 := x56.other W62 (Or.inl (Ne.symm (hSf32 _ x36).1))
  have x68 := x57.other W62 (Ne.symm (hSf32 _ x36).2)
  have x69 := x58.other W62 (Or.inr (slot_ne (Or.inr (own_wk hw 8 rfl)) (Or.inr (own_wk hw 9 rfl)) (by decide) (t := (.array .byte)) (t' := .byte) (by decide) (by decide)))
  have x70 := Es50.wr W62
  have x71 := Fc50.other W62 (Or.inl (Ne.symm (hSf50 _ x53).1))
  have x72 := Fv50.other W62 (Or.inl (Ne.symm (hSf50 _ x53).1))
  have x73 := Vs50.other W62 (Ne.symm (hSf50 _ x53).2)
  have sz74 : n0 ≤ h62.size := Nat.le_trans sz59 (Keep.of_wr W62).1
  have hkS := Nat.le_trans hkS (Keep.of_wr W62).1
  have hC := hC.trans (CHr.wr W62 x53 hC.1)
  have kp75 : Keep h0 h62 [a0] := kp60.wr W62 (Or.inl (List.mem_of_getElem? (i := 0) rfl))
  have N62 := Fr.snoc X62 N40 ge_a0
  obtain ⟨fs, hr, hrun, hended, hEnd⟩ := X62.leaveW hS (by rw [e62]; exact hkS) (v := none) (fun _ => rfl)
  refine ⟨_, _, pre0 _ ?_, hrun, hended, _, _, rfl, ?_, ?_, hEnd.1, hEnd.2.1, hEnd.2.2.1, hEnd.2.2.2.mono (by decide) (by decide)⟩
  · show own_S p e below s₁ (mkF m 0 #[.val (.ref a0), .val (.ref a1), .val (.int 0), .val (.int 0), .val .null, .unset] []) _
    refine XS.aloadN X0.here hx rfl (hb hby d9_0) rfl rfl ?_
    show own_S p e below s₁ (mkF m 1 #[.val (.ref a0), .val (.ref a1), .val (.int 0), .val (.int 0), .val .null, .unset] [(.ref a0)]) _
    refine st31 _ ?_
    show own_S p e below T31 (mkF m 4 #[.val (.ref a0), .val (.ref a1), .val (.int 0), .val (.int 0), .val .null, .unset] []) _
    refine XS.iloadN X31.here hx rfl (hb hby d9_4) rfl ?_
    refine XS.ifNo X31.here hx rfl (hb hby d9_5) rfl ((if0 _ _).trans (teq (by decide : (0 : Int32) = (0 : Int32))).2) ?_
    show own_S p e below T31 (mkF m 8 #[.val (.ref a0), .val (.ref a1), .val (.int 0), .val (.int 0), .val .null, .unset] []) _
    refine XS.aloadN X31.here hx rfl (hb hby d9_8) rfl rfl ?_
    show own_S p e below T31 (mkF m 9 #[.val (.ref a0), .val (.ref a1), .val (.int 0), .val (.int 0), .val .null, .unset] [(.ref a0)]) _
    refine st32 _ ?_
    show own_S p e below T32 (mkF m 11 #[.val (.ref a0), .val (.ref a1), .val (.int 0), .val (.int 0), .val .null, .unset] [(.ref sa32), (.ref a0)]) _
    refine st39 _ ?_
    show own_S p e below T39 (mkF m 14 #[.val (.ref a0), .val (.ref a1), .val (.int 0), .val (.int 0), .val .null, .unset] [(.ref sb32), (.ref a0)]) _
    refine st40 _ ?_
    show own_S p e below T40 (mkF m 17 #[.val (.ref a0), .val (.ref a1), .val (.int 0), .val (.int 0), .val .null, .unset] []) _
    refine XS.aloadN X40.here hx rfl (hb hby d9_17) rfl rfl ?_
    show own_S p e below T40 (mkF m 18 #[.val (.ref a0), .val (.ref a1), .val (.int 0), .val (.int 0), .val .null, .unset] [(.ref a0)]) _
    refine st50 _ ?_
    show own_S p e below T50 (mkF m 20 #[.val (.ref a0), .val (.ref a1), .val (.int 0), .val (.int 0), .val .null, .unset] [(.ref sa50), (.ref a0)]) _
    refine st61 _ ?_
    show own_S p e below T61 (mkF m 23 #[.val (.ref a0), .val (.ref a1), .val (.int 0), .val (.int 0), .val .null, .unset] [.int 0, (.ref a0)]) _
    refine st62 _ ?_
    show own_S p e below T62 (mkF m 26 #[.val (.ref a0), .val (.ref a1), .val (.int 0), .val (.int 0), .val .null, .unset] []) _
    exact X62.returnOut hx Bd.returns (hb hby d9_26) hr
  · show Q9_s0 Z a0 a1 kc us h0 n0 _ T62.heap _
    rw [e62]
    exact ⟨rfl, N62, kp75, ⟨x63, (by decide : 0 ≤ 4), sb32, kb32, 0, 0, _, x69, Fw62, x68, Or.inl ⟨rfl, rfl, fun i hi => absurd hi (Nat.not_lt_zero i)⟩⟩⟩
  · show CHr Z own_EL s.vm s.heap T62.vm T62.heap
    rw [hh, show T62.heap = h62 from e62]
    exact hC.trans (CHv.at X62 hZ hEL hC.1)
theorem ef_8 (m : MethodId) (a0 : Addr) (a1 : Addr) : entryFrame m #[(.ref a0), (.ref a1)] 2 = mkF m 0 #[.val (.ref a0), .val (.ref a1)] [] := by first | (simp [entryFrame, mkF, argsToLocals, Value.category]; done) | rfl
theorem d8_0 : decode jdk_42_method_3_code 0 = .ok (.aload_n 0, 1) := by decide +kernel
theorem d8_1 : decode jdk_42_method_3_code 1 = .ok (.aload_n 1, 1) := by decide +kernel
theorem d8_2 : decode jdk_42_method_3_code 2 = .ok (.iconst 0, 1) := by decide +kernel
theorem d8_3 : decode jdk_42_method_3_code 3 = .ok (.aload_n 1, 1) := by decide +kernel
theorem d8_4 : decode jdk_42_method_3_code 4 = .ok (.arraylength, 1) := by decide +kernel
theorem d8_5 : decode jdk_42_method_3_code 5 = .ok (.aconst_null, 1) := by decide +kernel
theorem pd_24 : parseMethodDescriptor "([CIILjava/lang/Void;)V" = some ⟨[(.array .char), .int, .int, (.object "java/lang/Void")], none⟩ := by decide +kernel
theorem d8_6 : decode jdk_42_method_3_code 6 = .ok (.invokespecial 27, 3) := by decide +kernel
theorem d8_9 : decode jdk_42_method_3_code 9 = .ok (.return_, 1) := by decide +kernel
def Q8_s0 (Z : State) (a0 : Addr) (a1 : Addr) (kc : ClassId) (us : List Value) (h0 : Heap) (n0 : Nat) (v : Option Value) (h : Heap) (L : List Loc) : Prop := v = none ∧ Fr n0 L ∧ Keep h0 h [a0] ∧ own_str Z h a0 []
set_option maxRecDepth 65536 in
set_option maxHeartbeats 40000000 in
theorem rm8_s0 (l : Launch) (Z : State) (ag : Array Value) (hw : ∀ d ∈ tables_1, d.before ag Z = true) (ws : List Jvm.Cond) (a0 : Addr) (a1 : Addr) (kc : ClassId) (us : List Value) (h0 : Heap) (n0 : Nat) (Z0 : n0 ≤ h0.size) (E_a0 : Exa Z h0 a0 "java/lang/String") (F_value_a0 : Fld Z h0 a0 "java/lang/String" "value" "[B" .null) (F_coder_a0 : Fld Z h0 a0 "java/lang/String" "coder" "B" (.int (0 : Int32))) (ge_a0 : n0 ≤ a0) (V_a1 : Arv Z h0 a1 kc .char (0 : Int32) us (.int (0 : Int32))) :
    MetFree l (⟨"java/lang/String", "<init>", "([C)V"⟩ : MethodName) (head1 (Jvm.Cond.code (⟨"java/lang/String", "<init>", "([C)V"⟩ : MethodName) jdk_42_method_3_code 2 none :: ws) ({ frames := 5, cells := 4, slots := 40, locals := 110 } : Room)) (fun a U => a = #[(.ref a0), (.ref a1)] ∧ Z.Warmed39 U.vm ∧ U.heap = h0 ∧ CHv Z own_EL U.vm h0) (fun _ _ _ _ _ => True) (fun _ U o U' => ∃ v L, o = .returned v ∧ Q8_s0 Z a0 a1 kc us h0 n0 v U'.heap L ∧ CHr Z own_EL U.vm U.heap U'.vm U'.heap ∧ ReturnedEndW U o U' L ({ frames := 5, cells := 4, slots := 40, locals := 110 } : Room).cells ({ frames := 5, cells := 4, slots := 40, locals := 110 } : Room).slots) := by
  refine MetFree.of_bodySF (plainFor_of_name pn_4) hisR ?_
  intro p e s m args below meth c s₁ Bd hml0 hP hK
  obtain ⟨rfl, hZ, hh, hI⟩ := hP
  have hx := Bd.exec
  have hby := Bd.bytes
  have hml : c.maxLocals = 2 := hml0
  have hown : s.vm.findClass "java/lang/String" = some m.cls := findClass_of_methodNamed Bd.named
  have hnm := (name_of_methodNamed Bd.named Bd.method).1
  have X0 : Stand p l e ({ frames := 5, cells := 4, slots := 40, locals := 110 } : Room) s m #[(.ref a0), (.ref a1)] below meth c s₁ [] 0 0 := Stand.of_body Bd
  have e0 : s₁.heap = h0 := by rw [← hh, Bd.state]; rfl
  have N0 := Fr.nil n0
  have pre0 : ∀ t, Steps p.tables e below (s₁.setTop (mkF m 0 #[.val (.ref a0), .val (.ref a1)] [])) t → Steps p.tables e below (s₁.setTop (entryFrame m #[(.ref a0), (.ref a1)] 2)) t := fun t k => castTop (ef_8 m a0 a1) k
  have X0 : Stand p l e ({ frames := 5, cells := 4, slots := 40, locals := 110 } : Room) (s.setVm s.vm) m #[(.ref a0), (.ref a1)] below meth c s₁ [] 0 0 := X0
  have hS : s.Since s.vm 0 := (State.WarmedH.refl s).since 0
  have hkS : 0 ≤ h0.size := Nat.zero_le _
  have hC : CHr Z own_EL s.vm h0 s.vm h0 := CHr.refl hI
  have hEL : EW Z ag own_EL := own_ew hw
  have hwS : ∀ d ∈ Bundle.stringAtoms, d.before ag Z = true := fun d hd => hw d ((by decide +kernel : ∀ d ∈ Bundle.stringAtoms, d ∈ tables_1) d hd)
  obtain ⟨cl76, Ar76, -, S76, M76, -, -⟩ := id V_a1
  have ld76 := X0.arraylength hx (by rw [e0]; exact Ar76.1) (State.isArrayOf_alike hZ.alike Ar76.2.1) (g := (mkF m 4 #[.val (.ref a0), .val (.ref a1)] [(.ref a1), .int 0, (.ref a1), (.ref a0)])) rfl rfl (hb hby d8_4)
  obtain ⟨_, _, ⟨T77, L77, k77, n77⟩, -, X77, hS2_77, hg2_77, ⟨Lc77, hQ77, l77, y77, z77, hCs77⟩, st77⟩ := X0.specialBackS hx (y := (⟨"java/lang/String", "<init>", "([CIILjava/lang/Void;)V"⟩ : MethodName)) rfl hown (mvT hZ (own_wk hw 45 rfl)) (mvT hZ (own_wk hw 46 rfl)) (mvT hZ (own_wk hw 48 rfl)) (by decide) (backOfSH (W := 0) (rm9_s0 l Z ag hw [] a0 a1 kc us h0 n0 Z0 E_a0 F_value_a0 F_coder_a0 ge_a0 V_a1) hZ (own_wk hw 48 rfl) (own_wk hw 5 rfl) (by decide) (by decide) hEL hC.1) (g := (mkF m 6 #[.val (.ref a0), .val (.ref a1)] [.null, .int 0, .int 0, (.ref a1), (.ref a0)])) rfl (by rw [hml]; rfl) (Steps.refl _) (a := a0) (argsL := [(.ref a1), (.int (0 : Int32)), (.int (0 : Int32)), .null]) (rest := []) (lenOf pd_24 rfl) rfl (by show 2 * 0 + _ ≤ _; exact Nat.le_of_eq rfl) (hb hby d8_6) (fun _ _ => ⟨rfl, e0, (by decide : 0 + 4 ≤ _), (by decide : 0 + 8 ≤ _)⟩)
  dsimp only [Pt.U, Pt.locs, Pt.cells, Pt.slots] at X77 l77 y77 z77 st77 hQ77 hS2_77 hg2_77 hCs77
  subst l77 y77 z77
  obtain ⟨X77, hS, hZ, hown⟩ := rebS hS (by rw [e0]; exact hkS) X77 hS2_77 hg2_77 hZ hown
  obtain ⟨rfl, N77q, K77, Ss77⟩ := hQ77
  have N77 := Fr.app N0 N77q
  have x78 := E_a0.keep K77
  have sz79 : n0 ≤ T77.heap.size := Nat.le_trans Z0 K77.1
  have hkS := Nat.le_trans hkS K77.1
  have hC := hC.trans hCs77
  have kp80 : Keep h0 T77.heap [a0] := (Keep.refl h0 [a0]).trans K77 (allS (Or.inl (List.mem_of_getElem? (i := 0) rfl)) all0)
  have hkS : T77.heap.size ≤ T77.heap.size := Nat.le_refl _
  obtain ⟨fs, hr, hrun, hended, hEnd⟩ := X77.leaveW hS hkS (v := none) (fun _ => rfl)
  refine ⟨_, _, pre0 _ ?_, hrun, hended, _, _, rfl, ?_, ?_, hEnd.1, hEnd.2.1, hEnd.2.2.1, hEnd.2.2.2.mono (by decide) (by decide)⟩
  · show own_S p e below s₁ (mkF m 0 #[.val (.ref a0), .val (.ref a1)] []) _
    refine XS.aloadN X0.here hx rfl (hb hby d8_0) rfl rfl ?_
    refine XS.aloadN X0.here hx rfl (hb hby d8_1) rfl rfl ?_
    refine XS.iconst X0.here hx rfl (hb hby d8_2) ?_
    refine XS.aloadN X0.here hx rfl (hb hby d8_3) rfl rfl ?_
    show own_S p e below s₁ (mkF m 4 #[.val (.ref a0), .val (.ref a1)] [(.ref a1), .int 0, (.ref a1), (.ref a0)]) _
    refine ld76 _ ?_
    rw [len_of S76 M76]
    show own_S p e below s₁ (mkF m 5 #[.val (.ref a0), .val (.ref a1)] [.int 0, .int 0, (.ref a1), (.ref a0)]) _
    refine XS.aconstNull X0.here hx rfl (hb hby d8_5) ?_
    show own_S p e below s₁ (mkF m 6 #[.val (.ref a0), .val (.ref a1)] [.null, .int 0, .int 0, (.ref a1), (.ref a0)]) _
    refine st77.trans ?_
    show own_S p e below T77 (mkF m 9 #[.val (.ref a0), .val (.ref a1)] []) _
    exact X77.returnOut hx Bd.returns (hb hby d8_9) hr
  · show Q8_s0 Z a0 a1 kc us h0 n0 _ T77.heap _
    exact ⟨rfl, N77, kp80, Ss77⟩
  · show CHr Z own_EL s.vm s.heap T77.vm T77.heap
    rw [hh]
    exact hC.trans (CHv.at X77 hZ hEL hC.1)
theorem ef_30 (m : MethodId) (a0 : Addr) (p1 : Int32) (p2 : Int32) : entryFrame m #[(.ref a0), (.int p1), (.int p2)] 3 = mkF m 0 #[.val (.ref a0), .val (.int p1), .val (.int p2)] [] := by first | (simp [entryFrame, mkF, argsToLocals, Value.category]; done) | rfl
theorem d30_0 : decode jdk_52_method_4_code 0 = .ok (.getstatic 44, 3) := by decide +kernel
theorem d30_3 : decode jdk_52_method_4_code 3 = .ok (.ifCond .ne 25, 3) := by decide +kernel
theorem d30_28 : decode jdk_52_method_4_code 28 = .ok (.iload_n 1, 1) := by decide +kernel
theorem d30_29 : decode jdk_52_method_4_code 29 = .ok (.iconst 1, 1) := by decide +kernel
theorem d30_30 : decode jdk_52_method_4_code 30 = .ok (.ishl, 1) := by decide +kernel
theorem d30_31 : decode jdk_52_method_4_code 31 = .ok (.istore_n 1, 1) := by decide +kernel
theorem d30_32 : decode jdk_52_method_4_code 32 = .ok (.aload_n 0, 1) := by decide +kernel
theorem d30_33 : decode jdk_52_method_4_code 33 = .ok (.iload_n 1, 1) := by decide +kernel
theorem d30_34 : decode jdk_52_method_4_code 34 = .ok (.iinc 1 1, 3) := by decide +kernel
theorem d30_37 : decode jdk_52_method_4_code 37 = .ok (.iload_n 2, 1) := by decide +kernel
theorem d30_38 : decode jdk_52_method_4_code 38 = .ok (.getstatic 59, 3) := by decide +kernel
theorem d30_41 : decode jdk_52_method_4_code 41 = .ok (.ishr, 1) := by decide +kernel
theorem d30_42 : decode jdk_52_method_4_code 42 = .ok (.i2b, 1) := by decide +kernel
theorem d30_43 : decode jdk_52_method_4_code 43 = .ok (.bastore, 1) := by decide +kernel
theorem d30_44 : decode jdk_52_method_4_code 44 = .ok (.aload_n 0, 1) := by decide +kernel
theorem d30_45 : decode jdk_52_method_4_code 45 = .ok (.iload_n 1, 1) := by decide +kernel
theorem d30_46 : decode jdk_52_method_4_code 46 = .ok (.iload_n 2, 1) := by decide +kernel
theorem d30_47 : decode jdk_52_method_4_code 47 = .ok (.getstatic 63, 3) := by decide +kernel
theorem d30_50 : decode jdk_52_method_4_code 50 = .ok (.ishr, 1) := by decide +kernel
theorem d30_51 : decode jdk_52_method_4_code 51 = .ok (.i2b, 1) := by decide +kernel
theorem d30_52 : decode jdk_52_method_4_code 52 = .ok (.bastore, 1) := by decide +kernel
theorem d30_53 : decode jdk_52_method_4_code 53 = .ok (.return_, 1) := by decide +kernel
def Q30 (Z : State) (a0 : Addr) (p1 : Int32) (p2 : Int32) (kb : ClassId) (nb : Int32) (bs : List Value) (h0 : Heap) (n0 : Nat) (v : Option Value) (h : Heap) (L : List Loc) : Prop := v = none ∧ Fr n0 L ∧ Keep h0 h [a0] ∧ Arv Z h a0 kb .byte nb ((bs.set ((p1 <<< ((1 : Int32) &&& 31))).toNatClampNeg (.int (nar .byte ((p2 >>> ((0 : Int32) &&& 31)).toInt8.toInt32)))).set (((p1 <<< ((1 : Int32) &&& 31)) + (1 : Int32))).toNatClampNeg (.int (nar .byte ((p2 >>> ((8 : Int32) &&& 31)).toInt8.toInt32)))) (.int (0 : Int32))
set_option maxRecDepth 65536 in
set_option maxHeartbeats 40000000 in
theorem rm30 (l : Launch) (Z : State) (ag : Array Value) (hw : ∀ d ∈ tables_1, d.before ag Z = true) (ws : List Jvm.Cond) (a0 : Addr) (p1 : Int32) (p2 : Int32) (kb : ClassId) (nb : Int32) (bs : List Value) (h0 : Heap) (n0 : Nat) (Z0 : n0 ≤ h0.size) (V_a0 : Arv Z h0 a0 kb .byte nb bs (.int (0 : Int32))) (ge_a0 : n0 ≤ a0) (hj : ¬ (p1 <<< ((1 : Int32) &&& 31)) < 0 ∧ (p1 <<< ((1 : Int32) &&& 31)) < nb) (hj1 : ¬ ((p1 <<< ((1 : Int32) &&& 31)) + (1 : Int32)) < 0 ∧ ((p1 <<< ((1 : Int32) &&& 31)) + (1 : Int32)) < nb) (hb0 : ((p1 <<< ((1 : Int32) &&& 31))).toNatClampNeg < bs.length) (hb1 : (((p1 <<< ((1 : Int32) &&& 31)) + (1 : Int32))).toNatClampNeg < bs.length) (O_ : Old Z n0 h0) (S_ad : Sta Z Z.heap "java/lang/StringUTF16" "$assertionsDisabled" "Z" (.int (1 : Int32))) (S_hi : Sta Z Z.heap "java/lang/StringUTF16" "HI_BYTE_SHIFT" "I" (.int (0 : Int32))) (S_lo : Sta Z Z.heap "java/lang/StringUTF16" "LO_BYTE_SHIFT" "I" (.int (8 : Int32))) :
    MetFree l (⟨"java/lang/StringUTF16", "putChar", "([BII)V"⟩ : MethodName) (head1 (Jvm.Cond.code (⟨"java/lang/StringUTF16", "putChar", "([BII)V"⟩ : MethodName) jdk_52_method_4_code 3 none :: ws) ({ frames := 0, cells := 0, slots := 0, locals := 0 } : Room)) (fun a U => a = #[(.ref a0), (.int p1), (.int p2)] ∧ Z.Warmed39 U.vm ∧ U.heap = h0) (fun _ _ _ _ _ => True) (fun _ U o U' => ∃ v L, o = .returned v ∧ Q30 Z a0 p1 p2 kb nb bs h0 n0 v U'.heap L ∧ FrameEnd U o U' L ({ frames := 0, cells := 0, slots := 0, locals := 0 } : Room).cells ({ frames := 0, cells := 0, slots := 0, locals := 0 } : Room).slots) := by
  refine MetFree.of_bodySF (plainFor_of_name pn_6) hisR ?_
  intro p e s m args below meth c s₁ Bd hml0 hP hK
  obtain ⟨rfl, hZ, hh⟩ := hP
  have hx := Bd.exec
  have hby := Bd.bytes
  have hml : c.maxLocals = 3 := hml0
  have hown : s.vm.findClass "java/lang/StringUTF16" = some m.cls := findClass_of_methodNamed Bd.named
  have hnm := (name_of_methodNamed Bd.named Bd.method).1
  have X0 : Stand p l e ({ frames := 0, cells := 0, slots := 0, locals := 0 } : Room) s m #[(.ref a0), (.int p1), (.int p2)] below meth c s₁ [] 0 0 := Stand.of_body Bd
  have e0 : s₁.heap = h0 := by rw [← hh, Bd.state]; rfl
  have N0 := Fr.nil n0
  have pre0 : ∀ t, Steps p.tables e below (s₁.setTop (mkF m 0 #[.val (.ref a0), .val (.int p1), .val (.int p2)] [])) t → Steps p.tables e below (s₁.setTop (entryFrame m #[(.ref a0), (.int p1), (.int p2)] 3)) t := fun t k => castTop (ef_30 m a0 p1 p2) k
  obtain ⟨T81, X81, e81, st81⟩ := getS2 X0 hx hZ hown (host := "") (Or.inl (own_wk hw 130 rfl)) Via.refl e0 (Sta.ext O_.2 S_ad) (g := (mkF m 0 #[.val (.ref a0), .val (.int p1), .val (.int p2)] [])) rfl (hb hby d30_0)
  obtain ⟨T82, X82, e82, st82⟩ := getS2 X81 hx hZ hown (host := "") (Or.inl (own_wk hw 131 rfl)) Via.refl e81 (Sta.ext O_.2 S_hi) (g := (mkF m 38 #[.val (.ref a0), .val (.int ((p1 <<< ((1 : Int32) &&& 31)) + (1 : Int32))), .val (.int p2)] [(.int p2), (.int (p1 <<< ((1 : Int32) &&& 31))), (.ref a0)])) rfl (hb hby d30_38)
  obtain ⟨cl83, Ar83, q83, S83, M83, H83, G83⟩ := id V_a0
  have hin83 : ¬ ((p1 <<< ((1 : Int32) &&& 31)) < 0 ∨ cl83.slots.size ≤ ((p1 <<< ((1 : Int32) &&& 31))).toNatClampNeg) := inb_of S83 hj
  obtain ⟨T83, h83, X83, e83, W83, st83⟩ := stB X82 hx hZ e82 Ar83 (j := (p1 <<< ((1 : Int32) &&& 31))) hin83 (g := (mkF m 43 #[.val (.ref a0), .val (.int ((p1 <<< ((1 : Int32) &&& 31)) + (1 : Int32))), .val (.int p2)] [(.int ((p2 >>> ((0 : Int32) &&& 31)).toInt8.toInt32)), (.int (p1 <<< ((1 : Int32) &&& 31))), (.ref a0)])) rfl rfl (hb hby d30_43)
  have V83 : Arv Z h83 a0 kb .byte nb (bs.set ((p1 <<< ((1 : Int32) &&& 31))).toNatClampNeg (.int (nar .byte ((p2 >>> ((0 : Int32) &&& 31)).toInt8.toInt32)))) (.int (0 : Int32)) := Arv.set Ar83 q83 S83 M83 H83 G83 (fits_nar_byte _) W83 ((p1 <<< ((1 : Int32) &&& 31))).toNatClampNeg rfl hb0
  have x84 := O_.wr W83 ge_a0
  have sz85 : n0 ≤ h83.size := Nat.le_trans Z0 (Keep.of_wr W83).1
  have kp86 : Keep h0 h83 [a0] := (Keep.refl h0 [a0]).wr W83 (Or.inl (List.mem_of_getElem? (i := 0) rfl))
  have N83 := Fr.snoc X83 N0 ge_a0
  obtain ⟨T87, X87, e87, st87⟩ := getS2 X83 hx hZ hown (host := "") (Or.inl (own_wk hw 132 rfl)) Via.refl e83 (Sta.ext x84.2 S_lo) (g := (mkF m 47 #[.val (.ref a0), .val (.int ((p1 <<< ((1 : Int32) &&& 31)) + (1 : Int32))), .val (.int p2)] [(.int p2), (.int ((p1 <<< ((1 : Int32) &&& 31)) + (1 : Int32))), (.ref a0)])) rfl (hb hby d30_47)
  obtain ⟨cl88, Ar88, q88, S88, M88, H88, G88⟩ := id V83
  have hin88 : ¬ (((p1 <<< ((1 : Int32) &&& 31)) + (1 : Int32)) < 0 ∨ cl88.slots.size ≤ (((p1 <<< ((1 : Int32) &&& 31)) + (1 : Int32))).toNatClampNeg) := inb_of S88 hj1
  obtain ⟨T88, h88, X88, e88, W88, st88⟩ := stB X87 hx hZ e87 Ar88 (j := ((p1 <<< ((1 : Int32) &&& 31)) + (1 : Int32))) hin88 (g := (mkF m 52 #[.val (.ref a0), .val (.int ((p1 <<< ((1 : Int32) &&& 31)) + (1 : Int32))), .val (.int p2)] [(.int ((p2 >>> ((8 : Int32) &&& 31)).toInt8.toInt32)), (.int ((p1 <<< ((1 : Int32) &&& 31)) + (1 : Int32))), (.ref a0)])) rfl rfl (hb hby d30_52)
  have V88 : Arv Z h88 a0 kb .byte nb ((bs.set ((p1 <<< ((1 : Int32) &&& 31))).toNatClampNeg (.int (nar .byte ((p2 >>> ((0 : Int32) &&& 31)).toInt8.toInt32)))).set (((p1 <<< ((1 : Int32) &&& 31)) + (1 : Int32))).toNatClampNeg (.int (nar .byte ((p2 >>> ((8 : Int32) &&& 31)).toInt8.toInt32)))) (.int (0 : Int32)) := Arv.set Ar88 q88 S88 M88 H88 G88 (fits_nar_byte _) W88 (((p1 <<< ((1 : Int32) &&& 31)) + (1 : Int32))).toNatClampNeg rfl (by rw [List.length_set]; exact hb1)
  have x89 := x84.wr W88 ge_a0
  have sz90 : n0 ≤ h88.size := Nat.le_trans sz85 (Keep.of_wr W88).1
  have kp91 : Keep h0 h88 [a0] := kp86.wr W88 (Or.inl (List.mem_of_getElem? (i := 0) rfl))
  have N88 := Fr.snoc X88 N83 ge_a0
  obtain ⟨fs, hr, hrun, hended, hW, hsame⟩ := X88.leave (v := none) (fun _ => rfl)
  refine ⟨_, _, pre0 _ ?_, hrun, hended, _, _, rfl, ?_, ⟨_, rfl⟩, hW, hsame.mono (by decide) (by decide)⟩
  · show own_S p e below s₁ (mkF m 0 #[.val (.ref a0), .val (.int p1), .val (.int p2)] []) _
    refine st81 _ ?_
    show own_S p e below T81 (mkF m 3 #[.val (.ref a0), .val (.int p1), .val (.int p2)] [.int 1]) _
    refine XS.ifYes X81.here hx rfl (pc0 := 3) (pc' := 28) rfl (hb hby d30_3) rfl ((if0 _ _).trans (feq (by decide : ¬ ((1 : Int32) = (0 : Int32)))).2) (by decide) (by decide) ?_
    show own_S p e below T81 (mkF m 28 #[.val (.ref a0), .val (.int p1), .val (.int p2)] []) _
    refine XS.iloadN X81.here hx rfl (hb hby d30_28) rfl ?_
    refine XS.iconst X81.here hx rfl (hb hby d30_29) ?_
    refine XS.ishl X81.here hx rfl (hb hby d30_30) rfl ?_
    refine XS.istoreN X81.here hx rfl (hb hby d30_31) rfl (l' := #[.val (.ref a0), .val (.int (p1 <<< ((1 : Int32) &&& 31))), .val (.int p2)]) rfl ?_
    show own_S p e below T81 (mkF m 32 #[.val (.ref a0), .val (.int (p1 <<< ((1 : Int32) &&& 31))), .val (.int p2)] []) _
    refine XS.aloadN X81.here hx rfl (hb hby d30_32) rfl rfl ?_
    refine XS.iloadN X81.here hx rfl (hb hby d30_33) rfl ?_
    show own_S p e below T81 (mkF m 34 #[.val (.ref a0), .val (.int (p1 <<< ((1 : Int32) &&& 31))), .val (.int p2)] [(.int (p1 <<< ((1 : Int32) &&& 31))), (.ref a0)]) _
    refine XS.iinc X81.here hx rfl (hb hby d30_34) rfl (l' := #[.val (.ref a0), .val (.int ((p1 <<< ((1 : Int32) &&& 31)) + (1 : Int32))), .val (.int p2)]) rfl ?_
    show own_S p e below T81 (mkF m 37 #[.val (.ref a0), .val (.int ((p1 <<< ((1 : Int32) &&& 31)) + (1 : Int32))), .val (.int p2)] [(.int (p1 <<< ((1 : Int32) &&& 31))), (.ref a0)]) _
    refine XS.iloadN X81.here hx rfl (hb hby d30_37) rfl ?_
    show own_S p e below T81 (mkF m 38 #[.val (.ref a0), .val (.int ((p1 <<< ((1 : Int32) &&& 31)) + (1 : Int32))), .val (.int p2)] [(.int p2), (.int (p1 <<< ((1 : Int32) &&& 31))), (.ref a0)]) _
    refine st82 _ ?_
    show own_S p e below T82 (mkF m 41 #[.val (.ref a0), .val (.int ((p1 <<< ((1 : Int32) &&& 31)) + (1 : Int32))), .val (.int p2)] [.int 0, (.int p2), (.int (p1 <<< ((1 : Int32) &&& 31))), (.ref a0)]) _
    refine XS.ishr X82.here hx rfl (hb hby d30_41) rfl ?_
    refine XS.i2b X82.here hx rfl (hb hby d30_42) rfl ?_
    show own_S p e below T82 (mkF m 43 #[.val (.ref a0), .val (.int ((p1 <<< ((1 : Int32) &&& 31)) + (1 : Int32))), .val (.int p2)] [(.int ((p2 >>> ((0 : Int32) &&& 31)).toInt8.toInt32)), (.int (p1 <<< ((1 : Int32) &&& 31))), (.ref a0)]) _
    refine st83 _ ?_
    show own_S p e below T83 (mkF m 44 #[.val (.ref a0), .val (.int ((p1 <<< ((1 : Int32) &&& 31)) + (1 : Int32))), .val (.int p2)] []) _
    refine XS.aloadN X83.here hx rfl (hb hby d30_44) rfl rfl ?_
    refine XS.iloadN X83.here hx rfl (hb hby d30_45) rfl ?_
    refine XS.iloadN X83.here hx rfl (hb hby d30_46) rfl ?_
    show own_S p e below T83 (mkF m 47 #[.val (.ref a0), .val (.int ((p1 <<< ((1 : Int32) &&& 31)) + (1 : Int32))), .val (.int p2)] [(.int p2), (.int ((p1 <<< ((1 : Int32) &&& 31)) + (1 : Int32))), (.ref a0)]) _
    refine st87 _ ?_
    show own_S p e below T87 (mkF m 50 #[.val (.ref a0), .val (.int ((p1 <<< ((1 : Int32) &&& 31)) + (1 : Int32))), .val (.int p2)] [.int 8, (.int p2), (.int ((p1 <<< ((1 : Int32) &&& 31)) + (1 : Int32))), (.ref a0)]) _
    refine XS.ishr X87.here hx rfl (hb hby d30_50) rfl ?_
    refine XS.i2b X87.here hx rfl (hb hby d30_51) rfl ?_
    show own_S p e below T87 (mkF m 52 #[.val (.ref a0), .val (.int ((p1 <<< ((1 : Int32) &&& 31)) + (1 : Int32))), .val (.int p2)] [(.int ((p2 >>> ((8 : Int32) &&& 31)).toInt8.toInt32)), (.int ((p1 <<< ((1 : Int32) &&& 31)) + (1 : Int32))), (.ref a0)]) _
    refine st88 _ ?_
    show own_S p e below T88 (mkF m 53 #[.val (.ref a0), .val (.int ((p1 <<< ((1 : Int32) &&& 31)) + (1 : Int32))), .val (.int p2)] []) _
    exact X88.returnOut hx Bd.returns (hb hby d30_53) hr
  · show Q30 Z a0 p1 p2 kb nb bs h0 n0 _ T88.heap _
    rw [e88]
    exact ⟨rfl, N88, kp91, V88⟩
theorem ef_18 (m : MethodId) (a0 : Addr) (p1 : Int32) : entryFrame m #[(.ref a0), (.int p1)] 2 = mkF m 0 #[.val (.ref a0), .val (.int p1)] [] := by first | (simp [entryFrame, mkF, argsToLocals, Value.category]; done) | rfl
theorem d18_0 : decode jdk_52_method_15_code 0 = .ok (.iload_n 1, 1) := by decide +kernel
theorem d18_1 : decode jdk_52_method_15_code 1 = .ok (.aload_n 0, 1) := by decide +kernel
theorem d18_2 : decode jdk_52_method_15_code 2 = .ok (.arraylength, 1) := by decide +kernel
theorem d18_3 : decode jdk_52_method_15_code 3 = .ok (.isub, 1) := by decide +kernel
theorem d18_4 : decode jdk_52_method_15_code 4 = .ok (.bipush 31, 2) := by decide +kernel
theorem d18_6 : decode jdk_52_method_15_code 6 = .ok (.iushr, 1) := by decide +kernel
theorem d18_7 : decode jdk_52_method_15_code 7 = .ok (.i2b, 1) := by decide +kernel
theorem d18_8 : decode jdk_52_method_15_code 8 = .ok (.ireturn, 1) := by decide +kernel
def Q18 (Z : State) (a0 : Addr) (p1 : Int32) (kb : ClassId) (nb : Int32) (bs : List Value) (res : Int32) (h0 : Heap) (n0 : Nat) (v : Option Value) (h : Heap) (L : List Loc) : Prop := v = some (.int res) ∧ Fr n0 L ∧ h = h0
set_option maxRecDepth 65536 in
set_option maxHeartbeats 40000000 in
theorem rm18 (l : Launch) (Z : State) (ag : Array Value) (hw : ∀ d ∈ tables_1, d.before ag Z = true) (ws : List Jvm.Cond) (a0 : Addr) (p1 : Int32) (kb : ClassId) (nb : Int32) (bs : List Value) (res : Int32) (h0 : Heap) (n0 : Nat) (Z0 : n0 ≤ h0.size) (V_a0 : Arv Z h0 a0 kb .byte nb bs (.int (0 : Int32))) (hres : (nar .byte ((own_ushr (p1 - nb) (31 : Int32)).toInt8.toInt32)) = res) :
    MetFree l (⟨"java/lang/StringUTF16", "coderFromArrayLen", "([BI)B"⟩ : MethodName) (head1 (Jvm.Cond.code (⟨"java/lang/StringUTF16", "coderFromArrayLen", "([BI)B"⟩ : MethodName) jdk_52_method_15_code 2 (some .byte) :: ws) ({ frames := 0, cells := 0, slots := 0, locals := 0 } : Room)) (fun a U => a = #[(.ref a0), (.int p1)] ∧ Z.Warmed39 U.vm ∧ U.heap = h0) (fun _ _ _ _ _ => True) (fun _ U o U' => ∃ v L, o = .returned v ∧ Q18 Z a0 p1 kb nb bs res h0 n0 v U'.heap L ∧ FrameEnd U o U' L ({ frames := 0, cells := 0, slots := 0, locals := 0 } : Room).cells ({ frames := 0, cells := 0, slots := 0, locals := 0 } : Room).slots) := by
  refine MetFree.of_bodySF (plainFor_of_name pn_6) hisR ?_
  intro p e s m args below meth c s₁ Bd hml0 hP hK
  obtain ⟨rfl, hZ, hh⟩ := hP
  have hx := Bd.exec
  have hby := Bd.bytes
  have hml : c.maxLocals = 2 := hml0
  have hown : s.vm.findClass "java/lang/StringUTF16" = some m.cls := findClass_of_methodNamed Bd.named
  have hnm := (name_of_methodNamed Bd.named Bd.method).1
  have X0 : Stand p l e ({ frames := 0, cells := 0, slots := 0, locals := 0 } : Room) s m #[(.ref a0), (.int p1)] below meth c s₁ [] 0 0 := Stand.of_body Bd
  have e0 : s₁.heap = h0 := by rw [← hh, Bd.state]; rfl
  have N0 := Fr.nil n0
  have pre0 : ∀ t, Steps p.tables e below (s₁.setTop (mkF m 0 #[.val (.ref a0), .val (.int p1)] [])) t → Steps p.tables e below (s₁.setTop (entryFrame m #[(.ref a0), (.int p1)] 2)) t := fun t k => castTop (ef_18 m a0 p1) k
  obtain ⟨cl92, Ar92, -, S92, M92, -, -⟩ := id V_a0
  have ld92 := X0.arraylength hx (by rw [e0]; exact Ar92.1) (State.isArrayOf_alike hZ.alike Ar92.2.1) (g := (mkF m 2 #[.val (.ref a0), .val (.int p1)] [(.ref a0), (.int p1)])) rfl rfl (hb hby d18_2)
  obtain ⟨fs, hr, hrun, hended, hW, hsame⟩ := X0.leave (v := some (.int (nar .byte ((own_ushr (p1 - nb) (31 : Int32)).toInt8.toInt32)))) (fun h => by rw [Bd.returns] at h; cases h)
  refine ⟨_, _, pre0 _ ?_, hrun, hended, _, _, rfl, ?_, ⟨_, rfl⟩, hW, hsame.mono (by decide) (by decide)⟩
  · show own_S p e below s₁ (mkF m 0 #[.val (.ref a0), .val (.int p1)] []) _
    refine XS.iloadN X0.here hx rfl (hb hby d18_0) rfl ?_
    refine XS.aloadN X0.here hx rfl (hb hby d18_1) rfl rfl ?_
    show own_S p e below s₁ (mkF m 2 #[.val (.ref a0), .val (.int p1)] [(.ref a0), (.int p1)]) _
    refine ld92 _ ?_
    rw [len_of S92 M92]
    show own_S p e below s₁ (mkF m 3 #[.val (.ref a0), .val (.int p1)] [(.int nb), (.int p1)]) _
    refine XS.isub X0.here hx rfl (hb hby d18_3) rfl ?_
    refine XS.bipush X0.here hx rfl (hb hby d18_4) ?_
    refine XS.iushr X0.here hx rfl (hb hby d18_6) rfl ?_
    refine XS.i2b X0.here hx rfl (hb hby d18_7) rfl ?_
    show own_S p e below s₁ (mkF m 8 #[.val (.ref a0), .val (.int p1)] [(.int ((own_ushr (p1 - nb) (31 : Int32)).toInt8.toInt32))]) _
    exact retN X0 hx (t := .byte) Bd.returns (by simp) (hb hby d18_8) hr
  · show Q18 Z a0 p1 kb nb bs res h0 n0 _ s₁.heap _
    rw [e0]
    exact ⟨congrArg (fun z => some (Value.int z)) hres, N0, rfl⟩
theorem ef_29 (m : MethodId) (p0 : Int32) : entryFrame m #[(.int p0)] 1 = mkF m 0 #[.val (.int p0)] [] := by first | (simp [entryFrame, mkF, argsToLocals, Value.category]; done) | rfl
theorem d29_0 : decode jdk_52_method_3_code 0 = .ok (.iload_n 0, 1) := by decide +kernel
theorem d29_1 : decode jdk_52_method_3_code 1 = .ok (.ifCond .ge 11, 3) := by decide +kernel
theorem d29_12 : decode jdk_52_method_3_code 12 = .ok (.iload_n 0, 1) := by decide +kernel
theorem d29_13 : decode jdk_52_method_3_code 13 = .ok (.ldc 20, 2) := by decide +kernel
theorem d29_15 : decode jdk_52_method_3_code 15 = .ok (.if_icmp .lt 40, 3) := by decide +kernel
theorem d29_55 : decode jdk_52_method_3_code 55 = .ok (.iload_n 0, 1) := by decide +kernel
theorem d29_56 : decode jdk_52_method_3_code 56 = .ok (.iconst 1, 1) := by decide +kernel
theorem d29_57 : decode jdk_52_method_3_code 57 = .ok (.ishl, 1) := by decide +kernel
theorem d29_58 : decode jdk_52_method_3_code 58 = .ok (.ireturn, 1) := by decide +kernel
def Q29 (Z : State) (p0 : Int32) (res : Int32) (h0 : Heap) (n0 : Nat) (v : Option Value) (h : Heap) (L : List Loc) : Prop := v = some (.int res) ∧ Fr n0 L ∧ h = h0
set_option maxRecDepth 65536 in
set_option maxHeartbeats 40000000 in
theorem rm29 (l : Launch) (Z : State) (ag : Array Value) (hw : ∀ d ∈ tables_1, d.before ag Z = true) (ws : List Jvm.Cond) (p0 : Int32) (res : Int32) (h0 : Heap) (n0 : Nat) (Z0 : n0 ≤ h0.size) (h1 : ¬ p0 < (0 : Int32)) (h2 : p0 < (1073741823 : Int32)) (hres : (p0 <<< ((1 : Int32) &&& 31)) = res) :
    MetFree l (⟨"java/lang/StringUTF16", "newBytesLength", "(I)I"⟩ : MethodName) (head1 (Jvm.Cond.code (⟨"java/lang/StringUTF16", "newBytesLength", "(I)I"⟩ : MethodName) jdk_52_method_3_code 1 (some .int) :: ws) ({ frames := 0, cells := 0, slots := 0, locals := 0 } : Room)) (fun a U => a = #[(.int p0)] ∧ Z.Warmed39 U.vm ∧ U.heap = h0) (fun _ _ _ _ _ => True) (fun _ U o U' => ∃ v L, o = .returned v ∧ Q29 Z p0 res h0 n0 v U'.heap L ∧ FrameEnd U o U' L ({ frames := 0, cells := 0, slots := 0, locals := 0 } : Room).cells ({ frames := 0, cells := 0, slots := 0, locals := 0 } : Room).slots) := by
  refine MetFree.of_bodySF (plainFor_of_name pn_6) hisR ?_
  intro p e s m args below meth c s₁ Bd hml0 hP hK
  obtain ⟨rfl, hZ, hh⟩ := hP
  have hx := Bd.exec
  have hby := Bd.bytes
  have hml : c.maxLocals = 1 := hml0
  have hown : s.vm.findClass "java/lang/StringUTF16" = some m.cls := findClass_of_methodNamed Bd.named
  have hnm := (name_of_methodNamed Bd.named Bd.method).1
  have X0 : Stand p l e ({ frames := 0, cells := 0, slots := 0, locals := 0 } : Room) s m #[(.int p0)] below meth c s₁ [] 0 0 := Stand.of_body Bd
  have e0 : s₁.heap = h0 := by rw [← hh, Bd.state]; rfl
  have N0 := Fr.nil n0
  have pre0 : ∀ t, Steps p.tables e below (s₁.setTop (mkF m 0 #[.val (.int p0)] [])) t → Steps p.tables e below (s₁.setTop (entryFrame m #[(.int p0)] 1)) t := fun t k => castTop (ef_29 m p0) k
  obtain ⟨fs, hr, hrun, hended, hW, hsame⟩ := X0.leave (v := some (.int (p0 <<< ((1 : Int32) &&& 31)))) (fun h => by rw [Bd.returns] at h; cases h)
  refine ⟨_, _, pre0 _ ?_, hrun, hended, _, _, rfl, ?_, ⟨_, rfl⟩, hW, hsame.mono (by decide) (by decide)⟩
  · show own_S p e below s₁ (mkF m 0 #[.val (.int p0)] []) _
    refine XS.iloadN X0.here hx rfl (hb hby d29_0) rfl ?_
    refine XS.ifYes X0.here hx rfl (pc0 := 1) (pc' := 12) rfl (hb hby d29_1) rfl ((if0 _ _).trans (flt (show ¬ (p0 < (0 : Int32)) from h1)).2.1) (by decide) (by decide) ?_
    show own_S p e below s₁ (mkF m 12 #[.val (.int p0)] []) _
    refine XS.iloadN X0.here hx rfl (hb hby d29_12) rfl ?_
    refine X0.ldcInt hx hown (mvT hZ (own_wk hw 126 rfl)) (g := (mkF m 13 #[.val (.int p0)] [(.int p0)])) rfl (hb hby d29_13) _ ?_
    show own_S p e below s₁ (mkF m 15 #[.val (.int p0)] [.int 1073741823, (.int p0)]) _
    refine XS.icmpYes X0.here hx rfl (pc0 := 15) (pc' := 55) rfl (hb hby d29_15) rfl (tlt (show p0 < (1073741823 : Int32) from h2)).1 (by decide) (by decide) ?_
    show own_S p e below s₁ (mkF m 55 #[.val (.int p0)] []) _
    refine XS.iloadN X0.here hx rfl (hb hby d29_55) rfl ?_
    refine XS.iconst X0.here hx rfl (hb hby d29_56) ?_
    refine XS.ishl X0.here hx rfl (hb hby d29_57) rfl ?_
    show own_S p e below s₁ (mkF m 58 #[.val (.int p0)] [(.int (p0 <<< ((1 : Int32) &&& 31)))]) _
    exact retI X0 hx Bd.returns (hb hby d29_58) hr
  · show Q29 Z p0 res h0 n0 _ s₁.heap _
    rw [e0]
    exact ⟨congrArg (fun z => some (Value.int z)) hres, N0, rfl⟩
theorem ef_28 (m : MethodId) (p0 : Int32) : entryFrame m #[(.int p0)] 1 = mkF m 0 #[.val (.int p0)] [] := by first | (simp [entryFrame, mkF, argsToLocals, Value.category]; done) | rfl
theorem d28_0 : decode jdk_52_method_2_code 0 = .ok (.iload_n 0, 1) := by decide +kernel
theorem pd_6 : parseMethodDescriptor "(I)I" = some ⟨[.int], some .int⟩ := by decide +kernel
theorem d28_1 : decode jdk_52_method_2_code 1 = .ok (.invokestatic 11, 3) := by decide +kernel
theorem d28_4 : decode jdk_52_method_2_code 4 = .ok (.newarray .byte, 2) := by decide +kernel
theorem d28_6 : decode jdk_52_method_2_code 6 = .ok (.areturn, 1) := by decide +kernel
def Q28 (Z : State) (p0 : Int32) (res : Int32) (h0 : Heap) (n0 : Nat) (v : Option Value) (h : Heap) (L : List Loc) : Prop := ∃ (r : Addr) (kb : ClassId), v = some (.ref r) ∧ Fr n0 L ∧ Keep h0 h [] ∧ n0 ≤ r ∧ h0.size ≤ r ∧ Arv Z h r kb .byte res [] (.int (0 : Int32))
set_option maxRecDepth 65536 in
set_option maxHeartbeats 40000000 in
theorem rm28 (l : Launch) (Z : State) (ag : Array Value) (hw : ∀ d ∈ tables_1, d.before ag Z = true) (ws : List Jvm.Cond) (p0 : Int32) (res : Int32) (h0 : Heap) (n0 : Nat) (Z0 : n0 ≤ h0.size) (h1 : ¬ p0 < (0 : Int32)) (h2 : p0 < (1073741823 : Int32)) (hres : (p0 <<< ((1 : Int32) &&& 31)) = res) (hn : ¬ res < 0) (hc : res.toNatClampNeg ≤ 8) :
    MetFree l (⟨"java/lang/StringUTF16", "newBytesFor", "(I)[B"⟩ : MethodName) (head1 (Jvm.Cond.code (⟨"java/lang/StringUTF16", "newBytesFor", "(I)[B"⟩ : MethodName) jdk_52_method_2_code 1 (some (.array .byte)) :: ws) ({ frames := 1, cells := 1, slots := 8, locals := 12 } : Room)) (fun a U => a = #[(.int p0)] ∧ Z.Warmed39 U.vm ∧ U.heap = h0) (fun _ _ _ _ _ => True) (fun _ U o U' => ∃ v L, o = .returned v ∧ Q28 Z p0 res h0 n0 v U'.heap L ∧ FrameEnd U o U' L ({ frames := 1, cells := 1, slots := 8, locals := 12 } : Room).cells ({ frames := 1, cells := 1, slots := 8, locals := 12 } : Room).slots) := by
  refine MetFree.of_bodySF (plainFor_of_name pn_6) hisR ?_
  intro p e s m args below meth c s₁ Bd hml0 hP hK
  obtain ⟨rfl, hZ, hh⟩ := hP
  have hx := Bd.exec
  have hby := Bd.bytes
  have hml : c.maxLocals = 1 := hml0
  have hown : s.vm.findClass "java/lang/StringUTF16" = some m.cls := findClass_of_methodNamed Bd.named
  have hnm := (name_of_methodNamed Bd.named Bd.method).1
  have X0 : Stand p l e ({ frames := 1, cells := 1, slots := 8, locals := 12 } : Room) s m #[(.int p0)] below meth c s₁ [] 0 0 := Stand.of_body Bd
  have e0 : s₁.heap = h0 := by rw [← hh, Bd.state]; rfl
  have N0 := Fr.nil n0
  have pre0 : ∀ t, Steps p.tables e below (s₁.setTop (mkF m 0 #[.val (.int p0)] [])) t → Steps p.tables e below (s₁.setTop (entryFrame m #[(.int p0)] 1)) t := fun t k => castTop (ef_28 m p0) k
  obtain ⟨_, _, ⟨T93, L93, k93, n93⟩, -, X93, ⟨Lc93, hQ93, l93, y93, z93⟩, st93⟩ := Jvm.LawKit.callS X0 hx (y := (⟨"java/lang/StringUTF16", "newBytesLength", "(I)I"⟩ : MethodName)) hown (mvT hZ (own_wk hw 123 rfl)) (mvT hZ (own_wk hw 124 rfl)) (mvT hZ (own_wk hw 77 rfl)) (mvT hZ (own_wk hw 125 rfl)) (by decide) (backOf (W := 0) (rm29 l Z ag hw [] p0 res h0 n0 Z0 h1 h2 hres) hZ (own_wk hw 125 rfl) (own_wk hw 77 rfl) (by decide) (by decide)) (g := (mkF m 1 #[.val (.int p0)] [(.int p0)])) rfl (by rw [hml]; rfl) (argsL := [(.int p0)]) (rest := []) (lenOf pd_6 rfl) rfl (by show 2 * 0 + _ ≤ _; exact Nat.le_of_eq rfl) (hb hby d28_1) (fun _ _ => ⟨rfl, e0, (by decide : 0 + 0 ≤ _), (by decide : 0 + 0 ≤ _)⟩)
  dsimp only [Pt.U, Pt.locs, Pt.cells, Pt.slots] at X93 l93 y93 z93 st93 hQ93
  subst l93 y93 z93
  obtain ⟨rfl, N93q, e93⟩ := hQ93
  have N93 := Fr.app N0 N93q
  obtain ⟨T94, h94, k94, X94, e94, E94, A94, st94⟩ := newP X93 hx hZ (own_wk hw 7 rfl) e93 (g := (mkF m 4 #[.val (.int p0)] [(.int res)])) rfl (hb hby d28_4) rfl hn (cap := 8) hc (by decide) (by decide) (by decide)
  obtain ⟨b94, g94⟩ : ∃ z, z = h0.size := ⟨_, rfl⟩
  have ge_b94 : n0 ≤ b94 := Nat.le_trans Z0 (Nat.le_of_eq g94.symm)
  have gs_b94 : h0.size ≤ b94 := Nat.le_trans (Keep.refl h0 []).1 (Nat.le_of_eq g94.symm)
  rw [← g94] at A94 st94
  have sz95 : n0 ≤ h94.size := Nat.le_trans Z0 E94.1
  have kp96 : Keep h0 h94 [] := (Keep.refl h0 []).ext E94
  have V94 : Arv Z h94 b94 k94 .byte res [] (.int (0 : Int32)) := Arv.new A94 hn
  obtain ⟨fs, hr, hrun, hended, hW, hsame⟩ := X94.leave (v := some (.ref b94)) (fun h => by rw [Bd.returns] at h; cases h)
  refine ⟨_, _, pre0 _ ?_, hrun, hended, _, _, rfl, ?_, ⟨_, rfl⟩, hW, hsame.mono (by decide) (by decide)⟩
  · show own_S p e below s₁ (mkF m 0 #[.val (.int p0)] []) _
    refine XS.iloadN X0.here hx rfl (hb hby d28_0) rfl ?_
    show own_S p e below s₁ (mkF m 1 #[.val (.int p0)] [(.int p0)]) _
    refine st93 _ ?_
    show own_S p e below T93 (mkF m 4 #[.val (.int p0)] [(.int res)]) _
    refine st94 _ ?_
    show own_S p e below T94 (mkF m 6 #[.val (.int p0)] [(.ref b94)]) _
    exact Jvm.RoadKit.retOut X94 hx Bd.returns rfl (Or.inr (Or.inr (Or.inr (Or.inr ⟨rfl, rfl, rfl⟩)))) (hb hby d28_6) hr
  · show Q28 Z p0 res h0 n0 _ T94.heap _
    rw [e94]
    exact ⟨b94, k94, rfl, N93, kp96, ge_b94, gs_b94, V94⟩
theorem ef_27_v01 (m : MethodId) (a0 : Addr) : entryFrame m #[(.ref a0), (.int (0 : Int32)), (.int (1 : Int32))] 5 = mkF m 0 #[.val (.ref a0), .val (.int 0), .val (.int 1), .unset, .unset] [] := by first | (simp [entryFrame, mkF, argsToLocals, Value.category]; done) | rfl
theorem d27_0 : decode jdk_52_method_14_code 0 = .ok (.iload_n 2, 1) := by decide +kernel
theorem pd_8 : parseMethodDescriptor "(I)[B" = some ⟨[.int], some (.array .byte)⟩ := by decide +kernel
theorem d27_1 : decode jdk_52_method_14_code 1 = .ok (.invokestatic 107, 3) := by decide +kernel
theorem d27_4 : decode jdk_52_method_14_code 4 = .ok (.astore_n 3, 1) := by decide +kernel
theorem d27_5 : decode jdk_52_method_14_code 5 = .ok (.iconst 0, 1) := by decide +kernel
theorem d27_6 : decode jdk_52_method_14_code 6 = .ok (.istore 4, 2) := by decide +kernel
theorem d27_8 : decode jdk_52_method_14_code 8 = .ok (.iload 4, 2) := by decide +kernel
theorem d27_10 : decode jdk_52_method_14_code 10 = .ok (.iload_n 2, 1) := by decide +kernel
theorem d27_11 : decode jdk_52_method_14_code 11 = .ok (.if_icmp .ge 21, 3) := by decide +kernel
theorem d27_14 : decode jdk_52_method_14_code 14 = .ok (.aload_n 3, 1) := by decide +kernel
theorem d27_15 : decode jdk_52_method_14_code 15 = .ok (.iload 4, 2) := by decide +kernel
theorem d27_17 : decode jdk_52_method_14_code 17 = .ok (.aload_n 0, 1) := by decide +kernel
theorem d27_18 : decode jdk_52_method_14_code 18 = .ok (.iload_n 1, 1) := by decide +kernel
theorem d27_19 : decode jdk_52_method_14_code 19 = .ok (.caload, 1) := by decide +kernel
theorem pd_20 : parseMethodDescriptor "([BII)V" = some ⟨[(.array .byte), .int, .int], none⟩ := by decide +kernel
theorem d27_20 : decode jdk_52_method_14_code 20 = .ok (.invokestatic 111, 3) := by decide +kernel
theorem d27_23 : decode jdk_52_method_14_code 23 = .ok (.iinc 1 1, 3) := by decide +kernel
theorem d27_26 : decode jdk_52_method_14_code 26 = .ok (.iinc 4 1, 3) := by decide +kernel
theorem d27_29 : decode jdk_52_method_14_code 29 = .ok (.goto (-21), 3) := by decide +kernel
theorem d27_32 : decode jdk_52_method_14_code 32 = .ok (.aload_n 3, 1) := by decide +kernel
theorem d27_33 : decode jdk_52_method_14_code 33 = .ok (.areturn, 1) := by decide +kernel
def Q27_s1 (Z : State) (a0 : Addr) (kc : ClassId) (c0 : Int32) (h0 : Heap) (n0 : Nat) (v : Option Value) (h : Heap) (L : List Loc) : Prop := ∃ (r : Addr) (kb : ClassId), v = some (.ref r) ∧ Fr n0 L ∧ Keep h0 h [] ∧ n0 ≤ r ∧ h0.size ≤ r ∧ Arv Z h r kb .byte (2 : Int32) [(.int (nar .byte ((c0 >>> ((0 : Int32) &&& 31)).toInt8.toInt32))), (.int (nar .byte ((c0 >>> ((8 : Int32) &&& 31)).toInt8.toInt32)))] (.int (0 : Int32))
set_option maxRecDepth 65536 in
set_option maxHeartbeats 40000000 in
theorem rm27_s1 (l : Launch) (Z : State) (ag : Array Value) (hw : ∀ d ∈ tables_1, d.before ag Z = true) (ws : List Jvm.Cond) (a0 : Addr) (kc : ClassId) (c0 : Int32) (h0 : Heap) (n0 : Nat) (Z0 : n0 ≤ h0.size) (V_a0 : Arv Z h0 a0 kc .char (1 : Int32) [(.int c0)] (.int (0 : Int32))) (hr_c0 : 0 ≤ c0.toInt ∧ c0.toInt < 65536) (O_ : Old Z n0 h0) (S_ad : Sta Z Z.heap "java/lang/StringUTF16" "$assertionsDisabled" "Z" (.int (1 : Int32))) (S_hi : Sta Z Z.heap "java/lang/StringUTF16" "HI_BYTE_SHIFT" "I" (.int (0 : Int32))) (S_lo : Sta Z Z.heap "java/lang/StringUTF16" "LO_BYTE_SHIFT" "I" (.int (8 : Int32))) :
    MetFree l (⟨"java/lang/StringUTF16", "toBytes", "([CII)[B"⟩ : MethodName) (head1 (Jvm.Cond.code (⟨"java/lang/StringUTF16", "toBytes", "([CII)[B"⟩ : MethodName) jdk_52_method_14_code 5 (some (.array .byte)) :: ws) ({ frames := 2, cells := 1, slots := 8, locals := 24 } : Room)) (fun a U => a = #[(.ref a0), (.int (0 : Int32)), (.int (1 : Int32))] ∧ Z.Warmed39 U.vm ∧ U.heap = h0) (fun _ _ _ _ _ => True) (fun _ U o U' => ∃ v L, o = .returned v ∧ Q27_s1 Z a0 kc c0 h0 n0 v U'.heap L ∧ FrameEnd U o U' L ({ frames := 2, cells := 1, slots := 8, locals := 24 } : Room).cells ({ frames := 2, cells := 1, slots := 8, locals := 24 } : Room).slots) := by
  refine MetFree.of_bodySF (plainFor_of_name pn_6) hisR ?_
  intro p e s m args below meth c s₁ Bd hml0 hP hK
  obtain ⟨rfl, hZ, hh⟩ := hP
  have hx := Bd.exec
  have hby := Bd.bytes
  have hml : c.maxLocals = 5 := hml0
  have hown : s.vm.findClass "java/lang/StringUTF16" = some m.cls := findClass_of_methodNamed Bd.named
  have hnm := (name_of_methodNamed Bd.named Bd.method).1
  have X0 : Stand p l e ({ frames := 2, cells := 1, slots := 8, locals := 24 } : Room) s m #[(.ref a0), (.int (0 : Int32)), (.int (1 : Int32))] below meth c s₁ [] 0 0 := Stand.of_body Bd
  have e0 : s₁.heap = h0 := by rw [← hh, Bd.state]; rfl
  have N0 := Fr.nil n0
  have pre0 : ∀ t, Steps p.tables e below (s₁.setTop (mkF m 0 #[.val (.ref a0), .val (.int 0), .val (.int 1), .unset, .unset] [])) t → Steps p.tables e below (s₁.setTop (entryFrame m #[(.ref a0), (.int (0 : Int32)), (.int (1 : Int32))] 5)) t := fun t k => castTop (ef_27_v01 m a0) k
  obtain ⟨_, _, ⟨T97, L97, k97, n97⟩, -, X97, ⟨Lc97, hQ97, l97, y97, z97⟩, st97⟩ := Jvm.LawKit.callS X0 hx (y := (⟨"java/lang/StringUTF16", "newBytesFor", "(I)[B"⟩ : MethodName)) hown (mvT hZ (own_wk hw 120 rfl)) (mvT hZ (own_wk hw 121 rfl)) (mvT hZ (own_wk hw 77 rfl)) (mvT hZ (own_wk hw 122 rfl)) (by decide) (backOf (W := 0) (rm28 l Z ag hw [] (1 : Int32) (2 : Int32) h0 n0 Z0 (by decide) (by decide) (by decide) (by decide) (by decide)) hZ (own_wk hw 122 rfl) (own_wk hw 77 rfl) (by decide) (by decide)) (g := (mkF m 1 #[.val (.ref a0), .val (.int 0), .val (.int 1), .unset, .unset] [.int 1])) rfl (by rw [hml]; rfl) (argsL := [(.int (1 : Int32))]) (rest := []) (lenOf pd_8 rfl) rfl (by show 2 * 0 + _ ≤ _; exact Nat.le_of_eq rfl) (hb hby d27_1) (fun _ _ => ⟨rfl, e0, (by decide : 0 + 1 ≤ _), (by decide : 0 + 8 ≤ _)⟩)
  dsimp only [Pt.U, Pt.locs, Pt.cells, Pt.slots] at X97 l97 y97 z97 st97 hQ97
  subst l97 y97 z97
  obtain ⟨r97, kr97, rfl, N97q, K97, ge_r97, gq_r97, Vr97⟩ := hQ97
  have N97 := Fr.app N0 N97q
  have Vr97 : Arv Z T97.heap r97 kr97 .byte (2 : Int32) [(.int (0 : Int32)), (.int (0 : Int32))] (.int (0 : Int32)) := Vr97.pad (pad_rep [] (.int (0 : Int32)) 2)
  have ne98 : a0 ≠ r97 := Nat.ne_of_lt (Nat.lt_of_lt_of_le V_a0.lt gq_r97)
  have gs_r97 : h0.size ≤ r97 := Nat.le_trans (Keep.refl h0 []).1 gq_r97
  have x99 := V_a0.keep K97 nin0
  have x100 := O_.keep K97 all0
  have sz101 : n0 ≤ T97.heap.size := Nat.le_trans Z0 K97.1
  have kp102 : Keep h0 T97.heap [] := (Keep.refl h0 []).trans K97 all0
  obtain ⟨cl103, Ar103, q103, S103, M103, H103, G103⟩ := id x99
  have hin103 : ¬ ((0 : Int32) < 0 ∨ cl103.slots.size ≤ ((0 : Int32)).toNatClampNeg) := inb_of S103 ⟨(by decide : ¬ (0 : Int32) < 0), (by decide : (0 : Int32) < (1 : Int32))⟩
  have hat103 : cl103.slots[((0 : Int32)).toNatClampNeg]? = some (.int c0) := Has.at H103 hin103 rfl
  have ld103 := X97.caload hx (j := (0 : Int32)) (v := (.int c0)) Ar103.1 (State.isArrayOf_alike hZ.alike Ar103.2.1) Ar103.2.2 hin103 hat103 (g := (mkF m 19 #[.val (.ref a0), .val (.int 0), .val (.int 1), .val (.ref r97), .val (.int 0)] [.int 0, (.ref a0), .int 0, (.ref r97)])) rfl rfl (hb hby d27_19)
  obtain ⟨_, _, ⟨T104, L104, k104, n104⟩, -, X104, ⟨Lc104, hQ104, l104, y104, z104⟩, st104⟩ := Jvm.LawKit.callS X97 hx (y := (⟨"java/lang/StringUTF16", "putChar", "([BII)V"⟩ : MethodName)) hown (mvT hZ (own_wk hw 127 rfl)) (mvT hZ (own_wk hw 128 rfl)) (mvT hZ (own_wk hw 77 rfl)) (mvT hZ (own_wk hw 129 rfl)) (by decide) (backOf (W := 0) (rm30 l Z ag hw [] r97 (0 : Int32) c0 kr97 (2 : Int32) [(.int (0 : Int32)), (.int (0 : Int32))] T97.heap n0 sz101 Vr97 ge_r97 (by decide) (by decide) (Nat.le_of_ble_eq_true rfl) (Nat.le_of_ble_eq_true rfl) x100 S_ad S_hi S_lo) hZ (own_wk hw 129 rfl) (own_wk hw 77 rfl) (by decide) (by decide)) (g := (mkF m 20 #[.val (.ref a0), .val (.int 0), .val (.int 1), .val (.ref r97), .val (.int 0)] [(.int c0), .int 0, (.ref r97)])) rfl (by rw [hml]; rfl) (argsL := [(.ref r97), (.int (0 : Int32)), (.int c0)]) (rest := []) (lenOf pd_20 rfl) rfl (by show 2 * 0 + _ ≤ _; exact Nat.le_of_eq rfl) (hb hby d27_20) (fun _ _ => ⟨rfl, rfl, (by decide : 1 + 0 ≤ _), (by decide : 8 + 0 ≤ _)⟩)
  dsimp only [Pt.U, Pt.locs, Pt.cells, Pt.slots] at X104 l104 y104 z104 st104 hQ104
  subst l104 y104 z104
  obtain ⟨rfl, N104q, K104, Vb104⟩ := hQ104
  have N104 := Fr.app N97 N104q
  have Vb104 : Arv Z T104.heap r97 kr97 .byte (2 : Int32) [(.int (nar .byte ((c0 >>> ((0 : Int32) &&& 31)).toInt8.toInt32))), (.int (nar .byte ((c0 >>> ((8 : Int32) &&& 31)).toInt8.toInt32)))] (.int (0 : Int32)) := Vb104
  have x105 := x99.keep K104 (ninS ne98 nin0)
  have x106 := x100.keep K104 (allS ge_r97 all0)
  have sz107 : n0 ≤ T104.heap.size := Nat.le_trans sz101 K104.1
  have kp108 : Keep h0 T104.heap [] := kp102.trans K104 (allS (Or.inr gs_r97) all0)
  obtain ⟨fs, hr, hrun, hended, hW, hsame⟩ := X104.leave (v := some (.ref r97)) (fun h => by rw [Bd.returns] at h; cases h)
  refine ⟨_, _, pre0 _ ?_, hrun, hended, _, _, rfl, ?_, ⟨_, rfl⟩, hW, hsame.mono (by decide) (by decide)⟩
  · show own_S p e below s₁ (mkF m 0 #[.val (.ref a0), .val (.int 0), .val (.int 1), .unset, .unset] []) _
    refine XS.iloadN X0.here hx rfl (hb hby d27_0) rfl ?_
    show own_S p e below s₁ (mkF m 1 #[.val (.ref a0), .val (.int 0), .val (.int 1), .unset, .unset] [.int 1]) _
    refine st97 _ ?_
    show own_S p e below T97 (mkF m 4 #[.val (.ref a0), .val (.int 0), .val (.int 1), .unset, .unset] [(.ref r97)]) _
    refine XS.astoreN X97.here hx rfl (hb hby d27_4) rfl rfl (l' := #[.val (.ref a0), .val (.int 0), .val (.int 1), .val (.ref r97), .unset]) rfl ?_
    show own_S p e below T97 (mkF m 5 #[.val (.ref a0), .val (.int 0), .val (.int 1), .val (.ref r97), .unset] []) _
    refine XS.iconst X97.here hx rfl (hb hby d27_5) ?_
    refine XS.istore X97.here hx rfl (hb hby d27_6) rfl (l' := #[.val (.ref a0), .val (.int 0), .val (.int 1), .val (.ref r97), .val (.int 0)]) rfl ?_
    show own_S p e below T97 (mkF m 8 #[.val (.ref a0), .val (.int 0), .val (.int 1), .val (.ref r97), .val (.int 0)] []) _
    refine XS.iload X97.here hx rfl (hb hby d27_8) rfl ?_
    refine XS.iloadN X97.here hx rfl (hb hby d27_10) rfl ?_
    refine XS.icmpNo X97.here hx rfl (hb hby d27_11) rfl (tlt (by decide : (0 : Int32) < (1 : Int32))).2.1 ?_
    show own_S p e below T97 (mkF m 14 #[.val (.ref a0), .val (.int 0), .val (.int 1), .val (.ref r97), .val (.int 0)] []) _
    refine XS.aloadN X97.here hx rfl (hb hby d27_14) rfl rfl ?_
    refine XS.iload X97.here hx rfl (hb hby d27_15) rfl ?_
    refine XS.aloadN X97.here hx rfl (hb hby d27_17) rfl rfl ?_
    refine XS.iloadN X97.here hx rfl (hb hby d27_18) rfl ?_
    show own_S p e below T97 (mkF m 19 #[.val (.ref a0), .val (.int 0), .val (.int 1), .val (.ref r97), .val (.int 0)] [.int 0, (.ref a0), .int 0, (.ref r97)]) _
    refine ld103 _ ?_
    show own_S p e below T97 (mkF m 20 #[.val (.ref a0), .val (.int 0), .val (.int 1), .val (.ref r97), .val (.int 0)] [(.int c0), .int 0, (.ref r97)]) _
    refine st104 _ ?_
    show own_S p e below T104 (mkF m 23 #[.val (.ref a0), .val (.int 0), .val (.int 1), .val (.ref r97), .val (.int 0)] []) _
    refine XS.iinc X104.here hx rfl (hb hby d27_23) rfl (l' := #[.val (.ref a0), .val (.int 1), .val (.int 1), .val (.ref r97), .val (.int 0)]) rfl ?_
    show own_S p e below T104 (mkF m 26 #[.val (.ref a0), .val (.int 1), .val (.int 1), .val (.ref r97), .val (.int 0)] []) _
    refine XS.iinc X104.here hx rfl (hb hby d27_26) rfl (l' := #[.val (.ref a0), .val (.int 1), .val (.int 1), .val (.ref r97), .val (.int 1)]) rfl ?_
    show own_S p e below T104 (mkF m 29 #[.val (.ref a0), .val (.int 1), .val (.int 1), .val (.ref r97), .val (.int 1)] []) _
    refine XS.goto X104.here hx rfl (pc0 := 29) (pc' := 8) rfl (hb hby d27_29) (by decide) (by decide) ?_
    show own_S p e below T104 (mkF m 8 #[.val (.ref a0), .val (.int 1), .val (.int 1), .val (.ref r97), .val (.int 1)] []) _
    refine XS.iload X104.here hx rfl (hb hby d27_8) rfl ?_
    refine XS.iloadN X104.here hx rfl (hb hby d27_10) rfl ?_
    refine XS.icmpYes X104.here hx rfl (pc0 := 11) (pc' := 32) rfl (hb hby d27_11) rfl (flt (by decide : ¬ ((1 : Int32) < (1 : Int32)))).2.1 (by decide) (by decide) ?_
    show own_S p e below T104 (mkF m 32 #[.val (.ref a0), .val (.int 1), .val (.int 1), .val (.ref r97), .val (.int 1)] []) _
    refine XS.aloadN X104.here hx rfl (hb hby d27_32) rfl rfl ?_
    show own_S p e below T104 (mkF m 33 #[.val (.ref a0), .val (.int 1), .val (.int 1), .val (.ref r97), .val (.int 1)] [(.ref r97)]) _
    exact Jvm.RoadKit.retOut X104 hx Bd.returns rfl (Or.inr (Or.inr (Or.inr (Or.inr ⟨rfl, rfl, rfl⟩)))) (hb hby d27_33) hr
  · show Q27_s1 Z a0 kc c0 h0 n0 _ T104.heap _
    exact ⟨r97, kr97, rfl, N104, kp108, ge_r97, gs_r97, Vb104⟩
theorem ef_17_v0v01 (m : MethodId) (a0 : Addr) (a2 : Addr) : entryFrame m #[(.ref a0), (.int (0 : Int32)), (.ref a2), (.int (0 : Int32)), (.int (1 : Int32))] 7 = mkF m 0 #[.val (.ref a0), .val (.int 0), .val (.ref a2), .val (.int 0), .val (.int 1), .unset, .unset] [] := by first | (simp [entryFrame, mkF, argsToLocals, Value.category]; done) | rfl
theorem d17_0 : decode jdk_52_method_21_code 0 = .ok (.iconst 0, 1) := by decide +kernel
theorem d17_1 : decode jdk_52_method_21_code 1 = .ok (.istore 5, 2) := by decide +kernel
abbrev own_loc1 (a0 : Addr) (a2 : Addr) : Array Slot := #[.val (.ref a0), .val (.int 0), .val (.ref a2), .val (.int 0), .val (.int 1), .val (.int 0), .unset]
theorem d17_3 : decode jdk_52_method_21_code 3 = .ok (.iload 5, 2) := by decide +kernel
theorem d17_5 : decode jdk_52_method_21_code 5 = .ok (.iload 4, 2) := by decide +kernel
theorem d17_7 : decode jdk_52_method_21_code 7 = .ok (.if_icmp .ge 37, 3) := by decide +kernel
theorem d17_10 : decode jdk_52_method_21_code 10 = .ok (.aload_n 0, 1) := by decide +kernel
theorem d17_11 : decode jdk_52_method_21_code 11 = .ok (.iload_n 1, 1) := by decide +kernel
theorem d17_12 : decode jdk_52_method_21_code 12 = .ok (.caload, 1) := by decide +kernel
theorem d17_13 : decode jdk_52_method_21_code 13 = .ok (.istore 6, 2) := by decide +kernel
abbrev own_loc2 (a0 : Addr) (a2 : Addr) (c0 : Int32) : Array Slot := #[.val (.ref a0), .val (.int 0), .val (.ref a2), .val (.int 0), .val (.int 1), .val (.int 0), .val (.int c0)]
theorem d17_15 : decode jdk_52_method_21_code 15 = .ok (.iload 6, 2) := by decide +kernel
theorem d17_17 : decode jdk_52_method_21_code 17 = .ok (.sipush 255, 3) := by decide +kernel
theorem d17_20 : decode jdk_52_method_21_code 20 = .ok (.if_icmp .le 6, 3) := by decide +kernel
theorem d17_23 : decode jdk_52_method_21_code 23 = .ok (.iload 5, 2) := by decide +kernel
theorem d17_25 : decode jdk_52_method_21_code 25 = .ok (.ireturn, 1) := by decide +kernel
theorem d17_26 : decode jdk_52_method_21_code 26 = .ok (.aload_n 2, 1) := by decide +kernel
theorem d17_27 : decode jdk_52_method_21_code 27 = .ok (.iload_n 3, 1) := by decide +kernel
theorem d17_28 : decode jdk_52_method_21_code 28 = .ok (.iload 6, 2) := by decide +kernel
theorem d17_30 : decode jdk_52_method_21_code 30 = .ok (.i2b, 1) := by decide +kernel
theorem d17_31 : decode jdk_52_method_21_code 31 = .ok (.bastore, 1) := by decide +kernel
theorem d17_32 : decode jdk_52_method_21_code 32 = .ok (.iinc 1 1, 3) := by decide +kernel
abbrev own_loc3 (a0 : Addr) (a2 : Addr) (c0 : Int32) : Array Slot := #[.val (.ref a0), .val (.int 1), .val (.ref a2), .val (.int 0), .val (.int 1), .val (.int 0), .val (.int c0)]
theorem d17_35 : decode jdk_52_method_21_code 35 = .ok (.iinc 3 1, 3) := by decide +kernel
abbrev own_loc4 (a0 : Addr) (a2 : Addr) (c0 : Int32) : Array Slot := #[.val (.ref a0), .val (.int 1), .val (.ref a2), .val (.int 1), .val (.int 1), .val (.int 0), .val (.int c0)]
theorem d17_38 : decode jdk_52_method_21_code 38 = .ok (.iinc 5 1, 3) := by decide +kernel
abbrev own_loc5 (a0 : Addr) (a2 : Addr) (c0 : Int32) : Array Slot := #[.val (.ref a0), .val (.int 1), .val (.ref a2), .val (.int 1), .val (.int 1), .val (.int 1), .val (.int c0)]
theorem d17_41 : decode jdk_52_method_21_code 41 = .ok (.goto (-38), 3) := by decide +kernel
theorem d17_44 : decode jdk_52_method_21_code 44 = .ok (.iload 4, 2) := by decide +kernel
theorem d17_46 : decode jdk_52_method_21_code 46 = .ok (.ireturn, 1) := by decide +kernel
def Q17_s1 (Z : State) (a0 : Addr) (a2 : Addr) (kc : ClassId) (c0 : Int32) (kb : ClassId) (h0 : Heap) (n0 : Nat) (v : Option Value) (h : Heap) (L : List Loc) : Prop := (v = some (.int (0 : Int32)) ∧ Fr n0 L ∧ Keep h0 h [a2] ∧ (255 : Int32) < c0) ∨ (v = some (.int (1 : Int32)) ∧ Fr n0 L ∧ Keep h0 h [a2] ∧ Arv Z h a2 kb .byte (1 : Int32) [(.int (nar .byte (c0.toInt8.toInt32)))] (.int (0 : Int32)) ∧ ¬ ((255 : Int32) < c0))
set_option maxRecDepth 65536 in
set_option maxHeartbeats 40000000 in
theorem rm17_s1 (l : Launch) (Z : State) (ag : Array Value) (hw : ∀ d ∈ tables_1, d.before ag Z = true) (ws : List Jvm.Cond) (a0 : Addr) (a2 : Addr) (kc : ClassId) (c0 : Int32) (kb : ClassId) (h0 : Heap) (n0 : Nat) (Z0 : n0 ≤ h0.size) (V_a0 : Arv Z h0 a0 kc .char (1 : Int32) [(.int c0)] (.int (0 : Int32))) (hr_c0 : 0 ≤ c0.toInt ∧ c0.toInt < 65536) (V_a2 : Arv Z h0 a2 kb .byte (1 : Int32) [(.int (0 : Int32))] (.int (0 : Int32))) (ge_a2 : n0 ≤ a2) (ne_a0_a2 : a0 ≠ a2) :
    MetFree l (⟨"java/lang/StringUTF16", "compress", "([CI[BII)I"⟩ : MethodName) (head1 (Jvm.Cond.code (⟨"java/lang/StringUTF16", "compress", "([CI[BII)I"⟩ : MethodName) jdk_52_method_21_code 7 (some .int) :: ws) ({ frames := 0, cells := 0, slots := 0, locals := 0 } : Room)) (fun a U => a = #[(.ref a0), (.int (0 : Int32)), (.ref a2), (.int (0 : Int32)), (.int (1 : Int32))] ∧ Z.Warmed39 U.vm ∧ U.heap = h0) (fun _ _ _ _ _ => True) (fun _ U o U' => ∃ v L, o = .returned v ∧ Q17_s1 Z a0 a2 kc c0 kb h0 n0 v U'.heap L ∧ FrameEnd U o U' L ({ frames := 0, cells := 0, slots := 0, locals := 0 } : Room).cells ({ frames := 0, cells := 0, slots := 0, locals := 0 } : Room).slots) := by
  refine MetFree.of_bodySF (plainFor_of_name pn_6) hisR ?_
  intro p e s m args below meth c s₁ Bd hml0 hP hK
  obtain ⟨rfl, hZ, hh⟩ := hP
  have hx := Bd.exec
  have hby := Bd.bytes
  have hml : c.maxLocals = 7 := hml0
  have hown : s.vm.findClass "java/lang/StringUTF16" = some m.cls := findClass_of_methodNamed Bd.named
  have hnm := (name_of_methodNamed Bd.named Bd.method).1
  have X0 : Stand p l e ({ frames := 0, cells := 0, slots := 0, locals := 0 } : Room) s m #[(.ref a0), (.int (0 : Int32)), (.ref a2), (.int (0 : Int32)), (.int (1 : Int32))] below meth c s₁ [] 0 0 := Stand.of_body Bd
  have e0 : s₁.heap = h0 := by rw [← hh, Bd.state]; rfl
  have N0 := Fr.nil n0
  have pre0 : ∀ t, Steps p.tables e below (s₁.setTop (mkF m 0 #[.val (.ref a0), .val (.int 0), .val (.ref a2), .val (.int 0), .val (.int 1), .unset, .unset] [])) t → Steps p.tables e below (s₁.setTop (entryFrame m #[(.ref a0), (.int (0 : Int32)), (.ref a2), (.int (0 : Int32)), (.int (1 : Int32))] 7)) t := fun t k => castTop (ef_17_v0v01 m a0 a2) k
  obtain ⟨cl109, Ar109, q109, S109, M109, H109, G109⟩ := id V_a0
  have hin109 : ¬ ((0 : Int32) < 0 ∨ cl109.slots.size ≤ ((0 : Int32)).toNatClampNeg) := inb_of S109 ⟨(by decide : ¬ (0 : Int32) < 0), (by decide : (0 : Int32) < (1 : Int32))⟩
  have hat109 : cl109.slots[((0 : Int32)).toNatClampNeg]? = some (.int c0) := Has.at H109 hin109 rfl
  have ld109 := X0.caload hx (j := (0 : Int32)) (v := (.int c0)) (by rw [e0]; exact Ar109.1) (State.isArrayOf_alike hZ.alike Ar109.2.1) Ar109.2.2 hin109 hat109 (g := (mkF m 12 (own_loc1 a0 a2) [.int 0, (.ref a0)])) rfl rfl (hb hby d17_12)
  have cp111 : ∀ target, own_S p e below s₁ (mkF m 20 (own_loc2 a0 a2 c0) [.int 255, (.int c0)]) target → own_S p e below s₁ (mkF m 0 #[.val (.ref a0), .val (.int 0), .val (.ref a2), .val (.int 0), .val (.int 1), .unset, .unset] []) target := by
    intro target kt
    show own_S p e below s₁ (mkF m 0 #[.val (.ref a0), .val (.int 0), .val (.ref a2), .val (.int 0), .val (.int 1), .unset, .unset] []) _
    refine XS.iconst X0.here hx rfl (hb hby d17_0) ?_
    refine XS.istore X0.here hx rfl (hb hby d17_1) rfl (l' := (own_loc1 a0 a2)) rfl ?_
    show own_S p e below s₁ (mkF m 3 (own_loc1 a0 a2) []) _
    refine XS.iload X0.here hx rfl (hb hby d17_3) rfl ?_
    refine XS.iload X0.here hx rfl (hb hby d17_5) rfl ?_
    refine XS.icmpNo X0.here hx rfl (hb hby d17_7) rfl (tlt (by decide : (0 : Int32) < (1 : Int32))).2.1 ?_
    show own_S p e below s₁ (mkF m 10 (own_loc1 a0 a2) []) _
    refine XS.aloadN X0.here hx rfl (hb hby d17_10) rfl rfl ?_
    refine XS.iloadN X0.here hx rfl (hb hby d17_11) rfl ?_
    show own_S p e below s₁ (mkF m 12 (own_loc1 a0 a2) [.int 0, (.ref a0)]) _
    refine ld109 _ ?_
    show own_S p e below s₁ (mkF m 13 (own_loc1 a0 a2) [(.int c0)]) _
    refine XS.istore X0.here hx rfl (hb hby d17_13) rfl (l' := (own_loc2 a0 a2 c0)) rfl ?_
    show own_S p e below s₁ (mkF m 15 (own_loc2 a0 a2 c0) []) _
    refine XS.iload X0.here hx rfl (hb hby d17_15) rfl ?_
    refine XS.sipush X0.here hx rfl (hb hby d17_17) ?_
    exact kt
  by_cases hc110 : (255 : Int32) < c0
  · obtain ⟨fs, hr, hrun, hended, hW, hsame⟩ := X0.leave (v := some (.int (0 : Int32))) (fun h => by rw [Bd.returns] at h; cases h)
    refine ⟨_, _, pre0 _ ?_, hrun, hended, _, _, rfl, ?_, ⟨_, rfl⟩, hW, hsame.mono (by decide) (by decide)⟩
    · show own_S p e below s₁ (mkF m 0 #[.val (.ref a0), .val (.int 0), .val (.ref a2), .val (.int 0), .val (.int 1), .unset, .unset] []) _
      refine cp111 _ ?_
      show own_S p e below s₁ (mkF m 20 (own_loc2 a0 a2 c0) [.int 255, (.int c0)]) _
      refine XS.icmpNo X0.here hx rfl (hb hby d17_20) rfl (tlt hc110).2.2.2 ?_
      show own_S p e below s₁ (mkF m 23 (own_loc2 a0 a2 c0) []) _
      refine XS.iload X0.here hx rfl (hb hby d17_23) rfl ?_
      show own_S p e below s₁ (mkF m 25 (own_loc2 a0 a2 c0) [.int 0]) _
      exact retI X0 hx Bd.returns (hb hby d17_25) hr
    · show Q17_s1 Z a0 a2 kc c0 kb h0 n0 _ s₁.heap _
      rw [e0]
      exact Or.inl ⟨rfl, N0, (Keep.refl h0 [a2]), hc110⟩
  · obtain ⟨cl112, Ar112, q112, S112, M112, H112, G112⟩ := id V_a2
    have hin112 : ¬ ((0 : Int32) < 0 ∨ cl112.slots.size ≤ ((0 : Int32)).toNatClampNeg) := inb_of S112 ⟨(by decide : ¬ (0 : Int32) < 0), (by decide : (0 : Int32) < (1 : Int32))⟩
    obtain ⟨T112, h112, X112, e112, W112, st112⟩ := stB X0 hx hZ e0 Ar112 (j := (0 : Int32)) hin112 (g := (mkF m 31 (own_loc2 a0 a2 c0) [(.int (c0.toInt8.toInt32)), .int 0, (.ref a2)])) rfl rfl (hb hby d17_31)
    have V112 : Arv Z h112 a2 kb .byte (1 : Int32) [(.int (nar .byte (c0.toInt8.toInt32)))] (.int (0 : Int32)) := Arv.set Ar112 q112 S112 M112 H112 G112 (fits_nar_byte _) W112 0 rfl (Nat.le_of_ble_eq_true rfl)
    have x113 := V_a0.other W112 ne_a0_a2
    have sz114 : n0 ≤ h112.size := Nat.le_trans Z0 (Keep.of_wr W112).1
    have kp115 : Keep h0 h112 [a2] := (Keep.refl h0 [a2]).wr W112 (Or.inl (List.mem_of_getElem? (i := 0) rfl))
    have N112 := Fr.snoc X112 N0 ge_a2
    obtain ⟨fs, hr, hrun, hended, hW, hsame⟩ := X112.leave (v := some (.int (1 : Int32))) (fun h => by rw [Bd.returns] at h; cases h)
    refine ⟨_, _, pre0 _ ?_, hrun, hended, _, _, rfl, ?_, ⟨_, rfl⟩, hW, hsame.mono (by decide) (by decide)⟩
    · show own_S p e below s₁ (mkF m 0 #[.val (.ref a0), .val (.int 0), .val (.ref a2), .val (.int 0), .val (.int 1), .unset, .unset] []) _
      refine cp111 _ ?_
      show own_S p e below s₁ (mkF m 20 (own_loc2 a0 a2 c0) [.int 255, (.int c0)]) _
      refine XS.icmpYes X0.here hx rfl (pc0 := 20) (pc' := 26) rfl (hb hby d17_20) rfl (flt hc110).2.2.2 (by decide) (by decide) ?_
      show own_S p e below s₁ (mkF m 26 (own_loc2 a0 a2 c0) []) _
      refine XS.aloadN X0.here hx rfl (hb hby d17_26) rfl rfl ?_
      refine XS.iloadN X0.here hx rfl (hb hby d17_27) rfl ?_
      refine XS.iload X0.here hx rfl (hb hby d17_28) rfl ?_
      refine XS.i2b X0.here hx rfl (hb hby d17_30) rfl ?_
      show own_S p e below s₁ (mkF m 31 (own_loc2 a0 a2 c0) [(.int (c0.toInt8.toInt32)), .int 0, (.ref a2)]) _
      refine st112 _ ?_
      show own_S p e below T112 (mkF m 32 (own_loc2 a0 a2 c0) []) _
      refine XS.iinc X112.here hx rfl (hb hby d17_32) rfl (l' := (own_loc3 a0 a2 c0)) rfl ?_
      show own_S p e below T112 (mkF m 35 (own_loc3 a0 a2 c0) []) _
      refine XS.iinc X112.here hx rfl (hb hby d17_35) rfl (l' := (own_loc4 a0 a2 c0)) rfl ?_
      show own_S p e below T112 (mkF m 38 (own_loc4 a0 a2 c0) []) _
      refine XS.iinc X112.here hx rfl (hb hby d17_38) rfl (l' := (own_loc5 a0 a2 c0)) rfl ?_
      show own_S p e below T112 (mkF m 41 (own_loc5 a0 a2 c0) []) _
      refine XS.goto X112.here hx rfl (pc0 := 41) (pc' := 3) rfl (hb hby d17_41) (by decide) (by decide) ?_
      show own_S p e below T112 (mkF m 3 (own_loc5 a0 a2 c0) []) _
      refine XS.iload X112.here hx rfl (hb hby d17_3) rfl ?_
      refine XS.iload X112.here hx rfl (hb hby d17_5) rfl ?_
      refine XS.icmpYes X112.here hx rfl (pc0 := 7) (pc' := 44) rfl (hb hby d17_7) rfl (flt (by decide : ¬ ((1 : Int32) < (1 : Int32)))).2.1 (by decide) (by decide) ?_
      show own_S p e below T112 (mkF m 44 (own_loc5 a0 a2 c0) []) _
      refine XS.iload X112.here hx rfl (hb hby d17_44) rfl ?_
      show own_S p e below T112 (mkF m 46 (own_loc5 a0 a2 c0) [.int 1]) _
      exact retI X112 hx Bd.returns (hb hby d17_46) hr
    · show Q17_s1 Z a0 a2 kc c0 kb h0 n0 _ T112.heap _
      rw [e112]
      exact Or.inr (⟨rfl, N112, kp115, V112, hc110⟩)
theorem ef_16_v01 (m : MethodId) (a0 : Addr) : entryFrame m #[(.ref a0), (.int (0 : Int32)), (.int (1 : Int32))] 6 = mkF m 0 #[.val (.ref a0), .val (.int 0), .val (.int 1), .unset, .unset, .unset] [] := by first | (simp [entryFrame, mkF, argsToLocals, Value.category]; done) | rfl
theorem d16_0 : decode jdk_52_method_16_code 0 = .ok (.iload_n 2, 1) := by decide +kernel
theorem d16_1 : decode jdk_52_method_16_code 1 = .ok (.newarray .byte, 2) := by decide +kernel
theorem d16_3 : decode jdk_52_method_16_code 3 = .ok (.astore_n 3, 1) := by decide +kernel
theorem d16_4 : decode jdk_52_method_16_code 4 = .ok (.aload_n 0, 1) := by decide +kernel
theorem d16_5 : decode jdk_52_method_16_code 5 = .ok (.iload_n 1, 1) := by decide +kernel
theorem d16_6 : decode jdk_52_method_16_code 6 = .ok (.aload_n 3, 1) := by decide +kernel
theorem d16_7 : decode jdk_52_method_16_code 7 = .ok (.iconst 0, 1) := by decide +kernel
theorem d16_8 : decode jdk_52_method_16_code 8 = .ok (.iload_n 2, 1) := by decide +kernel
theorem pd_25 : parseMethodDescriptor "([CI[BII)I" = some ⟨[(.array .char), .int, (.array .byte), .int, .int], some .int⟩ := by decide +kernel
theorem d16_9 : decode jdk_52_method_16_code 9 = .ok (.invokestatic 115, 3) := by decide +kernel
theorem d16_12 : decode jdk_52_method_16_code 12 = .ok (.istore 4, 2) := by decide +kernel
theorem d16_14 : decode jdk_52_method_16_code 14 = .ok (.iload 4, 2) := by decide +kernel
theorem d16_16 : decode jdk_52_method_16_code 16 = .ok (.iload_n 2, 1) := by decide +kernel
theorem d16_17 : decode jdk_52_method_16_code 17 = .ok (.if_icmp .eq 40, 3) := by decide +kernel
theorem d16_20 : decode jdk_52_method_16_code 20 = .ok (.aload_n 0, 1) := by decide +kernel
theorem d16_21 : decode jdk_52_method_16_code 21 = .ok (.iload_n 1, 1) := by decide +kernel
theorem d16_22 : decode jdk_52_method_16_code 22 = .ok (.iload_n 2, 1) := by decide +kernel
theorem pd_23 : parseMethodDescriptor "([CII)[B" = some ⟨[(.array .char), .int, .int], some (.array .byte)⟩ := by decide +kernel
theorem d16_23 : decode jdk_52_method_16_code 23 = .ok (.invokestatic 119, 3) := by decide +kernel
theorem d16_26 : decode jdk_52_method_16_code 26 = .ok (.astore 5, 2) := by decide +kernel
theorem d16_28 : decode jdk_52_method_16_code 28 = .ok (.aload 5, 2) := by decide +kernel
theorem d16_30 : decode jdk_52_method_16_code 30 = .ok (.iload 4, 2) := by decide +kernel
theorem d16_32 : decode jdk_52_method_16_code 32 = .ok (.invokestatic 71, 3) := by decide +kernel
theorem d16_35 : decode jdk_52_method_16_code 35 = .ok (.sipush 255, 3) := by decide +kernel
theorem d16_38 : decode jdk_52_method_16_code 38 = .ok (.if_icmp .gt 16, 3) := by decide +kernel
theorem d16_54 : decode jdk_52_method_16_code 54 = .ok (.aload 5, 2) := by decide +kernel
theorem d16_56 : decode jdk_52_method_16_code 56 = .ok (.areturn, 1) := by decide +kernel
theorem d16_57 : decode jdk_52_method_16_code 57 = .ok (.aload_n 3, 1) := by decide +kernel
theorem d16_58 : decode jdk_52_method_16_code 58 = .ok (.areturn, 1) := by decide +kernel
def Q16_s1 (Z : State) (a0 : Addr) (kc : ClassId) (c0 : Int32) (h0 : Heap) (n0 : Nat) (v : Option Value) (h : Heap) (L : List Loc) : Prop := ∃ (r : Addr) (kb : ClassId) (nb : Int32) (vs : List Value), v = some (.ref r) ∧ Fr n0 L ∧ Keep h0 h [] ∧ n0 ≤ r ∧ h0.size ≤ r ∧ Arv Z h r kb .byte nb vs (.int (0 : Int32)) ∧ ((nb = (1 : Int32) ∧ vs = [(.int (nar .byte (c0.toInt8.toInt32)))] ∧ ¬ ((255 : Int32) < c0)) ∨ (nb = (2 : Int32) ∧ vs = [(.int (nar .byte ((c0 >>> ((0 : Int32) &&& 31)).toInt8.toInt32))), (.int (nar .byte ((c0 >>> ((8 : Int32) &&& 31)).toInt8.toInt32)))]))
set_option maxRecDepth 65536 in
set_option maxHeartbeats 40000000 in
theorem rm16_s1 (l : Launch) (Z : State) (ag : Array Value) (hw : ∀ d ∈ tables_1, d.before ag Z = true) (ws : List Jvm.Cond) (a0 : Addr) (kc : ClassId) (c0 : Int32) (h0 : Heap) (n0 : Nat) (Z0 : n0 ≤ h0.size) (V_a0 : Arv Z h0 a0 kc .char (1 : Int32) [(.int c0)] (.int (0 : Int32))) (hr_c0 : 0 ≤ c0.toInt ∧ c0.toInt < 65536) (O_ : Old Z n0 h0) (S_ad : Sta Z Z.heap "java/lang/StringUTF16" "$assertionsDisabled" "Z" (.int (1 : Int32))) (S_hi : Sta Z Z.heap "java/lang/StringUTF16" "HI_BYTE_SHIFT" "I" (.int (0 : Int32))) (S_lo : Sta Z Z.heap "java/lang/StringUTF16" "LO_BYTE_SHIFT" "I" (.int (8 : Int32))) :
    MetFree l (⟨"java/lang/StringUTF16", "compress", "([CII)[B"⟩ : MethodName) (head1 (Jvm.Cond.code (⟨"java/lang/StringUTF16", "compress", "([CII)[B"⟩ : MethodName) jdk_52_method_16_code 6 (some (.array .byte)) :: ws) ({ frames := 3, cells := 2, slots := 9, locals := 40 } : Room)) (fun a U => a = #[(.ref a0), (.int (0 : Int32)), (.int (1 : Int32))] ∧ Z.Warmed39 U.vm ∧ U.heap = h0) (fun _ _ _ _ _ => True) (fun _ U o U' => ∃ v L, o = .returned v ∧ Q16_s1 Z a0 kc c0 h0 n0 v U'.heap L ∧ FrameEnd U o U' L ({ frames := 3, cells := 2, slots := 9, locals := 40 } : Room).cells ({ frames := 3, cells := 2, slots := 9, locals := 40 } : Room).slots) := by
  refine MetFree.of_bodySF (plainFor_of_name pn_6) hisR ?_
  intro p e s m args below meth c s₁ Bd hml0 hP hK
  obtain ⟨rfl, hZ, hh⟩ := hP
  have hx := Bd.exec
  have hby := Bd.bytes
  have hml : c.maxLocals = 6 := hml0
  have hown : s.vm.findClass "java/lang/StringUTF16" = some m.cls := findClass_of_methodNamed Bd.named
  have hnm := (name_of_methodNamed Bd.named Bd.method).1
  have X0 : Stand p l e ({ frames := 3, cells := 2, slots := 9, locals := 40 } : Room) s m #[(.ref a0), (.int (0 : Int32)), (.int (1 : Int32))] below meth c s₁ [] 0 0 := Stand.of_body Bd
  have e0 : s₁.heap = h0 := by rw [← hh, Bd.state]; rfl
  have N0 := Fr.nil n0
  have pre0 : ∀ t, Steps p.tables e below (s₁.setTop (mkF m 0 #[.val (.ref a0), .val (.int 0), .val (.int 1), .unset, .unset, .unset] [])) t → Steps p.tables e below (s₁.setTop (entryFrame m #[(.ref a0), (.int (0 : Int32)), (.int (1 : Int32))] 6)) t := fun t k => castTop (ef_16_v01 m a0) k
  obtain ⟨T116, h116, k116, X116, e116, E116, A116, st116⟩ := newP X0 hx hZ (own_wk hw 7 rfl) e0 (g := (mkF m 1 #[.val (.ref a0), .val (.int 0), .val (.int 1), .unset, .unset, .unset] [.int 1])) rfl (hb hby d16_1) rfl (by decide) (cap := 1) (by decide) (by decide) (by decide) (by decide)
  obtain ⟨b116, g116⟩ : ∃ z, z = h0.size := ⟨_, rfl⟩
  have ne117 : a0 ≠ b116 := Nat.ne_of_lt (Nat.lt_of_lt_of_le V_a0.lt (Nat.le_of_eq g116.symm))
  have ge_b116 : n0 ≤ b116 := Nat.le_trans Z0 (Nat.le_of_eq g116.symm)
  have gs_b116 : h0.size ≤ b116 := Nat.le_trans (Keep.refl h0 []).1 (Nat.le_of_eq g116.symm)
  rw [← g116] at A116 st116
  have x118 := V_a0.ext E116
  have x119 := O_.ext E116
  have sz120 : n0 ≤ h116.size := Nat.le_trans Z0 E116.1
  have kp121 : Keep h0 h116 [] := (Keep.refl h0 []).ext E116
  have V116 : Arv Z h116 b116 k116 .byte (1 : Int32) [(.int (0 : Int32))] (.int (0 : Int32)) := (Arv.new A116 (by decide)).pad (pad_rep [] (.int (0 : Int32)) 1)
  obtain ⟨_, _, ⟨T122, L122, k122, n122⟩, -, X122, ⟨Lc122, hQ122, l122, y122, z122⟩, st122⟩ := Jvm.LawKit.callS X116 hx (y := (⟨"java/lang/StringUTF16", "compress", "([CI[BII)I"⟩ : MethodName)) hown (mvT hZ (own_wk hw 79 rfl)) (mvT hZ (own_wk hw 80 rfl)) (mvT hZ (own_wk hw 77 rfl)) (mvT hZ (own_wk hw 81 rfl)) (by decide) (backOf (W := 0) (rm17_s1 l Z ag hw [] a0 b116 kc c0 k116 h116 n0 sz120 x118 hr_c0 V116 ge_b116 ne117) hZ (own_wk hw 81 rfl) (own_wk hw 77 rfl) (by decide) (by decide)) (g := (mkF m 9 #[.val (.ref a0), .val (.int 0), .val (.int 1), .val (.ref b116), .unset, .unset] [.int 1, .int 0, (.ref b116), .int 0, (.ref a0)])) rfl (by rw [hml]; rfl) (argsL := [(.ref a0), (.int (0 : Int32)), (.ref b116), (.int (0 : Int32)), (.int (1 : Int32))]) (rest := []) (lenOf pd_25 rfl) rfl (by show 2 * 0 + _ ≤ _; exact Nat.le_of_eq rfl) (hb hby d16_9) (fun _ _ => ⟨rfl, e116, (by decide : 1 + 0 ≤ _), (by decide : 1 + 0 ≤ _)⟩)
  dsimp only [Pt.U, Pt.locs, Pt.cells, Pt.slots] at X122 l122 y122 z122 st122 hQ122
  subst l122 y122 z122
  rcases hQ122 with q122 | q122
  · obtain ⟨rfl, N122q, K122, hbig122⟩ := q122
    have N122 := Fr.app N0 N122q
    have x123 := x118.keep K122 (ninS ne117 nin0)
    have x124 := x119.keep K122 (allS ge_b116 all0)
    have sz125 : n0 ≤ T122.heap.size := Nat.le_trans sz120 K122.1
    have kp126 : Keep h0 T122.heap [] := kp121.trans K122 (allS (Or.inr gs_b116) all0)
    obtain ⟨_, _, ⟨T127, L127, k127, n127⟩, -, X127, ⟨Lc127, hQ127, l127, y127, z127⟩, st127⟩ := Jvm.LawKit.callS X122 hx (y := (⟨"java/lang/StringUTF16", "toBytes", "([CII)[B"⟩ : MethodName)) hown (mvT hZ (own_wk hw 117 rfl)) (mvT hZ (own_wk hw 118 rfl)) (mvT hZ (own_wk hw 77 rfl)) (mvT hZ (own_wk hw 119 rfl)) (by decide) (backOf (W := 0) (rm27_s1 l Z ag hw [] a0 kc c0 T122.heap n0 sz125 x123 hr_c0 x124 S_ad S_hi S_lo) hZ (own_wk hw 119 rfl) (own_wk hw 77 rfl) (by decide) (by decide)) (g := (mkF m 23 #[.val (.ref a0), .val (.int 0), .val (.int 1), .val (.ref b116), .val (.int 0), .unset] [.int 1, .int 0, (.ref a0)])) rfl (by rw [hml]; rfl) (argsL := [(.ref a0), (.int (0 : Int32)), (.int (1 : Int32))]) (rest := []) (lenOf pd_23 rfl) rfl (by show 2 * 0 + _ ≤ _; exact Nat.le_of_eq rfl) (hb hby d16_23) (fun _ _ => ⟨rfl, rfl, (by decide : 1 + 1 ≤ _), (by decide : 1 + 8 ≤ _)⟩)
    dsimp only [Pt.U, Pt.locs, Pt.cells, Pt.slots] at X127 l127 y127 z127 st127 hQ127
    subst l127 y127 z127
    obtain ⟨r127, kr127, rfl, N127q, K127, ge_r127, gq_r127, Vr127⟩ := hQ127
    have N127 := Fr.app N122 N127q
    have ne128 : a0 ≠ r127 := Nat.ne_of_lt (Nat.lt_of_lt_of_le x123.lt gq_r127)
    have gs_r127 : h0.size ≤ r127 := Nat.le_trans kp126.1 gq_r127
    have x129 := x123.keep K127 nin0
    have x130 := x124.keep K127 all0
    have sz131 : n0 ≤ T127.heap.size := Nat.le_trans sz125 K127.1
    have kp132 : Keep h0 T127.heap [] := kp126.trans K127 all0
    have cp133 : ∀ target, own_S p e below T127 (mkF m 32 #[.val (.ref a0), .val (.int 0), .val (.int 1), .val (.ref b116), .val (.int 0), .val (.ref r127)] [.int 0, (.ref r127)]) target → own_S p e below s₁ (mkF m 0 #[.val (.ref a0), .val (.int 0), .val (.int 1), .unset, .unset, .unset] []) target := by
      intro target kt
      show own_S p e below s₁ (mkF m 0 #[.val (.ref a0), .val (.int 0), .val (.int 1), .unset, .unset, .unset] []) _
      refine XS.iloadN X0.here hx rfl (hb hby d16_0) rfl ?_
      show own_S p e below s₁ (mkF m 1 #[.val (.ref a0), .val (.int 0), .val (.int 1), .unset, .unset, .unset] [.int 1]) _
      refine st116 _ ?_
      show own_S p e below T116 (mkF m 3 #[.val (.ref a0), .val (.int 0), .val (.int 1), .unset, .unset, .unset] [(.ref b116)]) _
      refine XS.astoreN X116.here hx rfl (hb hby d16_3) rfl rfl (l' := #[.val (.ref a0), .val (.int 0), .val (.int 1), .val (.ref b116), .unset, .unset]) rfl ?_
      show own_S p e below T116 (mkF m 4 #[.val (.ref a0), .val (.int 0), .val (.int 1), .val (.ref b116), .unset, .unset] []) _
      refine XS.aloadN X116.here hx rfl (hb hby d16_4) rfl rfl ?_
      refine XS.iloadN X116.here hx rfl (hb hby d16_5) rfl ?_
      refine XS.aloadN X116.here hx rfl (hb hby d16_6) rfl rfl ?_
      refine XS.iconst X116.here hx rfl (hb hby d16_7) ?_
      refine XS.iloadN X116.here hx rfl (hb hby d16_8) rfl ?_
      show own_S p e below T116 (mkF m 9 #[.val (.ref a0), .val (.int 0), .val (.int 1), .val (.ref b116), .unset, .unset] [.int 1, .int 0, (.ref b116), .int 0, (.ref a0)]) _
      refine st122 _ ?_
      show own_S p e below T122 (mkF m 12 #[.val (.ref a0), .val (.int 0), .val (.int 1), .val (.ref b116), .unset, .unset] [.int 0]) _
      refine XS.istore X122.here hx rfl (hb hby d16_12) rfl (l' := #[.val (.ref a0), .val (.int 0), .val (.int 1), .val (.ref b116), .val (.int 0), .unset]) rfl ?_
      show own_S p e below T122 (mkF m 14 #[.val (.ref a0), .val (.int 0), .val (.int 1), .val (.ref b116), .val (.int 0), .unset] []) _
      refine XS.iload X122.here hx rfl (hb hby d16_14) rfl ?_
      refine XS.iloadN X122.here hx rfl (hb hby d16_16) rfl ?_
      refine XS.icmpNo X122.here hx rfl (hb hby d16_17) rfl (feq (by decide : ¬ ((0 : Int32) = (1 : Int32)))).1 ?_
      show own_S p e below T122 (mkF m 20 #[.val (.ref a0), .val (.int 0), .val (.int 1), .val (.ref b116), .val (.int 0), .unset] []) _
      refine XS.aloadN X122.here hx rfl (hb hby d16_20) rfl rfl ?_
      refine XS.iloadN X122.here hx rfl (hb hby d16_21) rfl ?_
      refine XS.iloadN X122.here hx rfl (hb hby d16_22) rfl ?_
      show own_S p e below T122 (mkF m 23 #[.val (.ref a0), .val (.int 0), .val (.int 1), .val (.ref b116), .val (.int 0), .unset] [.int 1, .int 0, (.ref a0)]) _
      refine st127 _ ?_
      show own_S p e below T127 (mkF m 26 #[.val (.ref a0), .val (.int 0), .val (.int 1), .val (.ref b116), .val (.int 0), .unset] [(.ref r127)]) _
      refine XS.astore X127.here hx rfl (hb hby d16_26) rfl rfl (l' := #[.val (.ref a0), .val (.int 0), .val (.int 1), .val (.ref b116), .val (.int 0), .val (.ref r127)]) rfl ?_
      show own_S p e below T127 (mkF m 28 #[.val (.ref a0), .val (.int 0), .val (.int 1), .val (.ref b116), .val (.int 0), .val (.ref r127)] []) _
      refine XS.aload X127.here hx rfl (hb hby d16_28) rfl rfl ?_
      refine XS.iload X127.here hx rfl (hb hby d16_30) rfl ?_
      exact kt
    obtain ⟨_, _, ⟨T134, L134, k134, n134⟩, -, X134, ⟨Lc134, hQ134, l134, y134, z134⟩, st134⟩ := Jvm.LawKit.callS X127 hx (y := (⟨"java/lang/StringUTF16", "getChar", "([BI)C"⟩ : MethodName)) hown (mvT hZ (own_wk hw 133 rfl)) (mvT hZ (own_wk hw 134 rfl)) (mvT hZ (own_wk hw 77 rfl)) (mvT hZ (own_wk hw 135 rfl)) (by decide) (backOf (W := 0) (rm31 l Z ag hw [] r127 (0 : Int32) kr127 (2 : Int32) [(.int (nar .byte ((c0 >>> ((0 : Int32) &&& 31)).toInt8.toInt32))), (.int (nar .byte ((c0 >>> ((8 : Int32) &&& 31)).toInt8.toInt32)))] (nar .byte ((c0 >>> ((0 : Int32) &&& 31)).toInt8.toInt32)) (nar .byte ((c0 >>> ((8 : Int32) &&& 31)).toInt8.toInt32)) T127.heap n0 sz131 Vr127 (by decide) (by decide) rfl rfl x130 S_ad S_hi S_lo) hZ (own_wk hw 135 rfl) (own_wk hw 77 rfl) (by decide) (by decide)) (g := (mkF m 32 #[.val (.ref a0), .val (.int 0), .val (.int 1), .val (.ref b116), .val (.int 0), .val (.ref r127)] [.int 0, (.ref r127)])) rfl (by rw [hml]; rfl) (argsL := [(.ref r127), (.int (0 : Int32))]) (rest := []) (lenOf pd_19 rfl) rfl (by show 2 * 0 + _ ≤ _; exact Nat.le_of_eq rfl) (hb hby d16_32) (fun _ _ => ⟨rfl, rfl, (by decide : 2 + 0 ≤ _), (by decide : 9 + 0 ≤ _)⟩)
    dsimp only [Pt.U, Pt.locs, Pt.cells, Pt.slots] at X134 l134 y134 z134 st134 hQ134
    subst l134 y134 z134
    obtain ⟨rfl, N134q, e134⟩ := hQ134
    have N134 := Fr.app N127 N134q
    obtain ⟨fs, hr, hrun, hended, hW, hsame⟩ := X134.leave (v := some (.ref r127)) (fun h => by rw [Bd.returns] at h; cases h)
    refine ⟨_, _, pre0 _ ?_, hrun, hended, _, _, rfl, ?_, ⟨_, rfl⟩, hW, hsame.mono (by decide) (by decide)⟩
    · show own_S p e below s₁ (mkF m 0 #[.val (.ref a0), .val (.int 0), .val (.int 1), .unset, .unset, .unset] []) _
      refine cp133 _ ?_
      show own_S p e below T127 (mkF m 32 #[.val (.ref a0), .val (.int 0), .val (.int 1), .val (.ref b116), .val (.int 0), .val (.ref r127)] [.int 0, (.ref r127)]) _
      refine st134 _ ?_
      show own_S p e below T134 (mkF m 35 #[.val (.ref a0), .val (.int 0), .val (.int 1), .val (.ref b116), .val (.int 0), .val (.ref r127)] [(.int (own_gc (nar .byte ((c0 >>> ((0 : Int32) &&& 31)).toInt8.toInt32)) (nar .byte ((c0 >>> ((8 : Int32) &&& 31)).toInt8.toInt32))))]) _
      refine XS.sipush X134.here hx rfl (hb hby d16_35) ?_
      refine XS.icmpYes X134.here hx rfl (pc0 := 38) (pc' := 54) rfl (hb hby d16_38) rfl (tlt (show (255 : Int32) < (own_gc (nar .byte ((c0 >>> ((0 : Int32) &&& 31)).toInt8.toInt32)) (nar .byte ((c0 >>> ((8 : Int32) &&& 31)).toInt8.toInt32))) from (by rw [own_gc_back c0 hr_c0]; exact hbig122))).2.2.1 (by decide) (by decide) ?_
      show own_S p e below T134 (mkF m 54 #[.val (.ref a0), .val (.int 0), .val (.int 1), .val (.ref b116), .val (.int 0), .val (.ref r127)] []) _
      refine XS.aload X134.here hx rfl (hb hby d16_54) rfl rfl ?_
      show own_S p e below T134 (mkF m 56 #[.val (.ref a0), .val (.int 0), .val (.int 1), .val (.ref b116), .val (.int 0), .val (.ref r127)] [(.ref r127)]) _
      exact Jvm.RoadKit.retOut X134 hx Bd.returns rfl (Or.inr (Or.inr (Or.inr (Or.inr ⟨rfl, rfl, rfl⟩)))) (hb hby d16_56) hr
    · show Q16_s1 Z a0 kc c0 h0 n0 _ T134.heap _
      rw [e134]
      exact ⟨r127, kr127, (2 : Int32), _, rfl, N134, kp132, ge_r127, gs_r127, Vr127, Or.inr ⟨rfl, rfl⟩⟩
  · obtain ⟨rfl, N122q, K122, Vb122, hl122_0⟩ := q122
    have N122 := Fr.app N0 N122q
    have x135 := x118.keep K122 (ninS ne117 nin0)
    have x136 := x119.keep K122 (allS ge_b116 all0)
    have sz137 : n0 ≤ T122.heap.size := Nat.le_trans sz120 K122.1
    have kp138 : Keep h0 T122.heap [] := kp121.trans K122 (allS (Or.inr gs_b116) all0)
    obtain ⟨fs, hr, hrun, hended, hW, hsame⟩ := X122.leave (v := some (.ref b116)) (fun h => by rw [Bd.returns] at h; cases h)
    refine ⟨_, _, pre0 _ ?_, hrun, hended, _, _, rfl, ?_, ⟨_, rfl⟩, hW, hsame.mono (by decide) (by decide)⟩
    · show own_S p e below s₁ (mkF m 0 #[.val (.ref a0), .val (.int 0), .val (.int 1), .unset, .unset, .unset] []) _
      refine XS.iloadN X0.here hx rfl (hb hby d16_0) rfl ?_
      show own_S p e below s₁ (mkF m 1 #[.val (.ref a0), .val (.int 0), .val (.int 1), .unset, .unset, .unset] [.int 1]) _
      refine st116 _ ?_
      show own_S p e below T116 (mkF m 3 #[.val (.ref a0), .val (.int 0), .val (.int 1), .unset, .unset, .unset] [(.ref b116)]) _
      refine XS.astoreN X116.here hx rfl (hb hby d16_3) rfl rfl (l' := #[.val (.ref a0), .val (.int 0), .val (.int 1), .val (.ref b116), .unset, .unset]) rfl ?_
      show own_S p e below T116 (mkF m 4 #[.val (.ref a0), .val (.int 0), .val (.int 1), .val (.ref b116), .unset, .unset] []) _
      refine XS.aloadN X116.here hx rfl (hb hby d16_4) rfl rfl ?_
      refine XS.iloadN X116.here hx rfl (hb hby d16_5) rfl ?_
      refine XS.aloadN X116.here hx rfl (hb hby d16_6) rfl rfl ?_
      refine XS.iconst X116.here hx rfl (hb hby d16_7) ?_
      refine XS.iloadN X116.here hx rfl (hb hby d16_8) rfl ?_
      show own_S p e below T116 (mkF m 9 #[.val (.ref a0), .val (.int 0), .val (.int 1), .val (.ref b116), .unset, .unset] [.int 1, .int 0, (.ref b116), .int 0, (.ref a0)]) _
      refine st122 _ ?_
      show own_S p e below T122 (mkF m 12 #[.val (.ref a0), .val (.int 0), .val (.int 1), .val (.ref b116), .unset, .unset] [.int 1]) _
      refine XS.istore X122.here hx rfl (hb hby d16_12) rfl (l' := #[.val (.ref a0), .val (.int 0), .val (.int 1), .val (.ref b116), .val (.int 1), .unset]) rfl ?_
      show own_S p e below T122 (mkF m 14 #[.val (.ref a0), .val (.int 0), .val (.int 1), .val (.ref b116), .val (.int 1), .unset] []) _
      refine XS.iload X122.here hx rfl (hb hby d16_14) rfl ?_
      refine XS.iloadN X122.here hx rfl (hb hby d16_16) rfl ?_
      refine XS.icmpYes X122.here hx rfl (pc0 := 17) (pc' := 57) rfl (hb hby d16_17) rfl (teq (by decide : (1 : Int32) = (1 : Int32))).1 (by decide) (by decide) ?_
      show own_S p e below T122 (mkF m 57 #[.val (.ref a0), .val (.int 0), .val (.int 1), .val (.ref b116), .val (.int 1), .unset] []) _
      refine XS.aloadN X122.here hx rfl (hb hby d16_57) rfl rfl ?_
      show own_S p e below T122 (mkF m 58 #[.val (.ref a0), .val (.int 0), .val (.int 1), .val (.ref b116), .val (.int 1), .unset] [(.ref b116)]) _
      exact Jvm.RoadKit.retOut X122 hx Bd.returns rfl (Or.inr (Or.inr (Or.inr (Or.inr ⟨rfl, rfl, rfl⟩)))) (hb hby d16_58) hr
    · show Q16_s1 Z a0 kc c0 h0 n0 _ T122.heap _
      exact ⟨b116, k116, (1 : Int32), _, rfl, N122, kp138, ge_b116, gs_b116, Vb122, Or.inl ⟨rfl, rfl, hl122_0⟩⟩
theorem ef_9_vv01n (m : MethodId) (a0 : Addr) (a1 : Addr) : entryFrame m #[(.ref a0), (.ref a1), (.int (0 : Int32)), (.int (1 : Int32)), .null] 6 = mkF m 0 #[.val (.ref a0), .val (.ref a1), .val (.int 0), .val (.int 1), .val .null, .unset] [] := by first | (simp [entryFrame, mkF, argsToLocals, Value.category]; done) | rfl
theorem d9_27 : decode jdk_42_method_149_code 27 = .ok (.getstatic 38, 3) := by decide +kernel
theorem d9_30 : decode jdk_42_method_149_code 30 = .ok (.ifCond .eq 28, 3) := by decide +kernel
theorem d9_33 : decode jdk_42_method_149_code 33 = .ok (.aload_n 1, 1) := by decide +kernel
theorem d9_34 : decode jdk_42_method_149_code 34 = .ok (.iload_n 2, 1) := by decide +kernel
theorem d9_35 : decode jdk_42_method_149_code 35 = .ok (.iload_n 3, 1) := by decide +kernel
theorem d9_36 : decode jdk_42_method_149_code 36 = .ok (.invokestatic 177, 3) := by decide +kernel
theorem d9_39 : decode jdk_42_method_149_code 39 = .ok (.astore 5, 2) := by decide +kernel
theorem d9_41 : decode jdk_42_method_149_code 41 = .ok (.aload_n 0, 1) := by decide +kernel
theorem d9_42 : decode jdk_42_method_149_code 42 = .ok (.aload 5, 2) := by decide +kernel
theorem d9_44 : decode jdk_42_method_149_code 44 = .ok (.iload_n 3, 1) := by decide +kernel
theorem pd_18 : parseMethodDescriptor "([BI)B" = some ⟨[(.array .byte), .int], some .byte⟩ := by decide +kernel
theorem d9_45 : decode jdk_42_method_149_code 45 = .ok (.invokestatic 47, 3) := by decide +kernel
theorem d9_48 : decode jdk_42_method_149_code 48 = .ok (.putfield 15, 3) := by decide +kernel
theorem d9_51 : decode jdk_42_method_149_code 51 = .ok (.aload_n 0, 1) := by decide +kernel
theorem d9_52 : decode jdk_42_method_149_code 52 = .ok (.aload 5, 2) := by decide +kernel
theorem d9_54 : decode jdk_42_method_149_code 54 = .ok (.putfield 9, 3) := by decide +kernel
theorem d9_57 : decode jdk_42_method_149_code 57 = .ok (.return_, 1) := by decide +kernel
def Q9_s1 (Z : State) (a0 : Addr) (a1 : Addr) (kc : ClassId) (c0 : Int32) (cs : Int32) (h0 : Heap) (n0 : Nat) (v : Option Value) (h : Heap) (L : List Loc) : Prop := v = none ∧ Fr n0 L ∧ Keep h0 h [a0] ∧ own_str Z h a0 [c0]
set_option maxRecDepth 65536 in
set_option maxHeartbeats 40000000 in
theorem rm9_s1 (l : Launch) (Z : State) (ag : Array Value) (hw : ∀ d ∈ tables_1, d.before ag Z = true) (ws : List Jvm.Cond) (a0 : Addr) (a1 : Addr) (kc : ClassId) (c0 : Int32) (cs : Int32) (h0 : Heap) (n0 : Nat) (Z0 : n0 ≤ h0.size) (E_a0 : Exa Z h0 a0 "java/lang/String") (F_value_a0 : Fld Z h0 a0 "java/lang/String" "value" "[B" .null) (F_coder_a0 : Fld Z h0 a0 "java/lang/String" "coder" "B" (.int (0 : Int32))) (ge_a0 : n0 ≤ a0) (ne_a0_a1 : a0 ≠ a1) (O_ : Old Z n0 h0) (S_cs : Sta Z Z.heap "java/lang/String" "COMPACT_STRINGS" "Z" (.int cs)) (hcs : ¬ cs = (0 : Int32)) (S_ad : Sta Z Z.heap "java/lang/StringUTF16" "$assertionsDisabled" "Z" (.int (1 : Int32))) (S_hi : Sta Z Z.heap "java/lang/StringUTF16" "HI_BYTE_SHIFT" "I" (.int (0 : Int32))) (S_lo : Sta Z Z.heap "java/lang/StringUTF16" "LO_BYTE_SHIFT" "I" (.int (8 : Int32))) (V_a1 : Arv Z h0 a1 kc .char (1 : Int32) [(.int c0)] (.int (0 : Int32))) (hr_c0 : 0 ≤ c0.toInt ∧ c0.toInt < 65536) :
    MetFree l (⟨"java/lang/String", "<init>", "([CIILjava/lang/Void;)V"⟩ : MethodName) (head1 (Jvm.Cond.code (⟨"java/lang/String", "<init>", "([CIILjava/lang/Void;)V"⟩ : MethodName) jdk_42_method_149_code 6 none :: ws) ({ frames := 4, cells := 2, slots := 9, locals := 57 } : Room)) (fun a U => a = #[(.ref a0), (.ref a1), (.int (0 : Int32)), (.int (1 : Int32)), .null] ∧ Z.Warmed39 U.vm ∧ U.heap = h0) (fun _ _ _ _ _ => True) (fun _ U o U' => ∃ v L, o = .returned v ∧ Q9_s1 Z a0 a1 kc c0 cs h0 n0 v U'.heap L ∧ FrameEnd U o U' L ({ frames := 4, cells := 2, slots := 9, locals := 57 } : Room).cells ({ frames := 4, cells := 2, slots := 9, locals := 57 } : Room).slots) := by
  refine MetFree.of_bodySF (plainFor_of_name pn_4) hisR ?_
  intro p e s m args below meth c s₁ Bd hml0 hP hK
  obtain ⟨rfl, hZ, hh⟩ := hP
  have hx := Bd.exec
  have hby := Bd.bytes
  have hml : c.maxLocals = 6 := hml0
  have hown : s.vm.findClass "java/lang/String" = some m.cls := findClass_of_methodNamed Bd.named
  have hnm := (name_of_methodNamed Bd.named Bd.method).1
  have X0 : Stand p l e ({ frames := 4, cells := 2, slots := 9, locals := 57 } : Room) s m #[(.ref a0), (.ref a1), (.int (0 : Int32)), (.int (1 : Int32)), .null] below meth c s₁ [] 0 0 := Stand.of_body Bd
  have e0 : s₁.heap = h0 := by rw [← hh, Bd.state]; rfl
  have N0 := Fr.nil n0
  have pre0 : ∀ t, Steps p.tables e below (s₁.setTop (mkF m 0 #[.val (.ref a0), .val (.ref a1), .val (.int 0), .val (.int 1), .val .null, .unset] [])) t → Steps p.tables e below (s₁.setTop (entryFrame m #[(.ref a0), (.ref a1), (.int (0 : Int32)), (.int (1 : Int32)), .null] 6)) t := fun t k => castTop (ef_9_vv01n m a0 a1) k
  obtain ⟨T139, X139, e139, st139⟩ := initO X0 hx hZ hown (own_wk hw 49 rfl) (own_wk hw 50 rfl) (own_wk hw 51 rfl) e0 (g := (mkF m 1 #[.val (.ref a0), .val (.ref a1), .val (.int 0), .val (.int 1), .val .null, .unset] [(.ref a0)])) rfl (by rw [hml]; rfl) rfl (hb hby d9_1) (by decide) (W := 0) (by show 2 * 0 + _ ≤ _; exact Nat.le_of_eq rfl) (by decide)
  obtain ⟨T140, X140, e140, st140⟩ := getS2 X139 hx hZ hown (host := "") (Or.inl (own_wk hw 22 rfl)) Via.refl e139 (Sta.ext O_.2 S_cs) (g := (mkF m 27 #[.val (.ref a0), .val (.ref a1), .val (.int 0), .val (.int 1), .val .null, .unset] [])) rfl (hb hby d9_27)
  obtain ⟨_, _, ⟨T141, L141, k141, n141⟩, -, X141, ⟨Lc141, hQ141, l141, y141, z141⟩, st141⟩ := Jvm.LawKit.callS X140 hx (y := (⟨"java/lang/StringUTF16", "compress", "([CII)[B"⟩ : MethodName)) hown (mvT hZ (own_wk hw 75 rfl)) (mvT hZ (own_wk hw 76 rfl)) (mvT hZ (own_wk hw 77 rfl)) (mvT hZ (own_wk hw 78 rfl)) (by decide) (backOf (W := 0) (rm16_s1 l Z ag hw [] a1 kc c0 h0 n0 Z0 V_a1 hr_c0 O_ S_ad S_hi S_lo) hZ (own_wk hw 78 rfl) (own_wk hw 77 rfl) (by decide) (by decide)) (g := (mkF m 36 #[.val (.ref a0), .val (.ref a1), .val (.int 0), .val (.int 1), .val .null, .unset] [.int 1, .int 0, (.ref a1)])) rfl (by rw [hml]; rfl) (argsL := [(.ref a1), (.int (0 : Int32)), (.int (1 : Int32))]) (rest := []) (lenOf pd_23 rfl) rfl (by show 2 * 0 + _ ≤ _; exact Nat.le_of_eq rfl) (hb hby d9_36) (fun _ _ => ⟨rfl, e140, (by decide : 0 + 2 ≤ _), (by decide : 0 + 9 ≤ _)⟩)
  dsimp only [Pt.U, Pt.locs, Pt.cells, Pt.slots] at X141 l141 y141 z141 st141 hQ141
  subst l141 y141 z141
  obtain ⟨r141, kr141, nb141, vs141, rfl, N141q, K141, ge_r141, gq_r141, Vr141, hQ141⟩ := hQ141
  rcases hQ141 with q141 | q141
  · obtain ⟨rfl, rfl, hl141_0⟩ := q141
    have N141 := Fr.app N0 N141q
    have ne142 : a0 ≠ r141 := Nat.ne_of_lt (Nat.lt_of_lt_of_le E_a0.lt gq_r141)
    have ne143 : a1 ≠ r141 := Nat.ne_of_lt (Nat.lt_of_lt_of_le V_a1.lt gq_r141)
    have gs_r141 : h0.size ≤ r141 := Nat.le_trans (Keep.refl h0 [a0]).1 gq_r141
    have x144 := E_a0.keep K141
    have x145 := F_value_a0.keep K141 nin0
    have x146 := F_coder_a0.keep K141 nin0
    have x147 := O_.keep K141 all0
    have x148 := V_a1.keep K141 nin0
    have sz149 : n0 ≤ T141.heap.size := Nat.le_trans Z0 K141.1
    have kp150 : Keep h0 T141.heap [a0] := (Keep.refl h0 [a0]).trans K141 all0
    obtain ⟨_, _, ⟨T151, L151, k151, n151⟩, -, X151, ⟨Lc151, hQ151, l151, y151, z151⟩, st151⟩ := Jvm.LawKit.callS X141 hx (y := (⟨"java/lang/StringUTF16", "coderFromArrayLen", "([BI)B"⟩ : MethodName)) hown (mvT hZ (own_wk hw 82 rfl)) (mvT hZ (own_wk hw 83 rfl)) (mvT hZ (own_wk hw 77 rfl)) (mvT hZ (own_wk hw 84 rfl)) (by decide) (backOf (W := 1) (rm18 l Z ag hw [] r141 (1 : Int32) kr141 (1 : Int32) [(.int (nar .byte (c0.toInt8.toInt32)))] (0 : Int32) T141.heap n0 sz149 Vr141 (by decide)) hZ (own_wk hw 84 rfl) (own_wk hw 77 rfl) (by decide) (by decide)) (g := (mkF m 45 #[.val (.ref a0), .val (.ref a1), .val (.int 0), .val (.int 1), .val .null, .val (.ref r141)] [.int 1, (.ref r141), (.ref a0)])) rfl (by rw [hml]; rfl) (argsL := [(.ref r141), (.int (1 : Int32))]) (rest := [(.ref a0)]) (lenOf pd_18 rfl) rfl (by show 2 * 0 + _ ≤ _; exact Nat.le_of_eq rfl) (hb hby d9_45) (fun _ _ => ⟨rfl, rfl, (by decide : 2 + 0 ≤ _), (by decide : 9 + 0 ≤ _)⟩)
    dsimp only [Pt.U, Pt.locs, Pt.cells, Pt.slots] at X151 l151 y151 z151 st151 hQ151
    subst l151 y151 z151
    obtain ⟨rfl, N151q, e151⟩ := hQ151
    have N151 := Fr.app N141 N151q
    obtain ⟨T152, h152, X152, e152, W152, st152⟩ := putFN X151 hx hZ hown (own_wk hw 23 rfl) Via.refl e151 x146 x144 (Or.inr ⟨(own_wk hw 9 rfl), rfl, hnm⟩) (own_wk hw 6 rfl) (ty := .byte) (v' := (.int (0 : Int32))) (by decide) rfl (fits_nar_byte (0 : Int32)) (g := (mkF m 48 #[.val (.ref a0), .val (.ref a1), .val (.int 0), .val (.int 1), .val .null, .val (.ref r141)] [.int 0, (.ref a0)])) rfl rfl (hb hby d9_48)
    have Fw152 := x146.same W152
    have x153 := x144.wr W152
    have x154 := x145.other W152 (Or.inr (slot_ne (Or.inr (own_wk hw 8 rfl)) (Or.inr (own_wk hw 9 rfl)) (by decide) (t := (.array .byte)) (t' := .byte) (by decide) (by decide)))
    have x155 := x147.wr W152 ge_a0
    have x156 := x148.other W152 (Ne.symm ne_a0_a1)
    have x157 := Vr141.other W152 (Ne.symm ne142)
    have sz158 : n0 ≤ h152.size := Nat.le_trans sz149 (Keep.of_wr W152).1
    have kp159 : Keep h0 h152 [a0] := kp150.wr W152 (Or.inl (List.mem_of_getElem? (i := 0) rfl))
    have N152 := Fr.snoc X152 N151 ge_a0
    obtain ⟨T160, h160, X160, e160, W160, st160⟩ := putF X152 hx hZ hown (host := "") (Or.inl (own_wk hw 24 rfl)) Via.refl e152 x154 x153 (Or.inr ⟨(own_wk hw 8 rfl), rfl, hnm⟩) (own_wk hw 6 rfl) (ty := (.array .byte)) (by decide) rfl rfl (g := (mkF m 54 #[.val (.ref a0), .val (.ref a1), .val (.int 0), .val (.int 1), .val .null, .val (.ref r141)] [(.ref r141), (.ref a0)])) rfl rfl (hb hby d9_54)
    have Fw160 := x154.same W160
    have x161 := x153.wr W160
    have x162 := x155.wr W160 ge_a0
    have x163 := x156.other W160 (Ne.symm ne_a0_a1)
    have x164 := x157.other W160 (Ne.symm ne142)
    have x165 := Fw152.other W160 (Or.inr (slot_ne (Or.inr (own_wk hw 9 rfl)) (Or.inr (own_wk hw 8 rfl)) (by decide) (t := .byte) (t' := (.array .byte)) (by decide) (by decide)))
    have sz166 : n0 ≤ h160.size := Nat.le_trans sz158 (Keep.of_wr W160).1
    have kp167 : Keep h0 h160 [a0] := kp159.wr W160 (Or.inl (List.mem_of_getElem? (i := 0) rfl))
    have N160 := Fr.snoc X160 N152 ge_a0
    obtain ⟨fs, hr, hrun, hended, hW, hsame⟩ := X160.leave (v := none) (fun _ => rfl)
    refine ⟨_, _, pre0 _ ?_, hrun, hended, _, _, rfl, ?_, ⟨_, rfl⟩, hW, hsame.mono (by decide) (by decide)⟩
    · show own_S p e below s₁ (mkF m 0 #[.val (.ref a0), .val (.ref a1), .val (.int 0), .val (.int 1), .val .null, .unset] []) _
      refine XS.aloadN X0.here hx rfl (hb hby d9_0) rfl rfl ?_
      show own_S p e below s₁ (mkF m 1 #[.val (.ref a0), .val (.ref a1), .val (.int 0), .val (.int 1), .val .null, .unset] [(.ref a0)]) _
      refine st139 _ ?_
      show own_S p e below T139 (mkF m 4 #[.val (.ref a0), .val (.ref a1), .val (.int 0), .val (.int 1), .val .null, .unset] []) _
      refine XS.iloadN X139.here hx rfl (hb hby d9_4) rfl ?_
      refine XS.ifYes X139.here hx rfl (pc0 := 5) (pc' := 27) rfl (hb hby d9_5) rfl ((if0 _ _).trans (feq (by decide : ¬ ((1 : Int32) = (0 : Int32)))).2) (by decide) (by decide) ?_
      show own_S p e below T139 (mkF m 27 #[.val (.ref a0), .val (.ref a1), .val (.int 0), .val (.int 1), .val .null, .unset] []) _
      refine st140 _ ?_
      show own_S p e below T140 (mkF m 30 #[.val (.ref a0), .val (.ref a1), .val (.int 0), .val (.int 1), .val .null, .unset] [(.int cs)]) _
      refine XS.ifNo X140.here hx rfl (hb hby d9_30) rfl ((if0 _ _).trans (feq (show ¬ (cs = (0 : Int32)) from hcs)).1) ?_
      show own_S p e below T140 (mkF m 33 #[.val (.ref a0), .val (.ref a1), .val (.int 0), .val (.int 1), .val .null, .unset] []) _
      refine XS.aloadN X140.here hx rfl (hb hby d9_33) rfl rfl ?_
      refine XS.iloadN X140.here hx rfl (hb hby d9_34) rfl ?_
      refine XS.iloadN X140.here hx rfl (hb hby d9_35) rfl ?_
      show own_S p e below T140 (mkF m 36 #[.val (.ref a0), .val (.ref a1), .val (.int 0), .val (.int 1), .val .null, .unset] [.int 1, .int 0, (.ref a1)]) _
      refine st141 _ ?_
      show own_S p e below T141 (mkF m 39 #[.val (.ref a0), .val (.ref a1), .val (.int 0), .val (.int 1), .val .null, .unset] [(.ref r141)]) _
      refine XS.astore X141.here hx rfl (hb hby d9_39) rfl rfl (l' := #[.val (.ref a0), .val (.ref a1), .val (.int 0), .val (.int 1), .val .null, .val (.ref r141)]) rfl ?_
      show own_S p e below T141 (mkF m 41 #[.val (.ref a0), .val (.ref a1), .val (.int 0), .val (.int 1), .val .null, .val (.ref r141)] []) _
      refine XS.aloadN X141.here hx rfl (hb hby d9_41) rfl rfl ?_
      refine XS.aload X141.here hx rfl (hb hby d9_42) rfl rfl ?_
      refine XS.iloadN X141.here hx rfl (hb hby d9_44) rfl ?_
      show own_S p e below T141 (mkF m 45 #[.val (.ref a0), .val (.ref a1), .val (.int 0), .val (.int 1), .val .null, .val (.ref r141)] [.int 1, (.ref r141), (.ref a0)]) _
      refine st151 _ ?_
      show own_S p e below T151 (mkF m 48 #[.val (.ref a0), .val (.ref a1), .val (.int 0), .val (.int 1), .val .null, .val (.ref r141)] [.int 0, (.ref a0)]) _
      refine st152 _ ?_
      show own_S p e below T152 (mkF m 51 #[.val (.ref a0), .val (.ref a1), .val (.int 0), .val (.int 1), .val .null, .val (.ref r141)] []) _
      refine XS.aloadN X152.here hx rfl (hb hby d9_51) rfl rfl ?_
      refine XS.aload X152.here hx rfl (hb hby d9_52) rfl rfl ?_
      show own_S p e below T152 (mkF m 54 #[.val (.ref a0), .val (.ref a1), .val (.int 0), .val (.int 1), .val .null, .val (.ref r141)] [(.ref r141), (.ref a0)]) _
      refine st160 _ ?_
      show own_S p e below T160 (mkF m 57 #[.val (.ref a0), .val (.ref a1), .val (.int 0), .val (.int 1), .val .null, .val (.ref r141)] []) _
      exact X160.returnOut hx Bd.returns (hb hby d9_57) hr
    · show Q9_s1 Z a0 a1 kc c0 cs h0 n0 _ T160.heap _
      rw [e160]
      exact ⟨rfl, N160, kp167, ⟨x161, (by decide : 1 ≤ 4), r141, kr141, (1 : Int32), (0 : Int32), _, Fw160, x165, x164, Or.inl ⟨rfl, rfl, own_lat_of1 hr_c0 hl141_0⟩⟩⟩
  · obtain ⟨rfl, rfl⟩ := q141
    have N141 := Fr.app N0 N141q
    have ne168 : a0 ≠ r141 := Nat.ne_of_lt (Nat.lt_of_lt_of_le E_a0.lt gq_r141)
    have ne169 : a1 ≠ r141 := Nat.ne_of_lt (Nat.lt_of_lt_of_le V_a1.lt gq_r141)
    have gs_r141 : h0.size ≤ r141 := Nat.le_trans (Keep.refl h0 [a0]).1 gq_r141
    have x170 := E_a0.keep K141
    have x171 := F_value_a0.keep K141 nin0
    have x172 := F_coder_a0.keep K141 nin0
    have x173 := O_.keep K141 all0
    have x174 := V_a1.keep K141 nin0
    have sz175 : n0 ≤ T141.heap.size := Nat.le_trans Z0 K141.1
    have kp176 : Keep h0 T141.heap [a0] := (Keep.refl h0 [a0]).trans K141 all0
    obtain ⟨_, _, ⟨T177, L177, k177, n177⟩, -, X177, ⟨Lc177, hQ177, l177, y177, z177⟩, st177⟩ := Jvm.LawKit.callS X141 hx (y := (⟨"java/lang/StringUTF16", "coderFromArrayLen", "([BI)B"⟩ : MethodName)) hown (mvT hZ (own_wk hw 82 rfl)) (mvT hZ (own_wk hw 83 rfl)) (mvT hZ (own_wk hw 77 rfl)) (mvT hZ (own_wk hw 84 rfl)) (by decide) (backOf (W := 1) (rm18 l Z ag hw [] r141 (1 : Int32) kr141 (2 : Int32) [(.int (nar .byte ((c0 >>> ((0 : Int32) &&& 31)).toInt8.toInt32))), (.int (nar .byte ((c0 >>> ((8 : Int32) &&& 31)).toInt8.toInt32)))] (1 : Int32) T141.heap n0 sz175 Vr141 (by decide)) hZ (own_wk hw 84 rfl) (own_wk hw 77 rfl) (by decide) (by decide)) (g := (mkF m 45 #[.val (.ref a0), .val (.ref a1), .val (.int 0), .val (.int 1), .val .null, .val (.ref r141)] [.int 1, (.ref r141), (.ref a0)])) rfl (by rw [hml]; rfl) (argsL := [(.ref r141), (.int (1 : Int32))]) (rest := [(.ref a0)]) (lenOf pd_18 rfl) rfl (by show 2 * 0 + _ ≤ _; exact Nat.le_of_eq rfl) (hb hby d9_45) (fun _ _ => ⟨rfl, rfl, (by decide : 2 + 0 ≤ _), (by decide : 9 + 0 ≤ _)⟩)
    dsimp only [Pt.U, Pt.locs, Pt.cells, Pt.slots] at X177 l177 y177 z177 st177 hQ177
    subst l177 y177 z177
    obtain ⟨rfl, N177q, e177⟩ := hQ177
    have N177 := Fr.app N141 N177q
    obtain ⟨T178, h178, X178, e178, W178, st178⟩ := putFN X177 hx hZ hown (own_wk hw 23 rfl) Via.refl e177 x172 x170 (Or.inr ⟨(own_wk hw 9 rfl), rfl, hnm⟩) (own_wk hw 6 rfl) (ty := .byte) (v' := (.int (1 : Int32))) (by decide) rfl (fits_nar_byte (1 : Int32)) (g := (mkF m 48 #[.val (.ref a0), .val (.ref a1), .val (.int 0), .val (.int 1), .val .null, .val (.ref r141)] [.int 1, (.ref a0)])) rfl rfl (hb hby d9_48)
    have Fw178 := x172.same W178
    have x179 := x170.wr W178
    have x180 := x171.other W178 (Or.inr (slot_ne (Or.inr (own_wk hw 8 rfl)) (Or.inr (own_wk hw 9 rfl)) (by decide) (t := (.array .byte)) (t' := .byte) (by decide) (by decide)))
    have x181 := x173.wr W178 ge_a0
    have x182 := x174.other W178 (Ne.symm ne_a0_a1)
    have x183 := Vr141.other W178 (Ne.symm ne168)
    have sz184 : n0 ≤ h178.size := Nat.le_trans sz175 (Keep.of_wr W178).1
    have kp185 : Keep h0 h178 [a0] := kp176.wr W178 (Or.inl (List.mem_of_getElem? (i := 0) rfl))
    have N178 := Fr.snoc X178 N177 ge_a0
    obtain ⟨T186, h186, X186, e186, W186, st186⟩ := putF X178 hx hZ hown (host := "") (Or.inl (own_wk hw 24 rfl)) Via.refl e178 x180 x179 (Or.inr ⟨(own_wk hw 8 rfl), rfl, hnm⟩) (own_wk hw 6 rfl) (ty := (.array .byte)) (by decide) rfl rfl (g := (mkF m 54 #[.val (.ref a0), .val (.ref a1), .val (.int 0), .val (.int 1), .val .null, .val (.ref r141)] [(.ref r141), (.ref a0)])) rfl rfl (hb hby d9_54)
    have Fw186 := x180.same W186
    have x187 := x179.wr W186
    have x188 := x181.wr W186 ge_a0
    have x189 := x182.other W186 (Ne.symm ne_a0_a1)
    have x190 := x183.other W186 (Ne.symm ne168)
    have x191 := Fw178.other W186 (Or.inr (slot_ne (Or.inr (own_wk hw 9 rfl)) (Or.inr (own_wk hw 8 rfl)) (by decide) (t := .byte) (t' := (.array .byte)) (by decide) (by decide)))
    have sz192 : n0 ≤ h186.size := Nat.le_trans sz184 (Keep.of_wr W186).1
    have kp193 : Keep h0 h186 [a0] := kp185.wr W186 (Or.inl (List.mem_of_getElem? (i := 0) rfl))
    have N186 := Fr.snoc X186 N178 ge_a0
    obtain ⟨fs, hr, hrun, hended, hW, hsame⟩ := X186.leave (v := none) (fun _ => rfl)
    refine ⟨_, _, pre0 _ ?_, hrun, hended, _, _, rfl, ?_, ⟨_, rfl⟩, hW, hsame.mono (by decide) (by decide)⟩
    · show own_S p e below s₁ (mkF m 0 #[.val (.ref a0), .val (.ref a1), .val (.int 0), .val (.int 1), .val .null, .unset] []) _
      refine XS.aloadN X0.here hx rfl (hb hby d9_0) rfl rfl ?_
      show own_S p e below s₁ (mkF m 1 #[.val (.ref a0), .val (.ref a1), .val (.int 0), .val (.int 1), .val .null, .unset] [(.ref a0)]) _
      refine st139 _ ?_
      show own_S p e below T139 (mkF m 4 #[.val (.ref a0), .val (.ref a1), .val (.int 0), .val (.int 1), .val .null, .unset] []) _
      refine XS.iloadN X139.here hx rfl (hb hby d9_4) rfl ?_
      refine XS.ifYes X139.here hx rfl (pc0 := 5) (pc' := 27) rfl (hb hby d9_5) rfl ((if0 _ _).trans (feq (by decide : ¬ ((1 : Int32) = (0 : Int32)))).2) (by decide) (by decide) ?_
      show own_S p e below T139 (mkF m 27 #[.val (.ref a0), .val (.ref a1), .val (.int 0), .val (.int 1), .val .null, .unset] []) _
      refine st140 _ ?_
      show own_S p e below T140 (mkF m 30 #[.val (.ref a0), .val (.ref a1), .val (.int 0), .val (.int 1), .val .null, .unset] [(.int cs)]) _
      refine XS.ifNo X140.here hx rfl (hb hby d9_30) rfl ((if0 _ _).trans (feq (show ¬ (cs = (0 : Int32)) from hcs)).1) ?_
      show own_S p e below T140 (mkF m 33 #[.val (.ref a0), .val (.ref a1), .val (.int 0), .val (.int 1), .val .null, .unset] []) _
      refine XS.aloadN X140.here hx rfl (hb hby d9_33) rfl rfl ?_
      refine XS.iloadN X140.here hx rfl (hb hby d9_34) rfl ?_
      refine XS.iloadN X140.here hx rfl (hb hby d9_35) rfl ?_
      show own_S p e below T140 (mkF m 36 #[.val (.ref a0), .val (.ref a1), .val (.int 0), .val (.int 1), .val .null, .unset] [.int 1, .int 0, (.ref a1)]) _
      refine st141 _ ?_
      show own_S p e below T141 (mkF m 39 #[.val (.ref a0), .val (.ref a1), .val (.int 0), .val (.int 1), .val .null, .unset] [(.ref r141)]) _
      refine XS.astore X141.here hx rfl (hb hby d9_39) rfl rfl (l' := #[.val (.ref a0), .val (.ref a1), .val (.int 0), .val (.int 1), .val .null, .val (.ref r141)]) rfl ?_
      show own_S p e below T141 (mkF m 41 #[.val (.ref a0), .val (.ref a1), .val (.int 0), .val (.int 1), .val .null, .val (.ref r141)] []) _
      refine XS.aloadN X141.here hx rfl (hb hby d9_41) rfl rfl ?_
      refine XS.aload X141.here hx rfl (hb hby d9_42) rfl rfl ?_
      refine XS.iloadN X141.here hx rfl (hb hby d9_44) rfl ?_
      show own_S p e below T141 (mkF m 45 #[.val (.ref a0), .val (.ref a1), .val (.int 0), .val (.int 1), .val .null, .val (.ref r141)] [.int 1, (.ref r141), (.ref a0)]) _
      refine st177 _ ?_
      show own_S p e below T177 (mkF m 48 #[.val (.ref a0), .val (.ref a1), .val (.int 0), .val (.int 1), .val .null, .val (.ref r141)] [.int 1, (.ref a0)]) _
      refine st178 _ ?_
      show own_S p e below T178 (mkF m 51 #[.val (.ref a0), .val (.ref a1), .val (.int 0), .val (.int 1), .val .null, .val (.ref r141)] []) _
      refine XS.aloadN X178.here hx rfl (hb hby d9_51) rfl rfl ?_
      refine XS.aload X178.here hx rfl (hb hby d9_52) rfl rfl ?_
      show own_S p e below T178 (mkF m 54 #[.val (.ref a0), .val (.ref a1), .val (.int 0), .val (.int 1), .val .null, .val (.ref r141)] [(.ref r141), (.ref a0)]) _
      refine st186 _ ?_
      show own_S p e below T186 (mkF m 57 #[.val (.ref a0), .val (.ref a1), .val (.int 0), .val (.int 1), .val .null, .val (.ref r141)] []) _
      exact X186.returnOut hx Bd.returns (hb hby d9_57) hr
    · show Q9_s1 Z a0 a1 kc c0 cs h0 n0 _ T186.heap _
      rw [e186]
      exact ⟨rfl, N186, kp193, ⟨x187, (by decide : 1 ≤ 4), r141, kr141, (2 : Int32), (1 : Int32), _, Fw186, x191, x190, Or.inr ⟨rfl, rfl, own_u16_of1 hr_c0⟩⟩⟩
def Q8_s1 (Z : State) (a0 : Addr) (a1 : Addr) (kc : ClassId) (c0 : Int32) (cs : Int32) (h0 : Heap) (n0 : Nat) (v : Option Value) (h : Heap) (L : List Loc) : Prop := v = none ∧ Fr n0 L ∧ Keep h0 h [a0] ∧ own_str Z h a0 [c0]
set_option maxRecDepth 65536 in
set_option maxHeartbeats 40000000 in
theorem rm8_s1 (l : Launch) (Z : State) (ag : Array Value) (hw : ∀ d ∈ tables_1, d.before ag Z = true) (ws : List Jvm.Cond) (a0 : Addr) (a1 : Addr) (kc : ClassId) (c0 : Int32) (cs : Int32) (h0 : Heap) (n0 : Nat) (Z0 : n0 ≤ h0.size) (E_a0 : Exa Z h0 a0 "java/lang/String") (F_value_a0 : Fld Z h0 a0 "java/lang/String" "value" "[B" .null) (F_coder_a0 : Fld Z h0 a0 "java/lang/String" "coder" "B" (.int (0 : Int32))) (ge_a0 : n0 ≤ a0) (ne_a0_a1 : a0 ≠ a1) (O_ : Old Z n0 h0) (S_cs : Sta Z Z.heap "java/lang/String" "COMPACT_STRINGS" "Z" (.int cs)) (hcs : ¬ cs = (0 : Int32)) (S_ad : Sta Z Z.heap "java/lang/StringUTF16" "$assertionsDisabled" "Z" (.int (1 : Int32))) (S_hi : Sta Z Z.heap "java/lang/StringUTF16" "HI_BYTE_SHIFT" "I" (.int (0 : Int32))) (S_lo : Sta Z Z.heap "java/lang/StringUTF16" "LO_BYTE_SHIFT" "I" (.int (8 : Int32))) (V_a1 : Arv Z h0 a1 kc .char (1 : Int32) [(.int c0)] (.int (0 : Int32))) (hr_c0 : 0 ≤ c0.toInt ∧ c0.toInt < 65536) :
    MetFree l (⟨"java/lang/String", "<init>", "([C)V"⟩ : MethodName) (head1 (Jvm.Cond.code (⟨"java/lang/String", "<init>", "([C)V"⟩ : MethodName) jdk_42_method_3_code 2 none :: ws) ({ frames := 5, cells := 4, slots := 40, locals := 110 } : Room)) (fun a U => a = #[(.ref a0), (.ref a1)] ∧ Z.Warmed39 U.vm ∧ U.heap = h0 ∧ CHv Z own_EL U.vm h0) (fun _ _ _ _ _ => True) (fun _ U o U' => ∃ v L, o = .returned v ∧ Q8_s1 Z a0 a1 kc c0 cs h0 n0 v U'.heap L ∧ CHr Z own_EL U.vm U.heap U'.vm U'.heap ∧ ReturnedEndW U o U' L ({ frames := 5, cells := 4, slots := 40, locals := 110 } : Room).cells ({ frames := 5, cells := 4, slots := 40, locals := 110 } : Room).slots) := by
  refine MetFree.of_bodySF (plainFor_of_name pn_4) hisR ?_
  intro p e s m args below meth c s₁ Bd hml0 hP hK
  obtain ⟨rfl, hZ, hh, hI⟩ := hP
  have hx := Bd.exec
  have hby := Bd.bytes
  have hml : c.maxLocals = 2 := hml0
  have hown : s.vm.findClass "java/lang/String" = some m.cls := findClass_of_methodNamed Bd.named
  have hnm := (name_of_methodNamed Bd.named Bd.method).1
  have X0 : Stand p l e ({ frames := 5, cells := 4, slots := 40, locals := 110 } : Room) s m #[(.ref a0), (.ref a1)] below meth c s₁ [] 0 0 := Stand.of_body Bd
  have e0 : s₁.heap = h0 := by rw [← hh, Bd.state]; rfl
  have N0 := Fr.nil n0
  have pre0 : ∀ t, Steps p.tables e below (s₁.setTop (mkF m 0 #[.val (.ref a0), .val (.ref a1)] [])) t → Steps p.tables e below (s₁.setTop (entryFrame m #[(.ref a0), (.ref a1)] 2)) t := fun t k => castTop (ef_8 m a0 a1) k
  have X0 : Stand p l e ({ frames := 5, cells := 4, slots := 40, locals := 110 } : Room) (s.setVm s.vm) m #[(.ref a0), (.ref a1)] below meth c s₁ [] 0 0 := X0
  have hS : s.Since s.vm 0 := (State.WarmedH.refl s).since 0
  have hkS : 0 ≤ h0.size := Nat.zero_le _
  have hC : CHr Z own_EL s.vm h0 s.vm h0 := CHr.refl hI
  have hEL : EW Z ag own_EL := own_ew hw
  have hwS : ∀ d ∈ Bundle.stringAtoms, d.before ag Z = true := fun d hd => hw d ((by decide +kernel : ∀ d ∈ Bundle.stringAtoms, d ∈ tables_1) d hd)
  have sf_a0 := own_safe_str hC hZ.alike E_a0 F_value_a0 (own_wk hw 6 rfl)
  obtain ⟨cl194, Ar194, -, S194, M194, -, -⟩ := id V_a1
  have ld194 := X0.arraylength hx (by rw [e0]; exact Ar194.1) (State.isArrayOf_alike hZ.alike Ar194.2.1) (g := (mkF m 4 #[.val (.ref a0), .val (.ref a1)] [(.ref a1), .int 0, (.ref a1), (.ref a0)])) rfl rfl (hb hby d8_4)
  obtain ⟨_, _, ⟨T195, L195, k195, n195⟩, -, X195, ⟨Lc195, hQ195, l195, y195, z195⟩, st195⟩ := X0.specialBack hx (y := (⟨"java/lang/String", "<init>", "([CIILjava/lang/Void;)V"⟩ : MethodName)) rfl hown (mvT hZ (own_wk hw 45 rfl)) (mvT hZ (own_wk hw 46 rfl)) (mvT hZ (own_wk hw 48 rfl)) (by decide) (backOf (W := 0) (rm9_s1 l Z ag hw [] a0 a1 kc c0 cs h0 n0 Z0 E_a0 F_value_a0 F_coder_a0 ge_a0 ne_a0_a1 O_ S_cs hcs S_ad S_hi S_lo V_a1 hr_c0) hZ (own_wk hw 48 rfl) (own_wk hw 5 rfl) (by decide) (by decide)) (g := (mkF m 6 #[.val (.ref a0), .val (.ref a1)] [.null, .int 1, .int 0, (.ref a1), (.ref a0)])) rfl (by rw [hml]; rfl) (Steps.refl _) (a := a0) (argsL := [(.ref a1), (.int (0 : Int32)), (.int (1 : Int32)), .null]) (rest := []) (lenOf pd_24 rfl) rfl (by show 2 * 0 + _ ≤ _; exact Nat.le_of_eq rfl) (hb hby d8_6) (fun _ _ => ⟨rfl, e0, (by decide : 0 + 2 ≤ _), (by decide : 0 + 9 ≤ _)⟩)
  dsimp only [Pt.U, Pt.locs, Pt.cells, Pt.slots] at X195 l195 y195 z195 st195 hQ195
  subst l195 y195 z195
  obtain ⟨rfl, N195q, K195, Ss195⟩ := hQ195
  have N195 := Fr.app N0 N195q
  have x196 := E_a0.keep K195
  have x197 := O_.keep K195 (allS ge_a0 all0)
  have x198 := V_a1.keep K195 (ninS (Ne.symm ne_a0_a1) nin0)
  have x199 := Safe.keep K195 (sfS sf_a0 sf0) hC.1 sf_a0
  have sz200 : n0 ≤ T195.heap.size := Nat.le_trans Z0 K195.1
  have hkS := Nat.le_trans hkS K195.1
  have hC := hC.trans (CHr.keep K195 (sfS sf_a0 sf0) hC.1)
  have kp201 : Keep h0 T195.heap [a0] := (Keep.refl h0 [a0]).trans K195 (allS (Or.inl (List.mem_of_getElem? (i := 0) rfl)) all0)
  obtain ⟨fs, hr, hrun, hended, hEnd⟩ := X195.leaveW hS hkS (v := none) (fun _ => rfl)
  refine ⟨_, _, pre0 _ ?_, hrun, hended, _, _, rfl, ?_, ?_, hEnd.1, hEnd.2.1, hEnd.2.2.1, hEnd.2.2.2.mono (by decide) (by decide)⟩
  · show own_S p e below s₁ (mkF m 0 #[.val (.ref a0), .val (.ref a1)] []) _
    refine XS.aloadN X0.here hx rfl (hb hby d8_0) rfl rfl ?_
    refine XS.aloadN X0.here hx rfl (hb hby d8_1) rfl rfl ?_
    refine XS.iconst X0.here hx rfl (hb hby d8_2) ?_
    refine XS.aloadN X0.here hx rfl (hb hby d8_3) rfl rfl ?_
    show own_S p e below s₁ (mkF m 4 #[.val (.ref a0), .val (.ref a1)] [(.ref a1), .int 0, (.ref a1), (.ref a0)]) _
    refine ld194 _ ?_
    rw [len_of S194 M194]
    show own_S p e below s₁ (mkF m 5 #[.val (.ref a0), .val (.ref a1)] [.int 1, .int 0, (.ref a1), (.ref a0)]) _
    refine XS.aconstNull X0.here hx rfl (hb hby d8_5) ?_
    show own_S p e below s₁ (mkF m 6 #[.val (.ref a0), .val (.ref a1)] [.null, .int 1, .int 0, (.ref a1), (.ref a0)]) _
    refine st195.trans ?_
    show own_S p e below T195 (mkF m 9 #[.val (.ref a0), .val (.ref a1)] []) _
    exact X195.returnOut hx Bd.returns (hb hby d8_9) hr
  · show Q8_s1 Z a0 a1 kc c0 cs h0 n0 _ T195.heap _
    exact ⟨rfl, N195, kp201, Ss195⟩
  · show CHr Z own_EL s.vm s.heap T195.vm T195.heap
    rw [hh]
    exact hC.trans (CHv.at X195 hZ hEL hC.1)
theorem ef_27_v02 (m : MethodId) (a0 : Addr) : entryFrame m #[(.ref a0), (.int (0 : Int32)), (.int (2 : Int32))] 5 = mkF m 0 #[.val (.ref a0), .val (.int 0), .val (.int 2), .unset, .unset] [] := by first | (simp [entryFrame, mkF, argsToLocals, Value.category]; done) | rfl
def Q27_s2 (Z : State) (a0 : Addr) (kc : ClassId) (c0 : Int32) (c1 : Int32) (h0 : Heap) (n0 : Nat) (v : Option Value) (h : Heap) (L : List Loc) : Prop := ∃ (r : Addr) (kb : ClassId), v = some (.ref r) ∧ Fr n0 L ∧ Keep h0 h [] ∧ n0 ≤ r ∧ h0.size ≤ r ∧ Arv Z h r kb .byte (4 : Int32) [(.int (nar .byte ((c0 >>> ((0 : Int32) &&& 31)).toInt8.toInt32))), (.int (nar .byte ((c0 >>> ((8 : Int32) &&& 31)).toInt8.toInt32))), (.int (nar .byte ((c1 >>> ((0 : Int32) &&& 31)).toInt8.toInt32))), (.int (nar .byte ((c1 >>> ((8 : Int32) &&& 31)).toInt8.toInt32)))] (.int (0 : Int32))
set_option maxRecDepth 65536 in
set_option maxHeartbeats 40000000 in
theorem rm27_s2 (l : Launch) (Z : State) (ag : Array Value) (hw : ∀ d ∈ tables_1, d.before ag Z = true) (ws : List Jvm.Cond) (a0 : Addr) (kc : ClassId) (c0 : Int32) (c1 : Int32) (h0 : Heap) (n0 : Nat) (Z0 : n0 ≤ h0.size) (V_a0 : Arv Z h0 a0 kc .char (2 : Int32) [(.int c0), (.int c1)] (.int (0 : Int32))) (hr_c0 : 0 ≤ c0.toInt ∧ c0.toInt < 65536) (hr_c1 : 0 ≤ c1.toInt ∧ c1.toInt < 65536) (O_ : Old Z n0 h0) (S_ad : Sta Z Z.heap "java/lang/StringUTF16" "$assertionsDisabled" "Z" (.int (1 : Int32))) (S_hi : Sta Z Z.heap "java/lang/StringUTF16" "HI_BYTE_SHIFT" "I" (.int (0 : Int32))) (S_lo : Sta Z Z.heap "java/lang/StringUTF16" "LO_BYTE_SHIFT" "I" (.int (8 : Int32))) :
    MetFree l (⟨"java/lang/StringUTF16", "toBytes", "([CII)[B"⟩ : MethodName) (head1 (Jvm.Cond.code (⟨"java/lang/StringUTF16", "toBytes", "([CII)[B"⟩ : MethodName) jdk_52_method_14_code 5 (some (.array .byte)) :: ws) ({ frames := 2, cells := 1, slots := 8, locals := 24 } : Room)) (fun a U => a = #[(.ref a0), (.int (0 : Int32)), (.int (2 : Int32))] ∧ Z.Warmed39 U.vm ∧ U.heap = h0) (fun _ _ _ _ _ => True) (fun _ U o U' => ∃ v L, o = .returned v ∧ Q27_s2 Z a0 kc c0 c1 h0 n0 v U'.heap L ∧ FrameEnd U o U' L ({ frames := 2, cells := 1, slots := 8, locals := 24 } : Room).cells ({ frames := 2, cells := 1, slots := 8, locals := 24 } : Room).slots) := by
  refine MetFree.of_bodySF (plainFor_of_name pn_6) hisR ?_
  intro p e s m args below meth c s₁ Bd hml0 hP hK
  obtain ⟨rfl, hZ, hh⟩ := hP
  have hx := Bd.exec
  have hby := Bd.bytes
  have hml : c.maxLocals = 5 := hml0
  have hown : s.vm.findClass "java/lang/StringUTF16" = some m.cls := findClass_of_methodNamed Bd.named
  have hnm := (name_of_methodNamed Bd.named Bd.method).1
  have X0 : Stand p l e ({ frames := 2, cells := 1, slots := 8, locals := 24 } : Room) s m #[(.ref a0), (.int (0 : Int32)), (.int (2 : Int32))] below meth c s₁ [] 0 0 := Stand.of_body Bd
  have e0 : s₁.heap = h0 := by rw [← hh, Bd.state]; rfl
  have N0 := Fr.nil n0
  have pre0 : ∀ t, Steps p.tables e below (s₁.setTop (mkF m 0 #[.val (.ref a0), .val (.int 0), .val (.int 2), .unset, .unset] [])) t → Steps p.tables e below (s₁.setTop (entryFrame m #[(.ref a0), (.int (0 : Int32)), (.int (2 : Int32))] 5)) t := fun t k => castTop (ef_27_v02 m a0) k
  obtain ⟨_, _, ⟨T202, L202, k202, n202⟩, -, X202, ⟨Lc202, hQ202, l202, y202, z202⟩, st202⟩ := Jvm.LawKit.callS X0 hx (y := (⟨"java/lang/StringUTF16", "newBytesFor", "(I)[B"⟩ : MethodName)) hown (mvT hZ (own_wk hw 120 rfl)) (mvT hZ (own_wk hw 121 rfl)) (mvT hZ (own_wk hw 77 rfl)) (mvT hZ (own_wk hw 122 rfl)) (by decide) (backOf (W := 0) (rm28 l Z ag hw [] (2 : Int32) (4 : Int32) h0 n0 Z0 (by decide) (by decide) (by decide) (by decide) (by decide)) hZ (own_wk hw 122 rfl) (own_wk hw 77 rfl) (by decide) (by decide)) (g := (mkF m 1 #[.val (.ref a0), .val (.int 0), .val (.int 2), .unset, .unset] [.int 2])) rfl (by rw [hml]; rfl) (argsL := [(.int (2 : Int32))]) (rest := []) (lenOf pd_8 rfl) rfl (by show 2 * 0 + _ ≤ _; exact Nat.le_of_eq rfl) (hb hby d27_1) (fun _ _ => ⟨rfl, e0, (by decide : 0 + 1 ≤ _), (by decide : 0 + 8 ≤ _)⟩)
  dsimp only [Pt.U, Pt.locs, Pt.cells, Pt.slots] at X202 l202 y202 z202 st202 hQ202
  subst l202 y202 z202
  obtain ⟨r202, kr202, rfl, N202q, K202, ge_r202, gq_r202, Vr202⟩ := hQ202
  have N202 := Fr.app N0 N202q
  have Vr202 : Arv Z T202.heap r202 kr202 .byte (4 : Int32) [(.int (0 : Int32)), (.int (0 : Int32)), (.int (0 : Int32)), (.int (0 : Int32))] (.int (0 : Int32)) := Vr202.pad (pad_rep [] (.int (0 : Int32)) 4)
  have ne203 : a0 ≠ r202 := Nat.ne_of_lt (Nat.lt_of_lt_of_le V_a0.lt gq_r202)
  have gs_r202 : h0.size ≤ r202 := Nat.le_trans (Keep.refl h0 []).1 gq_r202
  have x204 := V_a0.keep K202 nin0
  have x205 := O_.keep K202 all0
  have sz206 : n0 ≤ T202.heap.size := Nat.le_trans Z0 K202.1
  have kp207 : Keep h0 T202.heap [] := (Keep.refl h0 []).trans K202 all0
  obtain ⟨cl208, Ar208, q208, S208, M208, H208, G208⟩ := id x204
  have hin208 : ¬ ((0 : Int32) < 0 ∨ cl208.slots.size ≤ ((0 : Int32)).toNatClampNeg) := inb_of S208 ⟨(by decide : ¬ (0 : Int32) < 0), (by decide : (0 : Int32) < (2 : Int32))⟩
  have hat208 : cl208.slots[((0 : Int32)).toNatClampNeg]? = some (.int c0) := Has.at H208 hin208 rfl
  have ld208 := X202.caload hx (j := (0 : Int32)) (v := (.int c0)) Ar208.1 (State.isArrayOf_alike hZ.alike Ar208.2.1) Ar208.2.2 hin208 hat208 (g := (mkF m 19 #[.val (.ref a0), .val (.int 0), .val (.int 2), .val (.ref r202), .val (.int 0)] [.int 0, (.ref a0), .int 0, (.ref r202)])) rfl rfl (hb hby d27_19)
  obtain ⟨_, _, ⟨T209, L209, k209, n209⟩, -, X209, ⟨Lc209, hQ209, l209, y209, z209⟩, st209⟩ := Jvm.LawKit.callS X202 hx (y := (⟨"java/lang/StringUTF16", "putChar", "([BII)V"⟩ : MethodName)) hown (mvT hZ (own_wk hw 127 rfl)) (mvT hZ (own_wk hw 128 rfl)) (mvT hZ (own_wk hw 77 rfl)) (mvT hZ (own_wk hw 129 rfl)) (by decide) (backOf (W := 0) (rm30 l Z ag hw [] r202 (0 : Int32) c0 kr202 (4 : Int32) [(.int (0 : Int32)), (.int (0 : Int32)), (.int (0 : Int32)), (.int (0 : Int32))] T202.heap n0 sz206 Vr202 ge_r202 (by decide) (by decide) (Nat.le_of_ble_eq_true rfl) (Nat.le_of_ble_eq_true rfl) x205 S_ad S_hi S_lo) hZ (own_wk hw 129 rfl) (own_wk hw 77 rfl) (by decide) (by decide)) (g := (mkF m 20 #[.val (.ref a0), .val (.int 0), .val (.int 2), .val (.ref r202), .val (.int 0)] [(.int c0), .int 0, (.ref r202)])) rfl (by rw [hml]; rfl) (argsL := [(.ref r202), (.int (0 : Int32)), (.int c0)]) (rest := []) (lenOf pd_20 rfl) rfl (by show 2 * 0 + _ ≤ _; exact Nat.le_of_eq rfl) (hb hby d27_20) (fun _ _ => ⟨rfl, rfl, (by decide : 1 + 0 ≤ _), (by decide : 8 + 0 ≤ _)⟩)
  dsimp only [Pt.U, Pt.locs, Pt.cells, Pt.slots] at X209 l209 y209 z209 st209 hQ209
  subst l209 y209 z209
  obtain ⟨rfl, N209q, K209, Vb209⟩ := hQ209
  have N209 := Fr.app N202 N209q
  have Vb209 : Arv Z T209.heap r202 kr202 .byte (4 : Int32) [(.int (nar .byte ((c0 >>> ((0 : Int32) &&& 31)).toInt8.toInt32))), (.int (nar .byte ((c0 >>> ((8 : Int32) &&& 31)).toInt8.toInt32))), (.int (0 : Int32)), (.int (0 : Int32))] (.int (0 : Int32)) := Vb209
  have x210 := x204.keep K209 (ninS ne203 nin0)
  have x211 := x205.keep K209 (allS ge_r202 all0)
  have sz212 : n0 ≤ T209.heap.size := Nat.le_trans sz206 K209.1
  have kp213 : Keep h0 T209.heap [] := kp207.trans K209 (allS (Or.inr gs_r202) all0)
  obtain ⟨cl214, Ar214, q214, S214, M214, H214, G214⟩ := id x210
  have hin214 : ¬ ((1 : Int32) < 0 ∨ cl214.slots.size ≤ ((1 : Int32)).toNatClampNeg) := inb_of S214 ⟨(by decide : ¬ (1 : Int32) < 0), (by decide : (1 : Int32) < (2 : Int32))⟩
  have hat214 : cl214.slots[((1 : Int32)).toNatClampNeg]? = some (.int c1) := Has.at H214 hin214 rfl
  have ld214 := X209.caload hx (j := (1 : Int32)) (v := (.int c1)) Ar214.1 (State.isArrayOf_alike hZ.alike Ar214.2.1) Ar214.2.2 hin214 hat214 (g := (mkF m 19 #[.val (.ref a0), .val (.int 1), .val (.int 2), .val (.ref r202), .val (.int 1)] [.int 1, (.ref a0), .int 1, (.ref r202)])) rfl rfl (hb hby d27_19)
  have cp215 : ∀ target, own_S p e below T209 (mkF m 20 #[.val (.ref a0), .val (.int 1), .val (.int 2), .val (.ref r202), .val (.int 1)] [(.int c1), .int 1, (.ref r202)]) target → own_S p e below s₁ (mkF m 0 #[.val (.ref a0), .val (.int 0), .val (.int 2), .unset, .unset] []) target := by
    intro target kt
    show own_S p e below s₁ (mkF m 0 #[.val (.ref a0), .val (.int 0), .val (.int 2), .unset, .unset] []) _
    refine XS.iloadN X0.here hx rfl (hb hby d27_0) rfl ?_
    show own_S p e below s₁ (mkF m 1 #[.val (.ref a0), .val (.int 0), .val (.int 2), .unset, .unset] [.int 2]) _
    refine st202 _ ?_
    show own_S p e below T202 (mkF m 4 #[.val (.ref a0), .val (.int 0), .val (.int 2), .unset, .unset] [(.ref r202)]) _
    refine XS.astoreN X202.here hx rfl (hb hby d27_4) rfl rfl (l' := #[.val (.ref a0), .val (.int 0), .val (.int 2), .val (.ref r202), .unset]) rfl ?_
    show own_S p e below T202 (mkF m 5 #[.val (.ref a0), .val (.int 0), .val (.int 2), .val (.ref r202), .unset] []) _
    refine XS.iconst X202.here hx rfl (hb hby d27_5) ?_
    refine XS.istore X202.here hx rfl (hb hby d27_6) rfl (l' := #[.val (.ref a0), .val (.int 0), .val (.int 2), .val (.ref r202), .val (.int 0)]) rfl ?_
    show own_S p e below T202 (mkF m 8 #[.val (.ref a0), .val (.int 0), .val (.int 2), .val (.ref r202), .val (.int 0)] []) _
    refine XS.iload X202.here hx rfl (hb hby d27_8) rfl ?_
    refine XS.iloadN X202.here hx rfl (hb hby d27_10) rfl ?_
    refine XS.icmpNo X202.here hx rfl (hb hby d27_11) rfl (tlt (by decide : (0 : Int32) < (2 : Int32))).2.1 ?_
    show own_S p e below T202 (mkF m 14 #[.val (.ref a0), .val (.int 0), .val (.int 2), .val (.ref r202), .val (.int 0)] []) _
    refine XS.aloadN X202.here hx rfl (hb hby d27_14) rfl rfl ?_
    refine XS.iload X202.here hx rfl (hb hby d27_15) rfl ?_
    refine XS.aloadN X202.here hx rfl (hb hby d27_17) rfl rfl ?_
    refine XS.iloadN X202.here hx rfl (hb hby d27_18) rfl ?_
    show own_S p e below T202 (mkF m 19 #[.val (.ref a0), .val (.int 0), .val (.int 2), .val (.ref r202), .val (.int 0)] [.int 0, (.ref a0), .int 0, (.ref r202)]) _
    refine ld208 _ ?_
    show own_S p e below T202 (mkF m 20 #[.val (.ref a0), .val (.int 0), .val (.int 2), .val (.ref r202), .val (.int 0)] [(.int c0), .int 0, (.ref r202)]) _
    refine st209 _ ?_
    show own_S p e below T209 (mkF m 23 #[.val (.ref a0), .val (.int 0), .val (.int 2), .val (.ref r202), .val (.int 0)] []) _
    refine XS.iinc X209.here hx rfl (hb hby d27_23) rfl (l' := #[.val (.ref a0), .val (.int 1), .val (.int 2), .val (.ref r202), .val (.int 0)]) rfl ?_
    show own_S p e below T209 (mkF m 26 #[.val (.ref a0), .val (.int 1), .val (.int 2), .val (.ref r202), .val (.int 0)] []) _
    refine XS.iinc X209.here hx rfl (hb hby d27_26) rfl (l' := #[.val (.ref a0), .val (.int 1), .val (.int 2), .val (.ref r202), .val (.int 1)]) rfl ?_
    show own_S p e below T209 (mkF m 29 #[.val (.ref a0), .val (.int 1), .val (.int 2), .val (.ref r202), .val (.int 1)] []) _
    refine XS.goto X209.here hx rfl (pc0 := 29) (pc' := 8) rfl (hb hby d27_29) (by decide) (by decide) ?_
    show own_S p e below T209 (mkF m 8 #[.val (.ref a0), .val (.int 1), .val (.int 2), .val (.ref r202), .val (.int 1)] []) _
    refine XS.iload X209.here hx rfl (hb hby d27_8) rfl ?_
    refine XS.iloadN X209.here hx rfl (hb hby d27_10) rfl ?_
    refine XS.icmpNo X209.here hx rfl (hb hby d27_11) rfl (tlt (by decide : (1 : Int32) < (2 : Int32))).2.1 ?_
    show own_S p e below T209 (mkF m 14 #[.val (.ref a0), .val (.int 1), .val (.int 2), .val (.ref r202), .val (.int 1)] []) _
    refine XS.aloadN X209.here hx rfl (hb hby d27_14) rfl rfl ?_
    refine XS.iload X209.here hx rfl (hb hby d27_15) rfl ?_
    refine XS.aloadN X209.here hx rfl (hb hby d27_17) rfl rfl ?_
    refine XS.iloadN X209.here hx rfl (hb hby d27_18) rfl ?_
    show own_S p e below T209 (mkF m 19 #[.val (.ref a0), .val (.int 1), .val (.int 2), .val (.ref r202), .val (.int 1)] [.int 1, (.ref a0), .int 1, (.ref r202)]) _
    refine ld214 _ ?_
    exact kt
  obtain ⟨_, _, ⟨T216, L216, k216, n216⟩, -, X216, ⟨Lc216, hQ216, l216, y216, z216⟩, st216⟩ := Jvm.LawKit.callS X209 hx (y := (⟨"java/lang/StringUTF16", "putChar", "([BII)V"⟩ : MethodName)) hown (mvT hZ (own_wk hw 127 rfl)) (mvT hZ (own_wk hw 128 rfl)) (mvT hZ (own_wk hw 77 rfl)) (mvT hZ (own_wk hw 129 rfl)) (by decide) (backOf (W := 0) (rm30 l Z ag hw [] r202 (1 : Int32) c1 kr202 (4 : Int32) [(.int (nar .byte ((c0 >>> ((0 : Int32) &&& 31)).toInt8.toInt32))), (.int (nar .byte ((c0 >>> ((8 : Int32) &&& 31)).toInt8.toInt32))), (.int (0 : Int32)), (.int (0 : Int32))] T209.heap n0 sz212 Vb209 ge_r202 (by decide) (by decide) (Nat.le_of_ble_eq_true rfl) (Nat.le_of_ble_eq_true rfl) x211 S_ad S_hi S_lo) hZ (own_wk hw 129 rfl) (own_wk hw 77 rfl) (by decide) (by decide)) (g := (mkF m 20 #[.val (.ref a0), .val (.int 1), .val (.int 2), .val (.ref r202), .val (.int 1)] [(.int c1), .int 1, (.ref r202)])) rfl (by rw [hml]; rfl) (argsL := [(.ref r202), (.int (1 : Int32)), (.int c1)]) (rest := []) (lenOf pd_20 rfl) rfl (by show 2 * 0 + _ ≤ _; exact Nat.le_of_eq rfl) (hb hby d27_20) (fun _ _ => ⟨rfl, rfl, (by decide : 1 + 0 ≤ _), (by decide : 8 + 0 ≤ _)⟩)
  dsimp only [Pt.U, Pt.locs, Pt.cells, Pt.slots] at X216 l216 y216 z216 st216 hQ216
  subst l216 y216 z216
  obtain ⟨rfl, N216q, K216, Vb216⟩ := hQ216
  have N216 := Fr.app N209 N216q
  have Vb216 : Arv Z T216.heap r202 kr202 .byte (4 : Int32) [(.int (nar .byte ((c0 >>> ((0 : Int32) &&& 31)).toInt8.toInt32))), (.int (nar .byte ((c0 >>> ((8 : Int32) &&& 31)).toInt8.toInt32))), (.int (nar .byte ((c1 >>> ((0 : Int32) &&& 31)).toInt8.toInt32))), (.int (nar .byte ((c1 >>> ((8 : Int32) &&& 31)).toInt8.toInt32)))] (.int (0 : Int32)) := Vb216
  have x217 := x210.keep K216 (ninS ne203 nin0)
  have x218 := x211.keep K216 (allS ge_r202 all0)
  have sz219 : n0 ≤ T216.heap.size := Nat.le_trans sz212 K216.1
  have kp220 : Keep h0 T216.heap [] := kp213.trans K216 (allS (Or.inr gs_r202) all0)
  obtain ⟨fs, hr, hrun, hended, hW, hsame⟩ := X216.leave (v := some (.ref r202)) (fun h => by rw [Bd.returns] at h; cases h)
  refine ⟨_, _, pre0 _ ?_, hrun, hended, _, _, rfl, ?_, ⟨_, rfl⟩, hW, hsame.mono (by decide) (by decide)⟩
  · show own_S p e below s₁ (mkF m 0 #[.val (.ref a0), .val (.int 0), .val (.int 2), .unset, .unset] []) _
    refine cp215 _ ?_
    show own_S p e below T209 (mkF m 20 #[.val (.ref a0), .val (.int 1), .val (.int 2), .val (.ref r202), .val (.int 1)] [(.int c1), .int 1, (.ref r202)]) _
    refine st216 _ ?_
    show own_S p e below T216 (mkF m 23 #[.val (.ref a0), .val (.int 1), .val (.int 2), .val (.ref r202), .val (.int 1)] []) _
    refine XS.iinc X216.here hx rfl (hb hby d27_23) rfl (l' := #[.val (.ref a0), .val (.int 2), .val (.int 2), .val (.ref r202), .val (.int 1)]) rfl ?_
    show own_S p e below T216 (mkF m 26 #[.val (.ref a0), .val (.int 2), .val (.int 2), .val (.ref r202), .val (.int 1)] []) _
    refine XS.iinc X216.here hx rfl (hb hby d27_26) rfl (l' := #[.val (.ref a0), .val (.int 2), .val (.int 2), .val (.ref r202), .val (.int 2)]) rfl ?_
    show own_S p e below T216 (mkF m 29 #[.val (.ref a0), .val (.int 2), .val (.int 2), .val (.ref r202), .val (.int 2)] []) _
    refine XS.goto X216.here hx rfl (pc0 := 29) (pc' := 8) rfl (hb hby d27_29) (by decide) (by decide) ?_
    show own_S p e below T216 (mkF m 8 #[.val (.ref a0), .val (.int 2), .val (.int 2), .val (.ref r202), .val (.int 2)] []) _
    refine XS.iload X216.here hx rfl (hb hby d27_8) rfl ?_
    refine XS.iloadN X216.here hx rfl (hb hby d27_10) rfl ?_
    refine XS.icmpYes X216.here hx rfl (pc0 := 11) (pc' := 32) rfl (hb hby d27_11) rfl (flt (by decide : ¬ ((2 : Int32) < (2 : Int32)))).2.1 (by decide) (by decide) ?_
    show own_S p e below T216 (mkF m 32 #[.val (.ref a0), .val (.int 2), .val (.int 2), .val (.ref r202), .val (.int 2)] []) _
    refine XS.aloadN X216.here hx rfl (hb hby d27_32) rfl rfl ?_
    show own_S p e below T216 (mkF m 33 #[.val (.ref a0), .val (.int 2), .val (.int 2), .val (.ref r202), .val (.int 2)] [(.ref r202)]) _
    exact Jvm.RoadKit.retOut X216 hx Bd.returns rfl (Or.inr (Or.inr (Or.inr (Or.inr ⟨rfl, rfl, rfl⟩)))) (hb hby d27_33) hr
  · show Q27_s2 Z a0 kc c0 c1 h0 n0 _ T216.heap _
    exact ⟨r202, kr202, rfl, N216, kp220, ge_r202, gs_r202, Vb216⟩
theorem ef_17_v0v02 (m : MethodId) (a0 : Addr) (a2 : Addr) : entryFrame m #[(.ref a0), (.int (0 : Int32)), (.ref a2), (.int (0 : Int32)), (.int (2 : Int32))] 7 = mkF m 0 #[.val (.ref a0), .val (.int 0), .val (.ref a2), .val (.int 0), .val (.int 2), .unset, .unset] [] := by first | (simp [entryFrame, mkF, argsToLocals, Value.category]; done) | rfl
abbrev own_loc6 (a0 : Addr) (a2 : Addr) : Array Slot := #[.val (.ref a0), .val (.int 0), .val (.ref a2), .val (.int 0), .val (.int 2), .val (.int 0), .unset]
abbrev own_loc7 (a0 : Addr) (a2 : Addr) (c0 : Int32) : Array Slot := #[.val (.ref a0), .val (.int 0), .val (.ref a2), .val (.int 0), .val (.int 2), .val (.int 0), .val (.int c0)]
abbrev own_loc8 (a0 : Addr) (a2 : Addr) (c0 : Int32) : Array Slot := #[.val (.ref a0), .val (.int 1), .val (.ref a2), .val (.int 0), .val (.int 2), .val (.int 0), .val (.int c0)]
abbrev own_loc9 (a0 : Addr) (a2 : Addr) (c0 : Int32) : Array Slot := #[.val (.ref a0), .val (.int 1), .val (.ref a2), .val (.int 1), .val (.int 2), .val (.int 0), .val (.int c0)]
abbrev own_loc10 (a0 : Addr) (a2 : Addr) (c0 : Int32) : Array Slot := #[.val (.ref a0), .val (.int 1), .val (.ref a2), .val (.int 1), .val (.int 2), .val (.int 1), .val (.int c0)]
abbrev own_loc11 (a0 : Addr) (a2 : Addr) (c1 : Int32) : Array Slot := #[.val (.ref a0), .val (.int 1), .val (.ref a2), .val (.int 1), .val (.int 2), .val (.int 1), .val (.int c1)]
abbrev own_loc12 (a0 : Addr) (a2 : Addr) (c1 : Int32) : Array Slot := #[.val (.ref a0), .val (.int 2), .val (.ref a2), .val (.int 1), .val (.int 2), .val (.int 1), .val (.int c1)]
abbrev own_loc13 (a0 : Addr) (a2 : Addr) (c1 : Int32) : Array Slot := #[.val (.ref a0), .val (.int 2), .val (.ref a2), .val (.int 2), .val (.int 2), .val (.int 1), .val (.int c1)]
abbrev own_loc14 (a0 : Addr) (a2 : Addr) (c1 : Int32) : Array Slot := #[.val (.ref a0), .val (.int 2), .val (.ref a2), .val (.int 2), .val (.int 2), .val (.int 2), .val (.int c1)]
def Q17_s2 (Z : State) (a0 : Addr) (a2 : Addr) (kc : ClassId) (c0 : Int32) (c1 : Int32) (kb : ClassId) (h0 : Heap) (n0 : Nat) (v : Option Value) (h : Heap) (L : List Loc) : Prop := (v = some (.int (0 : Int32)) ∧ Fr n0 L ∧ Keep h0 h [a2] ∧ (255 : Int32) < c0) ∨ (v = some (.int (1 : Int32)) ∧ Fr n0 L ∧ Keep h0 h [a2] ∧ (255 : Int32) < c1) ∨ (v = some (.int (2 : Int32)) ∧ Fr n0 L ∧ Keep h0 h [a2] ∧ Arv Z h a2 kb .byte (2 : Int32) [(.int (nar .byte (c0.toInt8.toInt32))), (.int (nar .byte (c1.toInt8.toInt32)))] (.int (0 : Int32)) ∧ ¬ ((255 : Int32) < c0) ∧ ¬ ((255 : Int32) < c1))
set_option maxRecDepth 65536 in
set_option maxHeartbeats 40000000 in
theorem rm17_s2 (l : Launch) (Z : State) (ag : Array Value) (hw : ∀ d ∈ tables_1, d.before ag Z = true) (ws : List Jvm.Cond) (a0 : Addr) (a2 : Addr) (kc : ClassId) (c0 : Int32) (c1 : Int32) (kb : ClassId) (h0 : Heap) (n0 : Nat) (Z0 : n0 ≤ h0.size) (V_a0 : Arv Z h0 a0 kc .char (2 : Int32) [(.int c0), (.int c1)] (.int (0 : Int32))) (hr_c0 : 0 ≤ c0.toInt ∧ c0.toInt < 65536) (hr_c1 : 0 ≤ c1.toInt ∧ c1.toInt < 65536) (V_a2 : Arv Z h0 a2 kb .byte (2 : Int32) [(.int (0 : Int32)), (.int (0 : Int32))] (.int (0 : Int32))) (ge_a2 : n0 ≤ a2) (ne_a0_a2 : a0 ≠ a2) :
    MetFree l (⟨"java/lang/StringUTF16", "compress", "([CI[BII)I"⟩ : MethodName) (head1 (Jvm.Cond.code (⟨"java/lang/StringUTF16", "compress", "([CI[BII)I"⟩ : MethodName) jdk_52_method_21_code 7 (some .int) :: ws) ({ frames := 0, cells := 0, slots := 0, locals := 0 } : Room)) (fun a U => a = #[(.ref a0), (.int (0 : Int32)), (.ref a2), (.int (0 : Int32)), (.int (2 : Int32))] ∧ Z.Warmed39 U.vm ∧ U.heap = h0) (fun _ _ _ _ _ => True) (fun _ U o U' => ∃ v L, o = .returned v ∧ Q17_s2 Z a0 a2 kc c0 c1 kb h0 n0 v U'.heap L ∧ FrameEnd U o U' L ({ frames := 0, cells := 0, slots := 0, locals := 0 } : Room).cells ({ frames := 0, cells := 0, slots := 0, locals := 0 } : Room).slots) := by
  refine MetFree.of_bodySF (plainFor_of_name pn_6) hisR ?_
  intro p e s m args below meth c s₁ Bd hml0 hP hK
  obtain ⟨rfl, hZ, hh⟩ := hP
  have hx := Bd.exec
  have hby := Bd.bytes
  have hml : c.maxLocals = 7 := hml0
  have hown : s.vm.findClass "java/lang/StringUTF16" = some m.cls := findClass_of_methodNamed Bd.named
  have hnm := (name_of_methodNamed Bd.named Bd.method).1
  have X0 : Stand p l e ({ frames := 0, cells := 0, slots := 0, locals := 0 } : Room) s m #[(.ref a0), (.int (0 : Int32)), (.ref a2), (.int (0 : Int32)), (.int (2 : Int32))] below meth c s₁ [] 0 0 := Stand.of_body Bd
  have e0 : s₁.heap = h0 := by rw [← hh, Bd.state]; rfl
  have N0 := Fr.nil n0
  have pre0 : ∀ t, Steps p.tables e below (s₁.setTop (mkF m 0 #[.val (.ref a0), .val (.int 0), .val (.ref a2), .val (.int 0), .val (.int 2), .unset, .unset] [])) t → Steps p.tables e below (s₁.setTop (entryFrame m #[(.ref a0), (.int (0 : Int32)), (.ref a2), (.int (0 : Int32)), (.int (2 : Int32))] 7)) t := fun t k => castTop (ef_17_v0v02 m a0 a2) k
  obtain ⟨cl221, Ar221, q221, S221, M221, H221, G221⟩ := id V_a0
  have hin221 : ¬ ((0 : Int32) < 0 ∨ cl221.slots.size ≤ ((0 : Int32)).toNatClampNeg) := inb_of S221 ⟨(by decide : ¬ (0 : Int32) < 0), (by decide : (0 : Int32) < (2 : Int32))⟩
  have hat221 : cl221.slots[((0 : Int32)).toNatClampNeg]? = some (.int c0) := Has.at H221 hin221 rfl
  have ld221 := X0.caload hx (j := (0 : Int32)) (v := (.int c0)) (by rw [e0]; exact Ar221.1) (State.isArrayOf_alike hZ.alike Ar221.2.1) Ar221.2.2 hin221 hat221 (g := (mkF m 12 (own_loc6 a0 a2) [.int 0, (.ref a0)])) rfl rfl (hb hby d17_12)
  have cp223 : ∀ target, own_S p e below s₁ (mkF m 20 (own_loc7 a0 a2 c0) [.int 255, (.int c0)]) target → own_S p e below s₁ (mkF m 0 #[.val (.ref a0), .val (.int 0), .val (.ref a2), .val (.int 0), .val (.int 2), .unset, .unset] []) target := by
    intro target kt
    show own_S p e below s₁ (mkF m 0 #[.val (.ref a0), .val (.int 0), .val (.ref a2), .val (.int 0), .val (.int 2), .unset, .unset] []) _
    refine XS.iconst X0.here hx rfl (hb hby d17_0) ?_
    refine XS.istore X0.here hx rfl (hb hby d17_1) rfl (l' := (own_loc6 a0 a2)) rfl ?_
    show own_S p e below s₁ (mkF m 3 (own_loc6 a0 a2) []) _
    refine XS.iload X0.here hx rfl (hb hby d17_3) rfl ?_
    refine XS.iload X0.here hx rfl (hb hby d17_5) rfl ?_
    refine XS.icmpNo X0.here hx rfl (hb hby d17_7) rfl (tlt (by decide : (0 : Int32) < (2 : Int32))).2.1 ?_
    show own_S p e below s₁ (mkF m 10 (own_loc6 a0 a2) []) _
    refine XS.aloadN X0.here hx rfl (hb hby d17_10) rfl rfl ?_
    refine XS.iloadN X0.here hx rfl (hb hby d17_11) rfl ?_
    show own_S p e below s₁ (mkF m 12 (own_loc6 a0 a2) [.int 0, (.ref a0)]) _
    refine ld221 _ ?_
    show own_S p e below s₁ (mkF m 13 (own_loc6 a0 a2) [(.int c0)]) _
    refine XS.istore X0.here hx rfl (hb hby d17_13) rfl (l' := (own_loc7 a0 a2 c0)) rfl ?_
    show own_S p e below s₁ (mkF m 15 (own_loc7 a0 a2 c0) []) _
    refine XS.iload X0.here hx rfl (hb hby d17_15) rfl ?_
    refine XS.sipush X0.here hx rfl (hb hby d17_17) ?_
    exact kt
  by_cases hc222 : (255 : Int32) < c0
  · obtain ⟨fs, hr, hrun, hended, hW, hsame⟩ := X0.leave (v := some (.int (0 : Int32))) (fun h => by rw [Bd.returns] at h; cases h)
    refine ⟨_, _, pre0 _ ?_, hrun, hended, _, _, rfl, ?_, ⟨_, rfl⟩, hW, hsame.mono (by decide) (by decide)⟩
    · show own_S p e below s₁ (mkF m 0 #[.val (.ref a0), .val (.int 0), .val (.ref a2), .val (.int 0), .val (.int 2), .unset, .unset] []) _
      refine cp223 _ ?_
      show own_S p e below s₁ (mkF m 20 (own_loc7 a0 a2 c0) [.int 255, (.int c0)]) _
      refine XS.icmpNo X0.here hx rfl (hb hby d17_20) rfl (tlt hc222).2.2.2 ?_
      show own_S p e below s₁ (mkF m 23 (own_loc7 a0 a2 c0) []) _
      refine XS.iload X0.here hx rfl (hb hby d17_23) rfl ?_
      show own_S p e below s₁ (mkF m 25 (own_loc7 a0 a2 c0) [.int 0]) _
      exact retI X0 hx Bd.returns (hb hby d17_25) hr
    · show Q17_s2 Z a0 a2 kc c0 c1 kb h0 n0 _ s₁.heap _
      rw [e0]
      exact Or.inl ⟨rfl, N0, (Keep.refl h0 [a2]), hc222⟩
  · obtain ⟨cl224, Ar224, q224, S224, M224, H224, G224⟩ := id V_a2
    have hin224 : ¬ ((0 : Int32) < 0 ∨ cl224.slots.size ≤ ((0 : Int32)).toNatClampNeg) := inb_of S224 ⟨(by decide : ¬ (0 : Int32) < 0), (by decide : (0 : Int32) < (2 : Int32))⟩
    obtain ⟨T224, h224, X224, e224, W224, st224⟩ := stB X0 hx hZ e0 Ar224 (j := (0 : Int32)) hin224 (g := (mkF m 31 (own_loc7 a0 a2 c0) [(.int (c0.toInt8.toInt32)), .int 0, (.ref a2)])) rfl rfl (hb hby d17_31)
    have V224 : Arv Z h224 a2 kb .byte (2 : Int32) [(.int (nar .byte (c0.toInt8.toInt32))), (.int (0 : Int32))] (.int (0 : Int32)) := Arv.set Ar224 q224 S224 M224 H224 G224 (fits_nar_byte _) W224 0 rfl (Nat.le_of_ble_eq_true rfl)
    have x225 := V_a0.other W224 ne_a0_a2
    have sz226 : n0 ≤ h224.size := Nat.le_trans Z0 (Keep.of_wr W224).1
    have kp227 : Keep h0 h224 [a2] := (Keep.refl h0 [a2]).wr W224 (Or.inl (List.mem_of_getElem? (i := 0) rfl))
    have N224 := Fr.snoc X224 N0 ge_a2
    obtain ⟨cl228, Ar228, q228, S228, M228, H228, G228⟩ := id x225
    have hin228 : ¬ ((1 : Int32) < 0 ∨ cl228.slots.size ≤ ((1 : Int32)).toNatClampNeg) := inb_of S228 ⟨(by decide : ¬ (1 : Int32) < 0), (by decide : (1 : Int32) < (2 : Int32))⟩
    have hat228 : cl228.slots[((1 : Int32)).toNatClampNeg]? = some (.int c1) := Has.at H228 hin228 rfl
    have ld228 := X224.caload hx (j := (1 : Int32)) (v := (.int c1)) (by rw [e224]; exact Ar228.1) (State.isArrayOf_alike hZ.alike Ar228.2.1) Ar228.2.2 hin228 hat228 (g := (mkF m 12 (own_loc10 a0 a2 c0) [.int 1, (.ref a0)])) rfl rfl (hb hby d17_12)
    have cp230 : ∀ target, own_S p e below T224 (mkF m 20 (own_loc11 a0 a2 c1) [.int 255, (.int c1)]) target → own_S p e below s₁ (mkF m 0 #[.val (.ref a0), .val (.int 0), .val (.ref a2), .val (.int 0), .val (.int 2), .unset, .unset] []) target := by
      intro target kt
      show own_S p e below s₁ (mkF m 0 #[.val (.ref a0), .val (.int 0), .val (.ref a2), .val (.int 0), .val (.int 2), .unset, .unset] []) _
      refine cp223 _ ?_
      show own_S p e below s₁ (mkF m 20 (own_loc7 a0 a2 c0) [.int 255, (.int c0)]) _
      refine XS.icmpYes X0.here hx rfl (pc0 := 20) (pc' := 26) rfl (hb hby d17_20) rfl (flt hc222).2.2.2 (by decide) (by decide) ?_
      show own_S p e below s₁ (mkF m 26 (own_loc7 a0 a2 c0) []) _
      refine XS.aloadN X0.here hx rfl (hb hby d17_26) rfl rfl ?_
      refine XS.iloadN X0.here hx rfl (hb hby d17_27) rfl ?_
      refine XS.iload X0.here hx rfl (hb hby d17_28) rfl ?_
      refine XS.i2b X0.here hx rfl (hb hby d17_30) rfl ?_
      show own_S p e below s₁ (mkF m 31 (own_loc7 a0 a2 c0) [(.int (c0.toInt8.toInt32)), .int 0, (.ref a2)]) _
      refine st224 _ ?_
      show own_S p e below T224 (mkF m 32 (own_loc7 a0 a2 c0) []) _
      refine XS.iinc X224.here hx rfl (hb hby d17_32) rfl (l' := (own_loc8 a0 a2 c0)) rfl ?_
      show own_S p e below T224 (mkF m 35 (own_loc8 a0 a2 c0) []) _
      refine XS.iinc X224.here hx rfl (hb hby d17_35) rfl (l' := (own_loc9 a0 a2 c0)) rfl ?_
      show own_S p e below T224 (mkF m 38 (own_loc9 a0 a2 c0) []) _
      refine XS.iinc X224.here hx rfl (hb hby d17_38) rfl (l' := (own_loc10 a0 a2 c0)) rfl ?_
      show own_S p e below T224 (mkF m 41 (own_loc10 a0 a2 c0) []) _
      refine XS.goto X224.here hx rfl (pc0 := 41) (pc' := 3) rfl (hb hby d17_41) (by decide) (by decide) ?_
      show own_S p e below T224 (mkF m 3 (own_loc10 a0 a2 c0) []) _
      refine XS.iload X224.here hx rfl (hb hby d17_3) rfl ?_
      refine XS.iload X224.here hx rfl (hb hby d17_5) rfl ?_
      refine XS.icmpNo X224.here hx rfl (hb hby d17_7) rfl (tlt (by decide : (1 : Int32) < (2 : Int32))).2.1 ?_
      show own_S p e below T224 (mkF m 10 (own_loc10 a0 a2 c0) []) _
      refine XS.aloadN X224.here hx rfl (hb hby d17_10) rfl rfl ?_
      refine XS.iloadN X224.here hx rfl (hb hby d17_11) rfl ?_
      show own_S p e below T224 (mkF m 12 (own_loc10 a0 a2 c0) [.int 1, (.ref a0)]) _
      refine ld228 _ ?_
      show own_S p e below T224 (mkF m 13 (own_loc10 a0 a2 c0) [(.int c1)]) _
      refine XS.istore X224.here hx rfl (hb hby d17_13) rfl (l' := (own_loc11 a0 a2 c1)) rfl ?_
      show own_S p e below T224 (mkF m 15 (own_loc11 a0 a2 c1) []) _
      refine XS.iload X224.here hx rfl (hb hby d17_15) rfl ?_
      refine XS.sipush X224.here hx rfl (hb hby d17_17) ?_
      exact kt
    by_cases hc229 : (255 : Int32) < c1
    · obtain ⟨fs, hr, hrun, hended, hW, hsame⟩ := X224.leave (v := some (.int (1 : Int32))) (fun h => by rw [Bd.returns] at h; cases h)
      refine ⟨_, _, pre0 _ ?_, hrun, hended, _, _, rfl, ?_, ⟨_, rfl⟩, hW, hsame.mono (by decide) (by decide)⟩
      · show own_S p e below s₁ (mkF m 0 #[.val (.ref a0), .val (.int 0), .val (.ref a2), .val (.int 0), .val (.int 2), .unset, .unset] []) _
        refine cp230 _ ?_
        show own_S p e below T224 (mkF m 20 (own_loc11 a0 a2 c1) [.int 255, (.int c1)]) _
        refine XS.icmpNo X224.here hx rfl (hb hby d17_20) rfl (tlt hc229).2.2.2 ?_
        show own_S p e below T224 (mkF m 23 (own_loc11 a0 a2 c1) []) _
        refine XS.iload X224.here hx rfl (hb hby d17_23) rfl ?_
        show own_S p e below T224 (mkF m 25 (own_loc11 a0 a2 c1) [.int 1]) _
        exact retI X224 hx Bd.returns (hb hby d17_25) hr
      · show Q17_s2 Z a0 a2 kc c0 c1 kb h0 n0 _ T224.heap _
        rw [e224]
        exact Or.inr (Or.inl ⟨rfl, N224, kp227, hc229⟩)
    · obtain ⟨cl231, Ar231, q231, S231, M231, H231, G231⟩ := id V224
      have hin231 : ¬ ((1 : Int32) < 0 ∨ cl231.slots.size ≤ ((1 : Int32)).toNatClampNeg) := inb_of S231 ⟨(by decide : ¬ (1 : Int32) < 0), (by decide : (1 : Int32) < (2 : Int32))⟩
      obtain ⟨T231, h231, X231, e231, W231, st231⟩ := stB X224 hx hZ e224 Ar231 (j := (1 : Int32)) hin231 (g := (mkF m 31 (own_loc11 a0 a2 c1) [(.int (c1.toInt8.toInt32)), .int 1, (.ref a2)])) rfl rfl (hb hby d17_31)
      have V231 : Arv Z h231 a2 kb .byte (2 : Int32) [(.int (nar .byte (c0.toInt8.toInt32))), (.int (nar .byte (c1.toInt8.toInt32)))] (.int (0 : Int32)) := Arv.set Ar231 q231 S231 M231 H231 G231 (fits_nar_byte _) W231 1 rfl (Nat.le_of_ble_eq_true rfl)
      have x232 := x225.other W231 ne_a0_a2
      have sz233 : n0 ≤ h231.size := Nat.le_trans sz226 (Keep.of_wr W231).1
      have kp234 : Keep h0 h231 [a2] := kp227.wr W231 (Or.inl (List.mem_of_getElem? (i := 0) rfl))
      have N231 := Fr.snoc X231 N224 ge_a2
      obtain ⟨fs, hr, hrun, hended, hW, hsame⟩ := X231.leave (v := some (.int (2 : Int32))) (fun h => by rw [Bd.returns] at h; cases h)
      refine ⟨_, _, pre0 _ ?_, hrun, hended, _, _, rfl, ?_, ⟨_, rfl⟩, hW, hsame.mono (by decide) (by decide)⟩
      · show own_S p e below s₁ (mkF m 0 #[.val (.ref a0), .val (.int 0), .val (.ref a2), .val (.int 0), .val (.int 2), .unset, .unset] []) _
        refine cp230 _ ?_
        show own_S p e below T224 (mkF m 20 (own_loc11 a0 a2 c1) [.int 255, (.int c1)]) _
        refine XS.icmpYes X224.here hx rfl (pc0 := 20) (pc' := 26) rfl (hb hby d17_20) rfl (flt hc229).2.2.2 (by decide) (by decide) ?_
        show own_S p e below T224 (mkF m 26 (own_loc11 a0 a2 c1) []) _
        refine XS.aloadN X224.here hx rfl (hb hby d17_26) rfl rfl ?_
        refine XS.iloadN X224.here hx rfl (hb hby d17_27) rfl ?_
        refine XS.iload X224.here hx rfl (hb hby d17_28) rfl ?_
        refine XS.i2b X224.here hx rfl (hb hby d17_30) rfl ?_
        show own_S p e below T224 (mkF m 31 (own_loc11 a0 a2 c1) [(.int (c1.toInt8.toInt32)), .int 1, (.ref a2)]) _
        refine st231 _ ?_
        show own_S p e below T231 (mkF m 32 (own_loc11 a0 a2 c1) []) _
        refine XS.iinc X231.here hx rfl (hb hby d17_32) rfl (l' := (own_loc12 a0 a2 c1)) rfl ?_
        show own_S p e below T231 (mkF m 35 (own_loc12 a0 a2 c1) []) _
        refine XS.iinc X231.here hx rfl (hb hby d17_35) rfl (l' := (own_loc13 a0 a2 c1)) rfl ?_
        show own_S p e below T231 (mkF m 38 (own_loc13 a0 a2 c1) []) _
        refine XS.iinc X231.here hx rfl (hb hby d17_38) rfl (l' := (own_loc14 a0 a2 c1)) rfl ?_
        show own_S p e below T231 (mkF m 41 (own_loc14 a0 a2 c1) []) _
        refine XS.goto X231.here hx rfl (pc0 := 41) (pc' := 3) rfl (hb hby d17_41) (by decide) (by decide) ?_
        show own_S p e below T231 (mkF m 3 (own_loc14 a0 a2 c1) []) _
        refine XS.iload X231.here hx rfl (hb hby d17_3) rfl ?_
        refine XS.iload X231.here hx rfl (hb hby d17_5) rfl ?_
        refine XS.icmpYes X231.here hx rfl (pc0 := 7) (pc' := 44) rfl (hb hby d17_7) rfl (flt (by decide : ¬ ((2 : Int32) < (2 : Int32)))).2.1 (by decide) (by decide) ?_
        show own_S p e below T231 (mkF m 44 (own_loc14 a0 a2 c1) []) _
        refine XS.iload X231.here hx rfl (hb hby d17_44) rfl ?_
        show own_S p e below T231 (mkF m 46 (own_loc14 a0 a2 c1) [.int 2]) _
        exact retI X231 hx Bd.returns (hb hby d17_46) hr
      · show Q17_s2 Z a0 a2 kc c0 c1 kb h0 n0 _ T231.heap _
        rw [e231]
        exact Or.inr (Or.inr (⟨rfl, N231, kp234, V231, hc222, hc229⟩))
theorem ef_16_v02 (m : MethodId) (a0 : Addr) : entryFrame m #[(.ref a0), (.int (0 : Int32)), (.int (2 : Int32))] 6 = mkF m 0 #[.val (.ref a0), .val (.int 0), .val (.int 2), .unset, .unset, .unset] [] := by first | (simp [entryFrame, mkF, argsToLocals, Value.category]; done) | rfl
def Q16_s2 (Z : State) (a0 : Addr) (kc : ClassId) (c0 : Int32) (c1 : Int32) (h0 : Heap) (n0 : Nat) (v : Option Value) (h : Heap) (L : List Loc) : Prop := ∃ (r : Addr) (kb : ClassId) (nb : Int32) (vs : List Value), v = some (.ref r) ∧ Fr n0 L ∧ Keep h0 h [] ∧ n0 ≤ r ∧ h0.size ≤ r ∧ Arv Z h r kb .byte nb vs (.int (0 : Int32)) ∧ ((nb = (2 : Int32) ∧ vs = [(.int (nar .byte (c0.toInt8.toInt32))), (.int (nar .byte (c1.toInt8.toInt32)))] ∧ ¬ ((255 : Int32) < c0) ∧ ¬ ((255 : Int32) < c1)) ∨ (nb = (4 : Int32) ∧ vs = [(.int (nar .byte ((c0 >>> ((0 : Int32) &&& 31)).toInt8.toInt32))), (.int (nar .byte ((c0 >>> ((8 : Int32) &&& 31)).toInt8.toInt32))), (.int (nar .byte ((c1 >>> ((0 : Int32) &&& 31)).toInt8.toInt32))), (.int (nar .byte ((c1 >>> ((8 : Int32) &&& 31)).toInt8.toInt32)))]))
set_option maxRecDepth 65536 in
set_option maxHeartbeats 40000000 in
theorem rm16_s2 (l : Launch) (Z : State) (ag : Array Value) (hw : ∀ d ∈ tables_1, d.before ag Z = true) (ws : List Jvm.Cond) (a0 : Addr) (kc : ClassId) (c0 : Int32) (c1 : Int32) (h0 : Heap) (n0 : Nat) (Z0 : n0 ≤ h0.size) (V_a0 : Arv Z h0 a0 kc .char (2 : Int32) [(.int c0), (.int c1)] (.int (0 : Int32))) (hr_c0 : 0 ≤ c0.toInt ∧ c0.toInt < 65536) (hr_c1 : 0 ≤ c1.toInt ∧ c1.toInt < 65536) (O_ : Old Z n0 h0) (S_ad : Sta Z Z.heap "java/lang/StringUTF16" "$assertionsDisabled" "Z" (.int (1 : Int32))) (S_hi : Sta Z Z.heap "java/lang/StringUTF16" "HI_BYTE_SHIFT" "I" (.int (0 : Int32))) (S_lo : Sta Z Z.heap "java/lang/StringUTF16" "LO_BYTE_SHIFT" "I" (.int (8 : Int32))) :
    MetFree l (⟨"java/lang/StringUTF16", "compress", "([CII)[B"⟩ : MethodName) (head1 (Jvm.Cond.code (⟨"java/lang/StringUTF16", "compress", "([CII)[B"⟩ : MethodName) jdk_52_method_16_code 6 (some (.array .byte)) :: ws) ({ frames := 3, cells := 2, slots := 10, locals := 40 } : Room)) (fun a U => a = #[(.ref a0), (.int (0 : Int32)), (.int (2 : Int32))] ∧ Z.Warmed39 U.vm ∧ U.heap = h0) (fun _ _ _ _ _ => True) (fun _ U o U' => ∃ v L, o = .returned v ∧ Q16_s2 Z a0 kc c0 c1 h0 n0 v U'.heap L ∧ FrameEnd U o U' L ({ frames := 3, cells := 2, slots := 10, locals := 40 } : Room).cells ({ frames := 3, cells := 2, slots := 10, locals := 40 } : Room).slots) := by
  refine MetFree.of_bodySF (plainFor_of_name pn_6) hisR ?_
  intro p e s m args below meth c s₁ Bd hml0 hP hK
  obtain ⟨rfl, hZ, hh⟩ := hP
  have hx := Bd.exec
  have hby := Bd.bytes
  have hml : c.maxLocals = 6 := hml0
  have hown : s.vm.findClass "java/lang/StringUTF16" = some m.cls := findClass_of_methodNamed Bd.named
  have hnm := (name_of_methodNamed Bd.named Bd.method).1
  have X0 : Stand p l e ({ frames := 3, cells := 2, slots := 10, locals := 40 } : Room) s m #[(.ref a0), (.int (0 : Int32)), (.int (2 : Int32))] below meth c s₁ [] 0 0 := Stand.of_body Bd
  have e0 : s₁.heap = h0 := by rw [← hh, Bd.state]; rfl
  have N0 := Fr.nil n0
  have pre0 : ∀ t, Steps p.tables e below (s₁.setTop (mkF m 0 #[.val (.ref a0), .val (.int 0), .val (.int 2), .unset, .unset, .unset] [])) t → Steps p.tables e below (s₁.setTop (entryFrame m #[(.ref a0), (.int (0 : Int32)), (.int (2 : Int32))] 6)) t := fun t k => castTop (ef_16_v02 m a0) k
  obtain ⟨T235, h235, k235, X235, e235, E235, A235, st235⟩ := newP X0 hx hZ (own_wk hw 7 rfl) e0 (g := (mkF m 1 #[.val (.ref a0), .val (.int 0), .val (.int 2), .unset, .unset, .unset] [.int 2])) rfl (hb hby d16_1) rfl (by decide) (cap := 2) (by decide) (by decide) (by decide) (by decide)
  obtain ⟨b235, g235⟩ : ∃ z, z = h0.size := ⟨_, rfl⟩
  have ne236 : a0 ≠ b235 := Nat.ne_of_lt (Nat.lt_of_lt_of_le V_a0.lt (Nat.le_of_eq g235.symm))
  have ge_b235 : n0 ≤ b235 := Nat.le_trans Z0 (Nat.le_of_eq g235.symm)
  have gs_b235 : h0.size ≤ b235 := Nat.le_trans (Keep.refl h0 []).1 (Nat.le_of_eq g235.symm)
  rw [← g235] at A235 st235
  have x237 := V_a0.ext E235
  have x238 := O_.ext E235
  have sz239 : n0 ≤ h235.size := Nat.le_trans Z0 E235.1
  have kp240 : Keep h0 h235 [] := (Keep.refl h0 []).ext E235
  have V235 : Arv Z h235 b235 k235 .byte (2 : Int32) [(.int (0 : Int32)), (.int (0 : Int32))] (.int (0 : Int32)) := (Arv.new A235 (by decide)).pad (pad_rep [] (.int (0 : Int32)) 2)
  obtain ⟨_, _, ⟨T241, L241, k241, n241⟩, -, X241, ⟨Lc241, hQ241, l241, y241, z241⟩, st241⟩ := Jvm.LawKit.callS X235 hx (y := (⟨"java/lang/StringUTF16", "compress", "([CI[BII)I"⟩ : MethodName)) hown (mvT hZ (own_wk hw 79 rfl)) (mvT hZ (own_wk hw 80 rfl)) (mvT hZ (own_wk hw 77 rfl)) (mvT hZ (own_wk hw 81 rfl)) (by decide) (backOf (W := 0) (rm17_s2 l Z ag hw [] a0 b235 kc c0 c1 k235 h235 n0 sz239 x237 hr_c0 hr_c1 V235 ge_b235 ne236) hZ (own_wk hw 81 rfl) (own_wk hw 77 rfl) (by decide) (by decide)) (g := (mkF m 9 #[.val (.ref a0), .val (.int 0), .val (.int 2), .val (.ref b235), .unset, .unset] [.int 2, .int 0, (.ref b235), .int 0, (.ref a0)])) rfl (by rw [hml]; rfl) (argsL := [(.ref a0), (.int (0 : Int32)), (.ref b235), (.int (0 : Int32)), (.int (2 : Int32))]) (rest := []) (lenOf pd_25 rfl) rfl (by show 2 * 0 + _ ≤ _; exact Nat.le_of_eq rfl) (hb hby d16_9) (fun _ _ => ⟨rfl, e235, (by decide : 1 + 0 ≤ _), (by decide : 2 + 0 ≤ _)⟩)
  dsimp only [Pt.U, Pt.locs, Pt.cells, Pt.slots] at X241 l241 y241 z241 st241 hQ241
  subst l241 y241 z241
  rcases hQ241 with q241 | q241 | q241
  · obtain ⟨rfl, N241q, K241, hbig241⟩ := q241
    have N241 := Fr.app N0 N241q
    have x242 := x237.keep K241 (ninS ne236 nin0)
    have x243 := x238.keep K241 (allS ge_b235 all0)
    have sz244 : n0 ≤ T241.heap.size := Nat.le_trans sz239 K241.1
    have kp245 : Keep h0 T241.heap [] := kp240.trans K241 (allS (Or.inr gs_b235) all0)
    obtain ⟨_, _, ⟨T246, L246, k246, n246⟩, -, X246, ⟨Lc246, hQ246, l246, y246, z246⟩, st246⟩ := Jvm.LawKit.callS X241 hx (y := (⟨"java/lang/StringUTF16", "toBytes", "([CII)[B"⟩ : MethodName)) hown (mvT hZ (own_wk hw 117 rfl)) (mvT hZ (own_wk hw 118 rfl)) (mvT hZ (own_wk hw 77 rfl)) (mvT hZ (own_wk hw 119 rfl)) (by decide) (backOf (W := 0) (rm27_s2 l Z ag hw [] a0 kc c0 c1 T241.heap n0 sz244 x242 hr_c0 hr_c1 x243 S_ad S_hi S_lo) hZ (own_wk hw 119 rfl) (own_wk hw 77 rfl) (by decide) (by decide)) (g := (mkF m 23 #[.val (.ref a0), .val (.int 0), .val (.int 2), .val (.ref b235), .val (.int 0), .unset] [.int 2, .int 0, (.ref a0)])) rfl (by rw [hml]; rfl) (argsL := [(.ref a0), (.int (0 : Int32)), (.int (2 : Int32))]) (rest := []) (lenOf pd_23 rfl) rfl (by show 2 * 0 + _ ≤ _; exact Nat.le_of_eq rfl) (hb hby d16_23) (fun _ _ => ⟨rfl, rfl, (by decide : 1 + 1 ≤ _), (by decide : 2 + 8 ≤ _)⟩)
    dsimp only [Pt.U, Pt.locs, Pt.cells, Pt.slots] at X246 l246 y246 z246 st246 hQ246
    subst l246 y246 z246
    obtain ⟨r246, kr246, rfl, N246q, K246, ge_r246, gq_r246, Vr246⟩ := hQ246
    have N246 := Fr.app N241 N246q
    have ne247 : a0 ≠ r246 := Nat.ne_of_lt (Nat.lt_of_lt_of_le x242.lt gq_r246)
    have gs_r246 : h0.size ≤ r246 := Nat.le_trans kp245.1 gq_r246
    have x248 := x242.keep K246 nin0
    have x249 := x243.keep K246 all0
    have sz250 : n0 ≤ T246.heap.size := Nat.le_trans sz244 K246.1
    have kp251 : Keep h0 T246.heap [] := kp245.trans K246 all0
    have cp252 : ∀ target, own_S p e below T246 (mkF m 32 #[.val (.ref a0), .val (.int 0), .val (.int 2), .val (.ref b235), .val (.int 0), .val (.ref r246)] [.int 0, (.ref r246)]) target → own_S p e below s₁ (mkF m 0 #[.val (.ref a0), .val (.int 0), .val (.int 2), .unset, .unset, .unset] []) target := by
      intro target kt
      show own_S p e below s₁ (mkF m 0 #[.val (.ref a0), .val (.int 0), .val (.int 2), .unset, .unset, .unset] []) _
      refine XS.iloadN X0.here hx rfl (hb hby d16_0) rfl ?_
      show own_S p e below s₁ (mkF m 1 #[.val (.ref a0), .val (.int 0), .val (.int 2), .unset, .unset, .unset] [.int 2]) _
      refine st235 _ ?_
      show own_S p e below T235 (mkF m 3 #[.val (.ref a0), .val (.int 0), .val (.int 2), .unset, .unset, .unset] [(.ref b235)]) _
      refine XS.astoreN X235.here hx rfl (hb hby d16_3) rfl rfl (l' := #[.val (.ref a0), .val (.int 0), .val (.int 2), .val (.ref b235), .unset, .unset]) rfl ?_
      show own_S p e below T235 (mkF m 4 #[.val (.ref a0), .val (.int 0), .val (.int 2), .val (.ref b235), .unset, .unset] []) _
      refine XS.aloadN X235.here hx rfl (hb hby d16_4) rfl rfl ?_
      refine XS.iloadN X235.here hx rfl (hb hby d16_5) rfl ?_
      refine XS.aloadN X235.here hx rfl (hb hby d16_6) rfl rfl ?_
      refine XS.iconst X235.here hx rfl (hb hby d16_7) ?_
      refine XS.iloadN X235.here hx rfl (hb hby d16_8) rfl ?_
      show own_S p e below T235 (mkF m 9 #[.val (.ref a0), .val (.int 0), .val (.int 2), .val (.ref b235), .unset, .unset] [.int 2, .int 0, (.ref b235), .int 0, (.ref a0)]) _
      refine st241 _ ?_
      show own_S p e below T241 (mkF m 12 #[.val (.ref a0), .val (.int 0), .val (.int 2), .val (.ref b235), .unset, .unset] [.int 0]) _
      refine XS.istore X241.here hx rfl (hb hby d16_12) rfl (l' := #[.val (.ref a0), .val (.int 0), .val (.int 2), .val (.ref b235), .val (.int 0), .unset]) rfl ?_
      show own_S p e below T241 (mkF m 14 #[.val (.ref a0), .val (.int 0), .val (.int 2), .val (.ref b235), .val (.int 0), .unset] []) _
      refine XS.iload X241.here hx rfl (hb hby d16_14) rfl ?_
      refine XS.iloadN X241.here hx rfl (hb hby d16_16) rfl ?_
      refine XS.icmpNo X241.here hx rfl (hb hby d16_17) rfl (feq (by decide : ¬ ((0 : Int32) = (2 : Int32)))).1 ?_
      show own_S p e below T241 (mkF m 20 #[.val (.ref a0), .val (.int 0), .val (.int 2), .val (.ref b235), .val (.int 0), .unset] []) _
      refine XS.aloadN X241.here hx rfl (hb hby d16_20) rfl rfl ?_
      refine XS.iloadN X241.here hx rfl (hb hby d16_21) rfl ?_
      refine XS.iloadN X241.here hx rfl (hb hby d16_22) rfl ?_
      show own_S p e below T241 (mkF m 23 #[.val (.ref a0), .val (.int 0), .val (.int 2), .val (.ref b235), .val (.int 0), .unset] [.int 2, .int 0, (.ref a0)]) _
      refine st246 _ ?_
      show own_S p e below T246 (mkF m 26 #[.val (.ref a0), .val (.int 0), .val (.int 2), .val (.ref b235), .val (.int 0), .unset] [(.ref r246)]) _
      refine XS.astore X246.here hx rfl (hb hby d16_26) rfl rfl (l' := #[.val (.ref a0), .val (.int 0), .val (.int 2), .val (.ref b235), .val (.int 0), .val (.ref r246)]) rfl ?_
      show own_S p e below T246 (mkF m 28 #[.val (.ref a0), .val (.int 0), .val (.int 2), .val (.ref b235), .val (.int 0), .val (.ref r246)] []) _
      refine XS.aload X246.here hx rfl (hb hby d16_28) rfl rfl ?_
      refine XS.iload X246.here hx rfl (hb hby d16_30) rfl ?_
      exact kt
    obtain ⟨_, _, ⟨T253, L253, k253, n253⟩, -, X253, ⟨Lc253, hQ253, l253, y253, z253⟩, st253⟩ := Jvm.LawKit.callS X246 hx (y := (⟨"java/lang/StringUTF16", "getChar", "([BI)C"⟩ : MethodName)) hown (mvT hZ (own_wk hw 133 rfl)) (mvT hZ (own_wk hw 134 rfl)) (mvT hZ (own_wk hw 77 rfl)) (mvT hZ (own_wk hw 135 rfl)) (by decide) (backOf (W := 0) (rm31 l Z ag hw [] r246 (0 : Int32) kr246 (4 : Int32) [(.int (nar .byte ((c0 >>> ((0 : Int32) &&& 31)).toInt8.toInt32))), (.int (nar .byte ((c0 >>> ((8 : Int32) &&& 31)).toInt8.toInt32))), (.int (nar .byte ((c1 >>> ((0 : Int32) &&& 31)).toInt8.toInt32))), (.int (nar .byte ((c1 >>> ((8 : Int32) &&& 31)).toInt8.toInt32)))] (nar .byte ((c0 >>> ((0 : Int32) &&& 31)).toInt8.toInt32)) (nar .byte ((c0 >>> ((8 : Int32) &&& 31)).toInt8.toInt32)) T246.heap n0 sz250 Vr246 (by decide) (by decide) rfl rfl x249 S_ad S_hi S_lo) hZ (own_wk hw 135 rfl) (own_wk hw 77 rfl) (by decide) (by decide)) (g := (mkF m 32 #[.val (.ref a0), .val (.int 0), .val (.int 2), .val (.ref b235), .val (.int 0), .val (.ref r246)] [.int 0, (.ref r246)])) rfl (by rw [hml]; rfl) (argsL := [(.ref r246), (.int (0 : Int32))]) (rest := []) (lenOf pd_19 rfl) rfl (by show 2 * 0 + _ ≤ _; exact Nat.le_of_eq rfl) (hb hby d16_32) (fun _ _ => ⟨rfl, rfl, (by decide : 2 + 0 ≤ _), (by decide : 10 + 0 ≤ _)⟩)
    dsimp only [Pt.U, Pt.locs, Pt.cells, Pt.slots] at X253 l253 y253 z253 st253 hQ253
    subst l253 y253 z253
    obtain ⟨rfl, N253q, e253⟩ := hQ253
    have N253 := Fr.app N246 N253q
    obtain ⟨fs, hr, hrun, hended, hW, hsame⟩ := X253.leave (v := some (.ref r246)) (fun h => by rw [Bd.returns] at h; cases h)
    refine ⟨_, _, pre0 _ ?_, hrun, hended, _, _, rfl, ?_, ⟨_, rfl⟩, hW, hsame.mono (by decide) (by decide)⟩
    · show own_S p e below s₁ (mkF m 0 #[.val (.ref a0), .val (.int 0), .val (.int 2), .unset, .unset, .unset] []) _
      refine cp252 _ ?_
      show own_S p e below T246 (mkF m 32 #[.val (.ref a0), .val (.int 0), .val (.int 2), .val (.ref b235), .val (.int 0), .val (.ref r246)] [.int 0, (.ref r246)]) _
      refine st253 _ ?_
      show own_S p e below T253 (mkF m 35 #[.val (.ref a0), .val (.int 0), .val (.int 2), .val (.ref b235), .val (.int 0), .val (.ref r246)] [(.int (own_gc (nar .byte ((c0 >>> ((0 : Int32) &&& 31)).toInt8.toInt32)) (nar .byte ((c0 >>> ((8 : Int32) &&& 31)).toInt8.toInt32))))]) _
      refine XS.sipush X253.here hx rfl (hb hby d16_35) ?_
      refine XS.icmpYes X253.here hx rfl (pc0 := 38) (pc' := 54) rfl (hb hby d16_38) rfl (tlt (show (255 : Int32) < (own_gc (nar .byte ((c0 >>> ((0 : Int32) &&& 31)).toInt8.toInt32)) (nar .byte ((c0 >>> ((8 : Int32) &&& 31)).toInt8.toInt32))) from (by rw [own_gc_back c0 hr_c0]; exact hbig241))).2.2.1 (by decide) (by decide) ?_
      show own_S p e below T253 (mkF m 54 #[.val (.ref a0), .val (.int 0), .val (.int 2), .val (.ref b235), .val (.int 0), .val (.ref r246)] []) _
      refine XS.aload X253.here hx rfl (hb hby d16_54) rfl rfl ?_
      show own_S p e below T253 (mkF m 56 #[.val (.ref a0), .val (.int 0), .val (.int 2), .val (.ref b235), .val (.int 0), .val (.ref r246)] [(.ref r246)]) _
      exact Jvm.RoadKit.retOut X253 hx Bd.returns rfl (Or.inr (Or.inr (Or.inr (Or.inr ⟨rfl, rfl, rfl⟩)))) (hb hby d16_56) hr
    · show Q16_s2 Z a0 kc c0 c1 h0 n0 _ T253.heap _
      rw [e253]
      exact ⟨r246, kr246, (4 : Int32), _, rfl, N253, kp251, ge_r246, gs_r246, Vr246, Or.inr ⟨rfl, rfl⟩⟩
  · obtain ⟨rfl, N241q, K241, hbig241⟩ := q241
    have N241 := Fr.app N0 N241q
    have x254 := x237.keep K241 (ninS ne236 nin0)
    have x255 := x238.keep K241 (allS ge_b235 all0)
    have sz256 : n0 ≤ T241.heap.size := Nat.le_trans sz239 K241.1
    have kp257 : Keep h0 T241.heap [] := kp240.trans K241 (allS (Or.inr gs_b235) all0)
    obtain ⟨_, _, ⟨T258, L258, k258, n258⟩, -, X258, ⟨Lc258, hQ258, l258, y258, z258⟩, st258⟩ := Jvm.LawKit.callS X241 hx (y := (⟨"java/lang/StringUTF16", "toBytes", "([CII)[B"⟩ : MethodName)) hown (mvT hZ (own_wk hw 117 rfl)) (mvT hZ (own_wk hw 118 rfl)) (mvT hZ (own_wk hw 77 rfl)) (mvT hZ (own_wk hw 119 rfl)) (by decide) (backOf (W := 0) (rm27_s2 l Z ag hw [] a0 kc c0 c1 T241.heap n0 sz256 x254 hr_c0 hr_c1 x255 S_ad S_hi S_lo) hZ (own_wk hw 119 rfl) (own_wk hw 77 rfl) (by decide) (by decide)) (g := (mkF m 23 #[.val (.ref a0), .val (.int 0), .val (.int 2), .val (.ref b235), .val (.int 1), .unset] [.int 2, .int 0, (.ref a0)])) rfl (by rw [hml]; rfl) (argsL := [(.ref a0), (.int (0 : Int32)), (.int (2 : Int32))]) (rest := []) (lenOf pd_23 rfl) rfl (by show 2 * 0 + _ ≤ _; exact Nat.le_of_eq rfl) (hb hby d16_23) (fun _ _ => ⟨rfl, rfl, (by decide : 1 + 1 ≤ _), (by decide : 2 + 8 ≤ _)⟩)
    dsimp only [Pt.U, Pt.locs, Pt.cells, Pt.slots] at X258 l258 y258 z258 st258 hQ258
    subst l258 y258 z258
    obtain ⟨r258, kr258, rfl, N258q, K258, ge_r258, gq_r258, Vr258⟩ := hQ258
    have N258 := Fr.app N241 N258q
    have ne259 : a0 ≠ r258 := Nat.ne_of_lt (Nat.lt_of_lt_of_le x254.lt gq_r258)
    have gs_r258 : h0.size ≤ r258 := Nat.le_trans kp257.1 gq_r258
    have x260 := x254.keep K258 nin0
    have x261 := x255.keep K258 all0
    have sz262 : n0 ≤ T258.heap.size := Nat.le_trans sz256 K258.1
    have kp263 : Keep h0 T258.heap [] := kp257.trans K258 all0
    have cp264 : ∀ target, own_S p e below T258 (mkF m 32 #[.val (.ref a0), .val (.int 0), .val (.int 2), .val (.ref b235), .val (.int 1), .val (.ref r258)] [.int 1, (.ref r258)]) target → own_S p e below s₁ (mkF m 0 #[.val (.ref a0), .val (.int 0), .val (.int 2), .unset, .unset, .unset] []) target := by
      intro target kt
      show own_S p e below s₁ (mkF m 0 #[.val (.ref a0), .val (.int 0), .val (.int 2), .unset, .unset, .unset] []) _
      refine XS.iloadN X0.here hx rfl (hb hby d16_0) rfl ?_
      show own_S p e below s₁ (mkF m 1 #[.val (.ref a0), .val (.int 0), .val (.int 2), .unset, .unset, .unset] [.int 2]) _
      refine st235 _ ?_
      show own_S p e below T235 (mkF m 3 #[.val (.ref a0), .val (.int 0), .val (.int 2), .unset, .unset, .unset] [(.ref b235)]) _
      refine XS.astoreN X235.here hx rfl (hb hby d16_3) rfl rfl (l' := #[.val (.ref a0), .val (.int 0), .val (.int 2), .val (.ref b235), .unset, .unset]) rfl ?_
      show own_S p e below T235 (mkF m 4 #[.val (.ref a0), .val (.int 0), .val (.int 2), .val (.ref b235), .unset, .unset] []) _
      refine XS.aloadN X235.here hx rfl (hb hby d16_4) rfl rfl ?_
      refine XS.iloadN X235.here hx rfl (hb hby d16_5) rfl ?_
      refine XS.aloadN X235.here hx rfl (hb hby d16_6) rfl rfl ?_
      refine XS.iconst X235.here hx rfl (hb hby d16_7) ?_
      refine XS.iloadN X235.here hx rfl (hb hby d16_8) rfl ?_
      show own_S p e below T235 (mkF m 9 #[.val (.ref a0), .val (.int 0), .val (.int 2), .val (.ref b235), .unset, .unset] [.int 2, .int 0, (.ref b235), .int 0, (.ref a0)]) _
      refine st241 _ ?_
      show own_S p e below T241 (mkF m 12 #[.val (.ref a0), .val (.int 0), .val (.int 2), .val (.ref b235), .unset, .unset] [.int 1]) _
      refine XS.istore X241.here hx rfl (hb hby d16_12) rfl (l' := #[.val (.ref a0), .val (.int 0), .val (.int 2), .val (.ref b235), .val (.int 1), .unset]) rfl ?_
      show own_S p e below T241 (mkF m 14 #[.val (.ref a0), .val (.int 0), .val (.int 2), .val (.ref b235), .val (.int 1), .unset] []) _
      refine XS.iload X241.here hx rfl (hb hby d16_14) rfl ?_
      refine XS.iloadN X241.here hx rfl (hb hby d16_16) rfl ?_
      refine XS.icmpNo X241.here hx rfl (hb hby d16_17) rfl (feq (by decide : ¬ ((1 : Int32) = (2 : Int32)))).1 ?_
      show own_S p e below T241 (mkF m 20 #[.val (.ref a0), .val (.int 0), .val (.int 2), .val (.ref b235), .val (.int 1), .unset] []) _
      refine XS.aloadN X241.here hx rfl (hb hby d16_20) rfl rfl ?_
      refine XS.iloadN X241.here hx rfl (hb hby d16_21) rfl ?_
      refine XS.iloadN X241.here hx rfl (hb hby d16_22) rfl ?_
      show own_S p e below T241 (mkF m 23 #[.val (.ref a0), .val (.int 0), .val (.int 2), .val (.ref b235), .val (.int 1), .unset] [.int 2, .int 0, (.ref a0)]) _
      refine st258 _ ?_
      show own_S p e below T258 (mkF m 26 #[.val (.ref a0), .val (.int 0), .val (.int 2), .val (.ref b235), .val (.int 1), .unset] [(.ref r258)]) _
      refine XS.astore X258.here hx rfl (hb hby d16_26) rfl rfl (l' := #[.val (.ref a0), .val (.int 0), .val (.int 2), .val (.ref b235), .val (.int 1), .val (.ref r258)]) rfl ?_
      show own_S p e below T258 (mkF m 28 #[.val (.ref a0), .val (.int 0), .val (.int 2), .val (.ref b235), .val (.int 1), .val (.ref r258)] []) _
      refine XS.aload X258.here hx rfl (hb hby d16_28) rfl rfl ?_
      refine XS.iload X258.here hx rfl (hb hby d16_30) rfl ?_
      exact kt
    obtain ⟨_, _, ⟨T265, L265, k265, n265⟩, -, X265, ⟨Lc265, hQ265, l265, y265, z265⟩, st265⟩ := Jvm.LawKit.callS X258 hx (y := (⟨"java/lang/StringUTF16", "getChar", "([BI)C"⟩ : MethodName)) hown (mvT hZ (own_wk hw 133 rfl)) (mvT hZ (own_wk hw 134 rfl)) (mvT hZ (own_wk hw 77 rfl)) (mvT hZ (own_wk hw 135 rfl)) (by decide) (backOf (W := 0) (rm31 l Z ag hw [] r258 (1 : Int32) kr258 (4 : Int32) [(.int (nar .byte ((c0 >>> ((0 : Int32) &&& 31)).toInt8.toInt32))), (.int (nar .byte ((c0 >>> ((8 : Int32) &&& 31)).toInt8.toInt32))), (.int (nar .byte ((c1 >>> ((0 : Int32) &&& 31)).toInt8.toInt32))), (.int (nar .byte ((c1 >>> ((8 : Int32) &&& 31)).toInt8.toInt32)))] (nar .byte ((c1 >>> ((0 : Int32) &&& 31)).toInt8.toInt32)) (nar .byte ((c1 >>> ((8 : Int32) &&& 31)).toInt8.toInt32)) T258.heap n0 sz262 Vr258 (by decide) (by decide) rfl rfl x261 S_ad S_hi S_lo) hZ (own_wk hw 135 rfl) (own_wk hw 77 rfl) (by decide) (by decide)) (g := (mkF m 32 #[.val (.ref a0), .val (.int 0), .val (.int 2), .val (.ref b235), .val (.int 1), .val (.ref r258)] [.int 1, (.ref r258)])) rfl (by rw [hml]; rfl) (argsL := [(.ref r258), (.int (1 : Int32))]) (rest := []) (lenOf pd_19 rfl) rfl (by show 2 * 0 + _ ≤ _; exact Nat.le_of_eq rfl) (hb hby d16_32) (fun _ _ => ⟨rfl, rfl, (by decide : 2 + 0 ≤ _), (by decide : 10 + 0 ≤ _)⟩)
    dsimp only [Pt.U, Pt.locs, Pt.cells, Pt.slots] at X265 l265 y265 z265 st265 hQ265
    subst l265 y265 z265
    obtain ⟨rfl, N265q, e265⟩ := hQ265
    have N265 := Fr.app N258 N265q
    obtain ⟨fs, hr, hrun, hended, hW, hsame⟩ := X265.leave (v := some (.ref r258)) (fun h => by rw [Bd.returns] at h; cases h)
    refine ⟨_, _, pre0 _ ?_, hrun, hended, _, _, rfl, ?_, ⟨_, rfl⟩, hW, hsame.mono (by decide) (by decide)⟩
    · show own_S p e below s₁ (mkF m 0 #[.val (.ref a0), .val (.int 0), .val (.int 2), .unset, .unset, .unset] []) _
      refine cp264 _ ?_
      show own_S p e below T258 (mkF m 32 #[.val (.ref a0), .val (.int 0), .val (.int 2), .val (.ref b235), .val (.int 1), .val (.ref r258)] [.int 1, (.ref r258)]) _
      refine st265 _ ?_
      show own_S p e below T265 (mkF m 35 #[.val (.ref a0), .val (.int 0), .val (.int 2), .val (.ref b235), .val (.int 1), .val (.ref r258)] [(.int (own_gc (nar .byte ((c1 >>> ((0 : Int32) &&& 31)).toInt8.toInt32)) (nar .byte ((c1 >>> ((8 : Int32) &&& 31)).toInt8.toInt32))))]) _
      refine XS.sipush X265.here hx rfl (hb hby d16_35) ?_
      refine XS.icmpYes X265.here hx rfl (pc0 := 38) (pc' := 54) rfl (hb hby d16_38) rfl (tlt (show (255 : Int32) < (own_gc (nar .byte ((c1 >>> ((0 : Int32) &&& 31)).toInt8.toInt32)) (nar .byte ((c1 >>> ((8 : Int32) &&& 31)).toInt8.toInt32))) from (by rw [own_gc_back c1 hr_c1]; exact hbig241))).2.2.1 (by decide) (by decide) ?_
      show own_S p e below T265 (mkF m 54 #[.val (.ref a0), .val (.int 0), .val (.int 2), .val (.ref b235), .val (.int 1), .val (.ref r258)] []) _
      refine XS.aload X265.here hx rfl (hb hby d16_54) rfl rfl ?_
      show own_S p e below T265 (mkF m 56 #[.val (.ref a0), .val (.int 0), .val (.int 2), .val (.ref b235), .val (.int 1), .val (.ref r258)] [(.ref r258)]) _
      exact Jvm.RoadKit.retOut X265 hx Bd.returns rfl (Or.inr (Or.inr (Or.inr (Or.inr ⟨rfl, rfl, rfl⟩)))) (hb hby d16_56) hr
    · show Q16_s2 Z a0 kc c0 c1 h0 n0 _ T265.heap _
      rw [e265]
      exact ⟨r258, kr258, (4 : Int32), _, rfl, N265, kp263, ge_r258, gs_r258, Vr258, Or.inr ⟨rfl, rfl⟩⟩
  · obtain ⟨rfl, N241q, K241, Vb241, hl241_0, hl241_1⟩ := q241
    have N241 := Fr.app N0 N241q
    have x266 := x237.keep K241 (ninS ne236 nin0)
    have x267 := x238.keep K241 (allS ge_b235 all0)
    have sz268 : n0 ≤ T241.heap.size := Nat.le_trans sz239 K241.1
    have kp269 : Keep h0 T241.heap [] := kp240.trans K241 (allS (Or.inr gs_b235) all0)
    obtain ⟨fs, hr, hrun, hended, hW, hsame⟩ := X241.leave (v := some (.ref b235)) (fun h => by rw [Bd.returns] at h; cases h)
    refine ⟨_, _, pre0 _ ?_, hrun, hended, _, _, rfl, ?_, ⟨_, rfl⟩, hW, hsame.mono (by decide) (by decide)⟩
    · show own_S p e below s₁ (mkF m 0 #[.val (.ref a0), .val (.int 0), .val (.int 2), .unset, .unset, .unset] []) _
      refine XS.iloadN X0.here hx rfl (hb hby d16_0) rfl ?_
      show own_S p e below s₁ (mkF m 1 #[.val (.ref a0), .val (.int 0), .val (.int 2), .unset, .unset, .unset] [.int 2]) _
      refine st235 _ ?_
      show own_S p e below T235 (mkF m 3 #[.val (.ref a0), .val (.int 0), .val (.int 2), .unset, .unset, .unset] [(.ref b235)]) _
      refine XS.astoreN X235.here hx rfl (hb hby d16_3) rfl rfl (l' := #[.val (.ref a0), .val (.int 0), .val (.int 2), .val (.ref b235), .unset, .unset]) rfl ?_
      show own_S p e below T235 (mkF m 4 #[.val (.ref a0), .val (.int 0), .val (.int 2), .val (.ref b235), .unset, .unset] []) _
      refine XS.aloadN X235.here hx rfl (hb hby d16_4) rfl rfl ?_
      refine XS.iloadN X235.here hx rfl (hb hby d16_5) rfl ?_
      refine XS.aloadN X235.here hx rfl (hb hby d16_6) rfl rfl ?_
      refine XS.iconst X235.here hx rfl (hb hby d16_7) ?_
      refine XS.iloadN X235.here hx rfl (hb hby d16_8) rfl ?_
      show own_S p e below T235 (mkF m 9 #[.val (.ref a0), .val (.int 0), .val (.int 2), .val (.ref b235), .unset, .unset] [.int 2, .int 0, (.ref b235), .int 0, (.ref a0)]) _
      refine st241 _ ?_
      show own_S p e below T241 (mkF m 12 #[.val (.ref a0), .val (.int 0), .val (.int 2), .val (.ref b235), .unset, .unset] [.int 2]) _
      refine XS.istore X241.here hx rfl (hb hby d16_12) rfl (l' := #[.val (.ref a0), .val (.int 0), .val (.int 2), .val (.ref b235), .val (.int 2), .unset]) rfl ?_
      show own_S p e below T241 (mkF m 14 #[.val (.ref a0), .val (.int 0), .val (.int 2), .val (.ref b235), .val (.int 2), .unset] []) _
      refine XS.iload X241.here hx rfl (hb hby d16_14) rfl ?_
      refine XS.iloadN X241.here hx rfl (hb hby d16_16) rfl ?_
      refine XS.icmpYes X241.here hx rfl (pc0 := 17) (pc' := 57) rfl (hb hby d16_17) rfl (teq (by decide : (2 : Int32) = (2 : Int32))).1 (by decide) (by decide) ?_
      show own_S p e below T241 (mkF m 57 #[.val (.ref a0), .val (.int 0), .val (.int 2), .val (.ref b235), .val (.int 2), .unset] []) _
      refine XS.aloadN X241.here hx rfl (hb hby d16_57) rfl rfl ?_
      show own_S p e below T241 (mkF m 58 #[.val (.ref a0), .val (.int 0), .val (.int 2), .val (.ref b235), .val (.int 2), .unset] [(.ref b235)]) _
      exact Jvm.RoadKit.retOut X241 hx Bd.returns rfl (Or.inr (Or.inr (Or.inr (Or.inr ⟨rfl, rfl, rfl⟩)))) (hb hby d16_58) hr
    · show Q16_s2 Z a0 kc c0 c1 h0 n0 _ T241.heap _
      exact ⟨b235, k235, (2 : Int32), _, rfl, N241, kp269, ge_b235, gs_b235, Vb241, Or.inl ⟨rfl, rfl, hl241_0, hl241_1⟩⟩
theorem ef_9_vv02n (m : MethodId) (a0 : Addr) (a1 : Addr) : entryFrame m #[(.ref a0), (.ref a1), (.int (0 : Int32)), (.int (2 : Int32)), .null] 6 = mkF m 0 #[.val (.ref a0), .val (.ref a1), .val (.int 0), .val (.int 2), .val .null, .unset] [] := by first | (simp [entryFrame, mkF, argsToLocals, Value.category]; done) | rfl
def Q9_s2 (Z : State) (a0 : Addr) (a1 : Addr) (kc : ClassId) (c0 : Int32) (c1 : Int32) (cs : Int32) (h0 : Heap) (n0 : Nat) (v : Option Value) (h : Heap) (L : List Loc) : Prop := v = none ∧ Fr n0 L ∧ Keep h0 h [a0] ∧ own_str Z h a0 [c0, c1]
set_option maxRecDepth 65536 in
set_option maxHeartbeats 40000000 in
theorem rm9_s2 (l : Launch) (Z : State) (ag : Array Value) (hw : ∀ d ∈ tables_1, d.before ag Z = true) (ws : List Jvm.Cond) (a0 : Addr) (a1 : Addr) (kc : ClassId) (c0 : Int32) (c1 : Int32) (cs : Int32) (h0 : Heap) (n0 : Nat) (Z0 : n0 ≤ h0.size) (E_a0 : Exa Z h0 a0 "java/lang/String") (F_value_a0 : Fld Z h0 a0 "java/lang/String" "value" "[B" .null) (F_coder_a0 : Fld Z h0 a0 "java/lang/String" "coder" "B" (.int (0 : Int32))) (ge_a0 : n0 ≤ a0) (ne_a0_a1 : a0 ≠ a1) (O_ : Old Z n0 h0) (S_cs : Sta Z Z.heap "java/lang/String" "COMPACT_STRINGS" "Z" (.int cs)) (hcs : ¬ cs = (0 : Int32)) (S_ad : Sta Z Z.heap "java/lang/StringUTF16" "$assertionsDisabled" "Z" (.int (1 : Int32))) (S_hi : Sta Z Z.heap "java/lang/StringUTF16" "HI_BYTE_SHIFT" "I" (.int (0 : Int32))) (S_lo : Sta Z Z.heap "java/lang/StringUTF16" "LO_BYTE_SHIFT" "I" (.int (8 : Int32))) (V_a1 : Arv Z h0 a1 kc .char (2 : Int32) [(.int c0), (.int c1)] (.int (0 : Int32))) (hr_c0 : 0 ≤ c0.toInt ∧ c0.toInt < 65536) (hr_c1 : 0 ≤ c1.toInt ∧ c1.toInt < 65536) :
    MetFree l (⟨"java/lang/String", "<init>", "([CIILjava/lang/Void;)V"⟩ : MethodName) (head1 (Jvm.Cond.code (⟨"java/lang/String", "<init>", "([CIILjava/lang/Void;)V"⟩ : MethodName) jdk_42_method_149_code 6 none :: ws) ({ frames := 4, cells := 2, slots := 10, locals := 57 } : Room)) (fun a U => a = #[(.ref a0), (.ref a1), (.int (0 : Int32)), (.int (2 : Int32)), .null] ∧ Z.Warmed39 U.vm ∧ U.heap = h0) (fun _ _ _ _ _ => True) (fun _ U o U' => ∃ v L, o = .returned v ∧ Q9_s2 Z a0 a1 kc c0 c1 cs h0 n0 v U'.heap L ∧ FrameEnd U o U' L ({ frames := 4, cells := 2, slots := 10, locals := 57 } : Room).cells ({ frames := 4, cells := 2, slots := 10, locals := 57 } : Room).slots) := by
  refine MetFree.of_bodySF (plainFor_of_name pn_4) hisR ?_
  intro p e s m args below meth c s₁ Bd hml0 hP hK
  obtain ⟨rfl, hZ, hh⟩ := hP
  have hx := Bd.exec
  have hby := Bd.bytes
  have hml : c.maxLocals = 6 := hml0
  have hown : s.vm.findClass "java/lang/String" = some m.cls := findClass_of_methodNamed Bd.named
  have hnm := (name_of_methodNamed Bd.named Bd.method).1
  have X0 : Stand p l e ({ frames := 4, cells := 2, slots := 10, locals := 57 } : Room) s m #[(.ref a0), (.ref a1), (.int (0 : Int32)), (.int (2 : Int32)), .null] below meth c s₁ [] 0 0 := Stand.of_body Bd
  have e0 : s₁.heap = h0 := by rw [← hh, Bd.state]; rfl
  have N0 := Fr.nil n0
  have pre0 : ∀ t, Steps p.tables e below (s₁.setTop (mkF m 0 #[.val (.ref a0), .val (.ref a1), .val (.int 0), .val (.int 2), .val .null, .unset] [])) t → Steps p.tables e below (s₁.setTop (entryFrame m #[(.ref a0), (.ref a1), (.int (0 : Int32)), (.int (2 : Int32)), .null] 6)) t := fun t k => castTop (ef_9_vv02n m a0 a1) k
  obtain ⟨T270, X270, e270, st270⟩ := initO X0 hx hZ hown (own_wk hw 49 rfl) (own_wk hw 50 rfl) (own_wk hw 51 rfl) e0 (g := (mkF m 1 #[.val (.ref a0), .val (.ref a1), .val (.int 0), .val (.int 2), .val .null, .unset] [(.ref a0)])) rfl (by rw [hml]; rfl) rfl (hb hby d9_1) (by decide) (W := 0) (by show 2 * 0 + _ ≤ _; exact Nat.le_of_eq rfl) (by decide)
  obtain ⟨T271, X271, e271, st271⟩ := getS2 X270 hx hZ hown (host := "") (Or.inl (own_wk hw 22 rfl)) Via.refl e270 (Sta.ext O_.2 S_cs) (g := (mkF m 27 #[.val (.ref a0), .val (.ref a1), .val (.int 0), .val (.int 2), .val .null, .unset] [])) rfl (hb hby d9_27)
  obtain ⟨_, _, ⟨T272, L272, k272, n272⟩, -, X272, ⟨Lc272, hQ272, l272, y272, z272⟩, st272⟩ := Jvm.LawKit.callS X271 hx (y := (⟨"java/lang/StringUTF16", "compress", "([CII)[B"⟩ : MethodName)) hown (mvT hZ (own_wk hw 75 rfl)) (mvT hZ (own_wk hw 76 rfl)) (mvT hZ (own_wk hw 77 rfl)) (mvT hZ (own_wk hw 78 rfl)) (by decide) (backOf (W := 0) (rm16_s2 l Z ag hw [] a1 kc c0 c1 h0 n0 Z0 V_a1 hr_c0 hr_c1 O_ S_ad S_hi S_lo) hZ (own_wk hw 78 rfl) (own_wk hw 77 rfl) (by decide) (by decide)) (g := (mkF m 36 #[.val (.ref a0), .val (.ref a1), .val (.int 0), .val (.int 2), .val .null, .unset] [.int 2, .int 0, (.ref a1)])) rfl (by rw [hml]; rfl) (argsL := [(.ref a1), (.int (0 : Int32)), (.int (2 : Int32))]) (rest := []) (lenOf pd_23 rfl) rfl (by show 2 * 0 + _ ≤ _; exact Nat.le_of_eq rfl) (hb hby d9_36) (fun _ _ => ⟨rfl, e271, (by decide : 0 + 2 ≤ _), (by decide : 0 + 10 ≤ _)⟩)
  dsimp only [Pt.U, Pt.locs, Pt.cells, Pt.slots] at X272 l272 y272 z272 st272 hQ272
  subst l272 y272 z272
  obtain ⟨r272, kr272, nb272, vs272, rfl, N272q, K272, ge_r272, gq_r272, Vr272, hQ272⟩ := hQ272
  rcases hQ272 with q272 | q272
  · obtain ⟨rfl, rfl, hl272_0, hl272_1⟩ := q272
    have N272 := Fr.app N0 N272q
    have ne273 : a0 ≠ r272 := Nat.ne_of_lt (Nat.lt_of_lt_of_le E_a0.lt gq_r272)
    have ne274 : a1 ≠ r272 := Nat.ne_of_lt (Nat.lt_of_lt_of_le V_a1.lt gq_r272)
    have gs_r272 : h0.size ≤ r272 := Nat.le_trans (Keep.refl h0 [a0]).1 gq_r272
    have x275 := E_a0.keep K272
    have x276 := F_value_a0.keep K272 nin0
    have x277 := F_coder_a0.keep K272 nin0
    have x278 := O_.keep K272 all0
    have x279 := V_a1.keep K272 nin0
    have sz280 : n0 ≤ T272.heap.size := Nat.le_trans Z0 K272.1
    have kp281 : Keep h0 T272.heap [a0] := (Keep.refl h0 [a0]).trans K272 all0
    obtain ⟨_, _, ⟨T282, L282, k282, n282⟩, -, X282, ⟨Lc282, hQ282, l282, y282, z282⟩, st282⟩ := Jvm.LawKit.callS X272 hx (y := (⟨"java/lang/StringUTF16", "coderFromArrayLen", "([BI)B"⟩ : MethodName)) hown (mvT hZ (own_wk hw 82 rfl)) (mvT hZ (own_wk hw 83 rfl)) (mvT hZ (own_wk hw 77 rfl)) (mvT hZ (own_wk hw 84 rfl)) (by decide) (backOf (W := 1) (rm18 l Z ag hw [] r272 (2 : Int32) kr272 (2 : Int32) [(.int (nar .byte (c0.toInt8.toInt32))), (.int (nar .byte (c1.toInt8.toInt32)))] (0 : Int32) T272.heap n0 sz280 Vr272 (by decide)) hZ (own_wk hw 84 rfl) (own_wk hw 77 rfl) (by decide) (by decide)) (g := (mkF m 45 #[.val (.ref a0), .val (.ref a1), .val (.int 0), .val (.int 2), .val .null, .val (.ref r272)] [.int 2, (.ref r272), (.ref a0)])) rfl (by rw [hml]; rfl) (argsL := [(.ref r272), (.int (2 : Int32))]) (rest := [(.ref a0)]) (lenOf pd_18 rfl) rfl (by show 2 * 0 + _ ≤ _; exact Nat.le_of_eq rfl) (hb hby d9_45) (fun _ _ => ⟨rfl, rfl, (by decide : 2 + 0 ≤ _), (by decide : 10 + 0 ≤ _)⟩)
    dsimp only [Pt.U, Pt.locs, Pt.cells, Pt.slots] at X282 l282 y282 z282 st282 hQ282
    subst l282 y282 z282
    obtain ⟨rfl, N282q, e282⟩ := hQ282
    have N282 := Fr.app N272 N282q
    obtain ⟨T283, h283, X283, e283, W283, st283⟩ := putFN X282 hx hZ hown (own_wk hw 23 rfl) Via.refl e282 x277 x275 (Or.inr ⟨(own_wk hw 9 rfl), rfl, hnm⟩) (own_wk hw 6 rfl) (ty := .byte) (v' := (.int (0 : Int32))) (by decide) rfl (fits_nar_byte (0 : Int32)) (g := (mkF m 48 #[.val (.ref a0), .val (.ref a1), .val (.int 0), .val (.int 2), .val .null, .val (.ref r272)] [.int 0, (.ref a0)])) rfl rfl (hb hby d9_48)
    have Fw283 := x277.same W283
    have x284 := x275.wr W283
    have x285 := x276.other W283 (Or.inr (slot_ne (Or.inr (own_wk hw 8 rfl)) (Or.inr (own_wk hw 9 rfl)) (by decide) (t := (.array .byte)) (t' := .byte) (by decide) (by decide)))
    have x286 := x278.wr W283 ge_a0
    have x287 := x279.other W283 (Ne.symm ne_a0_a1)
    have x288 := Vr272.other W283 (Ne.symm ne273)
    have sz289 : n0 ≤ h283.size := Nat.le_trans sz280 (Keep.of_wr W283).1
    have kp290 : Keep h0 h283 [a0] := kp281.wr W283 (Or.inl (List.mem_of_getElem? (i := 0) rfl))
    have N283 := Fr.snoc X283 N282 ge_a0
    obtain ⟨T291, h291, X291, e291, W291, st291⟩ := putF X283 hx hZ hown (host := "") (Or.inl (own_wk hw 24 rfl)) Via.refl e283 x285 x284 (Or.inr ⟨(own_wk hw 8 rfl), rfl, hnm⟩) (own_wk hw 6 rfl) (ty := (.array .byte)) (by decide) rfl rfl (g := (mkF m 54 #[.val (.ref a0), .val (.ref a1), .val (.int 0), .val (.int 2), .val .null, .val (.ref r272)] [(.ref r272), (.ref a0)])) rfl rfl (hb hby d9_54)
    have Fw291 := x285.same W291
    have x292 := x284.wr W291
    have x293 := x286.wr W291 ge_a0
    have x294 := x287.other W291 (Ne.symm ne_a0_a1)
    have x295 := x288.other W291 (Ne.symm ne273)
    have x296 := Fw283.other W291 (Or.inr (slot_ne (Or.inr (own_wk hw 9 rfl)) (Or.inr (own_wk hw 8 rfl)) (by decide) (t := .byte) (t' := (.array .byte)) (by decide) (by decide)))
    have sz297 : n0 ≤ h291.size := Nat.le_trans sz289 (Keep.of_wr W291).1
    have kp298 : Keep h0 h291 [a0] := kp290.wr W291 (Or.inl (List.mem_of_getElem? (i := 0) rfl))
    have N291 := Fr.snoc X291 N283 ge_a0
    obtain ⟨fs, hr, hrun, hended, hW, hsame⟩ := X291.leave (v := none) (fun _ => rfl)
    refine ⟨_, _, pre0 _ ?_, hrun, hended, _, _, rfl, ?_, ⟨_, rfl⟩, hW, hsame.mono (by decide) (by decide)⟩
    · show own_S p e below s₁ (mkF m 0 #[.val (.ref a0), .val (.ref a1), .val (.int 0), .val (.int 2), .val .null, .unset] []) _
      refine XS.aloadN X0.here hx rfl (hb hby d9_0) rfl rfl ?_
      show own_S p e below s₁ (mkF m 1 #[.val (.ref a0), .val (.ref a1), .val (.int 0), .val (.int 2), .val .null, .unset] [(.ref a0)]) _
      refine st270 _ ?_
      show own_S p e below T270 (mkF m 4 #[.val (.ref a0), .val (.ref a1), .val (.int 0), .val (.int 2), .val .null, .unset] []) _
      refine XS.iloadN X270.here hx rfl (hb hby d9_4) rfl ?_
      refine XS.ifYes X270.here hx rfl (pc0 := 5) (pc' := 27) rfl (hb hby d9_5) rfl ((if0 _ _).trans (feq (by decide : ¬ ((2 : Int32) = (0 : Int32)))).2) (by decide) (by decide) ?_
      show own_S p e below T270 (mkF m 27 #[.val (.ref a0), .val (.ref a1), .val (.int 0), .val (.int 2), .val .null, .unset] []) _
      refine st271 _ ?_
      show own_S p e below T271 (mkF m 30 #[.val (.ref a0), .val (.ref a1), .val (.int 0), .val (.int 2), .val .null, .unset] [(.int cs)]) _
      refine XS.ifNo X271.here hx rfl (hb hby d9_30) rfl ((if0 _ _).trans (feq (show ¬ (cs = (0 : Int32)) from hcs)).1) ?_
      show own_S p e below T271 (mkF m 33 #[.val (.ref a0), .val (.ref a1), .val (.int 0), .val (.int 2), .val .null, .unset] []) _
      refine XS.aloadN X271.here hx rfl (hb hby d9_33) rfl rfl ?_
      refine XS.iloadN X271.here hx rfl (hb hby d9_34) rfl ?_
      refine XS.iloadN X271.here hx rfl (hb hby d9_35) rfl ?_
      show own_S p e below T271 (mkF m 36 #[.val (.ref a0), .val (.ref a1), .val (.int 0), .val (.int 2), .val .null, .unset] [.int 2, .int 0, (.ref a1)]) _
      refine st272 _ ?_
      show own_S p e below T272 (mkF m 39 #[.val (.ref a0), .val (.ref a1), .val (.int 0), .val (.int 2), .val .null, .unset] [(.ref r272)]) _
      refine XS.astore X272.here hx rfl (hb hby d9_39) rfl rfl (l' := #[.val (.ref a0), .val (.ref a1), .val (.int 0), .val (.int 2), .val .null, .val (.ref r272)]) rfl ?_
      show own_S p e below T272 (mkF m 41 #[.val (.ref a0), .val (.ref a1), .val (.int 0), .val (.int 2), .val .null, .val (.ref r272)] []) _
      refine XS.aloadN X272.here hx rfl (hb hby d9_41) rfl rfl ?_
      refine XS.aload X272.here hx rfl (hb hby d9_42) rfl rfl ?_
      refine XS.iloadN X272.here hx rfl (hb hby d9_44) rfl ?_
      show own_S p e below T272 (mkF m 45 #[.val (.ref a0), .val (.ref a1), .val (.int 0), .val (.int 2), .val .null, .val (.ref r272)] [.int 2, (.ref r272), (.ref a0)]) _
      refine st282 _ ?_
      show own_S p e below T282 (mkF m 48 #[.val (.ref a0), .val (.ref a1), .val (.int 0), .val (.int 2), .val .null, .val (.ref r272)] [.int 0, (.ref a0)]) _
      refine st283 _ ?_
      show own_S p e below T283 (mkF m 51 #[.val (.ref a0), .val (.ref a1), .val (.int 0), .val (.int 2), .val .null, .val (.ref r272)] []) _
      refine XS.aloadN X283.here hx rfl (hb hby d9_51) rfl rfl ?_
      refine XS.aload X283.here hx rfl (hb hby d9_52) rfl rfl ?_
      show own_S p e below T283 (mkF m 54 #[.val (.ref a0), .val (.ref a1), .val (.int 0), .val (.int 2), .val .null, .val (.ref r272)] [(.ref r272), (.ref a0)]) _
      refine st291 _ ?_
      show own_S p e below T291 (mkF m 57 #[.val (.ref a0), .val (.ref a1), .val (.int 0), .val (.int 2), .val .null, .val (.ref r272)] []) _
      exact X291.returnOut hx Bd.returns (hb hby d9_57) hr
    · show Q9_s2 Z a0 a1 kc c0 c1 cs h0 n0 _ T291.heap _
      rw [e291]
      exact ⟨rfl, N291, kp298, ⟨x292, (by decide : 2 ≤ 4), r272, kr272, (2 : Int32), (0 : Int32), _, Fw291, x296, x295, Or.inl ⟨rfl, rfl, own_lat_of2 hr_c0 hr_c1 hl272_0 hl272_1⟩⟩⟩
  · obtain ⟨rfl, rfl⟩ := q272
    have N272 := Fr.app N0 N272q
    have ne299 : a0 ≠ r272 := Nat.ne_of_lt (Nat.lt_of_lt_of_le E_a0.lt gq_r272)
    have ne300 : a1 ≠ r272 := Nat.ne_of_lt (Nat.lt_of_lt_of_le V_a1.lt gq_r272)
    have gs_r272 : h0.size ≤ r272 := Nat.le_trans (Keep.refl h0 [a0]).1 gq_r272
    have x301 := E_a0.keep K272
    have x302 := F_value_a0.keep K272 nin0
    have x303 := F_coder_a0.keep K272 nin0
    have x304 := O_.keep K272 all0
    have x305 := V_a1.keep K272 nin0
    have sz306 : n0 ≤ T272.heap.size := Nat.le_trans Z0 K272.1
    have kp307 : Keep h0 T272.heap [a0] := (Keep.refl h0 [a0]).trans K272 all0
    obtain ⟨_, _, ⟨T308, L308, k308, n308⟩, -, X308, ⟨Lc308, hQ308, l308, y308, z308⟩, st308⟩ := Jvm.LawKit.callS X272 hx (y := (⟨"java/lang/StringUTF16", "coderFromArrayLen", "([BI)B"⟩ : MethodName)) hown (mvT hZ (own_wk hw 82 rfl)) (mvT hZ (own_wk hw 83 rfl)) (mvT hZ (own_wk hw 77 rfl)) (mvT hZ (own_wk hw 84 rfl)) (by decide) (backOf (W := 1) (rm18 l Z ag hw [] r272 (2 : Int32) kr272 (4 : Int32) [(.int (nar .byte ((c0 >>> ((0 : Int32) &&& 31)).toInt8.toInt32))), (.int (nar .byte ((c0 >>> ((8 : Int32) &&& 31)).toInt8.toInt32))), (.int (nar .byte ((c1 >>> ((0 : Int32) &&& 31)).toInt8.toInt32))), (.int (nar .byte ((c1 >>> ((8 : Int32) &&& 31)).toInt8.toInt32)))] (1 : Int32) T272.heap n0 sz306 Vr272 (by decide)) hZ (own_wk hw 84 rfl) (own_wk hw 77 rfl) (by decide) (by decide)) (g := (mkF m 45 #[.val (.ref a0), .val (.ref a1), .val (.int 0), .val (.int 2), .val .null, .val (.ref r272)] [.int 2, (.ref r272), (.ref a0)])) rfl (by rw [hml]; rfl) (argsL := [(.ref r272), (.int (2 : Int32))]) (rest := [(.ref a0)]) (lenOf pd_18 rfl) rfl (by show 2 * 0 + _ ≤ _; exact Nat.le_of_eq rfl) (hb hby d9_45) (fun _ _ => ⟨rfl, rfl, (by decide : 2 + 0 ≤ _), (by decide : 10 + 0 ≤ _)⟩)
    dsimp only [Pt.U, Pt.locs, Pt.cells, Pt.slots] at X308 l308 y308 z308 st308 hQ308
    subst l308 y308 z308
    obtain ⟨rfl, N308q, e308⟩ := hQ308
    have N308 := Fr.app N272 N308q
    obtain ⟨T309, h309, X309, e309, W309, st309⟩ := putFN X308 hx hZ hown (own_wk hw 23 rfl) Via.refl e308 x303 x301 (Or.inr ⟨(own_wk hw 9 rfl), rfl, hnm⟩) (own_wk hw 6 rfl) (ty := .byte) (v' := (.int (1 : Int32))) (by decide) rfl (fits_nar_byte (1 : Int32)) (g := (mkF m 48 #[.val (.ref a0), .val (.ref a1), .val (.int 0), .val (.int 2), .val .null, .val (.ref r272)] [.int 1, (.ref a0)])) rfl rfl (hb hby d9_48)
    have Fw309 := x303.same W309
    have x310 := x301.wr W309
    have x311 := x302.other W309 (Or.inr (slot_ne (Or.inr (own_wk hw 8 rfl)) (Or.inr (own_wk hw 9 rfl)) (by decide) (t := (.array .byte)) (t' := .byte) (by decide) (by decide)))
    have x312 := x304.wr W309 ge_a0
    have x313 := x305.other W309 (Ne.symm ne_a0_a1)
    have x314 := Vr272.other W309 (Ne.symm ne299)
    have sz315 : n0 ≤ h309.size := Nat.le_trans sz306 (Keep.of_wr W309).1
    have kp316 : Keep h0 h309 [a0] := kp307.wr W309 (Or.inl (List.mem_of_getElem? (i := 0) rfl))
    have N309 := Fr.snoc X309 N308 ge_a0
    obtain ⟨T317, h317, X317, e317, W317, st317⟩ := putF X309 hx hZ hown (host := "") (Or.inl (own_wk hw 24 rfl)) Via.refl e309 x311 x310 (Or.inr ⟨(own_wk hw 8 rfl), rfl, hnm⟩) (own_wk hw 6 rfl) (ty := (.array .byte)) (by decide) rfl rfl (g := (mkF m 54 #[.val (.ref a0), .val (.ref a1), .val (.int 0), .val (.int 2), .val .null, .val (.ref r272)] [(.ref r272), (.ref a0)])) rfl rfl (hb hby d9_54)
    have Fw317 := x311.same W317
    have x318 := x310.wr W317
    have x319 := x312.wr W317 ge_a0
    have x320 := x313.other W317 (Ne.symm ne_a0_a1)
    have x321 := x314.other W317 (Ne.symm ne299)
    have x322 := Fw309.other W317 (Or.inr (slot_ne (Or.inr (own_wk hw 9 rfl)) (Or.inr (own_wk hw 8 rfl)) (by decide) (t := .byte) (t' := (.array .byte)) (by decide) (by decide)))
    have sz323 : n0 ≤ h317.size := Nat.le_trans sz315 (Keep.of_wr W317).1
    have kp324 : Keep h0 h317 [a0] := kp316.wr W317 (Or.inl (List.mem_of_getElem? (i := 0) rfl))
    have N317 := Fr.snoc X317 N309 ge_a0
    obtain ⟨fs, hr, hrun, hended, hW, hsame⟩ := X317.leave (v := none) (fun _ => rfl)
    refine ⟨_, _, pre0 _ ?_, hrun, hended, _, _, rfl, ?_, ⟨_, rfl⟩, hW, hsame.mono (by decide) (by decide)⟩
    · show own_S p e below s₁ (mkF m 0 #[.val (.ref a0), .val (.ref a1), .val (.int 0), .val (.int 2), .val .null, .unset] []) _
      refine XS.aloadN X0.here hx rfl (hb hby d9_0) rfl rfl ?_
      show own_S p e below s₁ (mkF m 1 #[.val (.ref a0), .val (.ref a1), .val (.int 0), .val (.int 2), .val .null, .unset] [(.ref a0)]) _
      refine st270 _ ?_
      show own_S p e below T270 (mkF m 4 #[.val (.ref a0), .val (.ref a1), .val (.int 0), .val (.int 2), .val .null, .unset] []) _
      refine XS.iloadN X270.here hx rfl (hb hby d9_4) rfl ?_
      refine XS.ifYes X270.here hx rfl (pc0 := 5) (pc' := 27) rfl (hb hby d9_5) rfl ((if0 _ _).trans (feq (by decide : ¬ ((2 : Int32) = (0 : Int32)))).2) (by decide) (by decide) ?_
      show own_S p e below T270 (mkF m 27 #[.val (.ref a0), .val (.ref a1), .val (.int 0), .val (.int 2), .val .null, .unset] []) _
      refine st271 _ ?_
      show own_S p e below T271 (mkF m 30 #[.val (.ref a0), .val (.ref a1), .val (.int 0), .val (.int 2), .val .null, .unset] [(.int cs)]) _
      refine XS.ifNo X271.here hx rfl (hb hby d9_30) rfl ((if0 _ _).trans (feq (show ¬ (cs = (0 : Int32)) from hcs)).1) ?_
      show own_S p e below T271 (mkF m 33 #[.val (.ref a0), .val (.ref a1), .val (.int 0), .val (.int 2), .val .null, .unset] []) _
      refine XS.aloadN X271.here hx rfl (hb hby d9_33) rfl rfl ?_
      refine XS.iloadN X271.here hx rfl (hb hby d9_34) rfl ?_
      refine XS.iloadN X271.here hx rfl (hb hby d9_35) rfl ?_
      show own_S p e below T271 (mkF m 36 #[.val (.ref a0), .val (.ref a1), .val (.int 0), .val (.int 2), .val .null, .unset] [.int 2, .int 0, (.ref a1)]) _
      refine st272 _ ?_
      show own_S p e below T272 (mkF m 39 #[.val (.ref a0), .val (.ref a1), .val (.int 0), .val (.int 2), .val .null, .unset] [(.ref r272)]) _
      refine XS.astore X272.here hx rfl (hb hby d9_39) rfl rfl (l' := #[.val (.ref a0), .val (.ref a1), .val (.int 0), .val (.int 2), .val .null, .val (.ref r272)]) rfl ?_
      show own_S p e below T272 (mkF m 41 #[.val (.ref a0), .val (.ref a1), .val (.int 0), .val (.int 2), .val .null, .val (.ref r272)] []) _
      refine XS.aloadN X272.here hx rfl (hb hby d9_41) rfl rfl ?_
      refine XS.aload X272.here hx rfl (hb hby d9_42) rfl rfl ?_
      refine XS.iloadN X272.here hx rfl (hb hby d9_44) rfl ?_
      show own_S p e below T272 (mkF m 45 #[.val (.ref a0), .val (.ref a1), .val (.int 0), .val (.int 2), .val .null, .val (.ref r272)] [.int 2, (.ref r272), (.ref a0)]) _
      refine st308 _ ?_
      show own_S p e below T308 (mkF m 48 #[.val (.ref a0), .val (.ref a1), .val (.int 0), .val (.int 2), .val .null, .val (.ref r272)] [.int 1, (.ref a0)]) _
      refine st309 _ ?_
      show own_S p e below T309 (mkF m 51 #[.val (.ref a0), .val (.ref a1), .val (.int 0), .val (.int 2), .val .null, .val (.ref r272)] []) _
      refine XS.aloadN X309.here hx rfl (hb hby d9_51) rfl rfl ?_
      refine XS.aload X309.here hx rfl (hb hby d9_52) rfl rfl ?_
      show own_S p e below T309 (mkF m 54 #[.val (.ref a0), .val (.ref a1), .val (.int 0), .val (.int 2), .val .null, .val (.ref r272)] [(.ref r272), (.ref a0)]) _
      refine st317 _ ?_
      show own_S p e below T317 (mkF m 57 #[.val (.ref a0), .val (.ref a1), .val (.int 0), .val (.int 2), .val .null, .val (.ref r272)] []) _
      exact X317.returnOut hx Bd.returns (hb hby d9_57) hr
    · show Q9_s2 Z a0 a1 kc c0 c1 cs h0 n0 _ T317.heap _
      rw [e317]
      exact ⟨rfl, N317, kp324, ⟨x318, (by decide : 2 ≤ 4), r272, kr272, (4 : Int32), (1 : Int32), _, Fw317, x322, x321, Or.inr ⟨rfl, rfl, own_u16_of2 hr_c0 hr_c1⟩⟩⟩
def Q8_s2 (Z : State) (a0 : Addr) (a1 : Addr) (kc : ClassId) (c0 : Int32) (c1 : Int32) (cs : Int32) (h0 : Heap) (n0 : Nat) (v : Option Value) (h : Heap) (L : List Loc) : Prop := v = none ∧ Fr n0 L ∧ Keep h0 h [a0] ∧ own_str Z h a0 [c0, c1]
set_option maxRecDepth 65536 in
set_option maxHeartbeats 40000000 in
theorem rm8_s2 (l : Launch) (Z : State) (ag : Array Value) (hw : ∀ d ∈ tables_1, d.before ag Z = true) (ws : List Jvm.Cond) (a0 : Addr) (a1 : Addr) (kc : ClassId) (c0 : Int32) (c1 : Int32) (cs : Int32) (h0 : Heap) (n0 : Nat) (Z0 : n0 ≤ h0.size) (E_a0 : Exa Z h0 a0 "java/lang/String") (F_value_a0 : Fld Z h0 a0 "java/lang/String" "value" "[B" .null) (F_coder_a0 : Fld Z h0 a0 "java/lang/String" "coder" "B" (.int (0 : Int32))) (ge_a0 : n0 ≤ a0) (ne_a0_a1 : a0 ≠ a1) (O_ : Old Z n0 h0) (S_cs : Sta Z Z.heap "java/lang/String" "COMPACT_STRINGS" "Z" (.int cs)) (hcs : ¬ cs = (0 : Int32)) (S_ad : Sta Z Z.heap "java/lang/StringUTF16" "$assertionsDisabled" "Z" (.int (1 : Int32))) (S_hi : Sta Z Z.heap "java/lang/StringUTF16" "HI_BYTE_SHIFT" "I" (.int (0 : Int32))) (S_lo : Sta Z Z.heap "java/lang/StringUTF16" "LO_BYTE_SHIFT" "I" (.int (8 : Int32))) (V_a1 : Arv Z h0 a1 kc .char (2 : Int32) [(.int c0), (.int c1)] (.int (0 : Int32))) (hr_c0 : 0 ≤ c0.toInt ∧ c0.toInt < 65536) (hr_c1 : 0 ≤ c1.toInt ∧ c1.toInt < 65536) :
    MetFree l (⟨"java/lang/String", "<init>", "([C)V"⟩ : MethodName) (head1 (Jvm.Cond.code (⟨"java/lang/String", "<init>", "([C)V"⟩ : MethodName) jdk_42_method_3_code 2 none :: ws) ({ frames := 5, cells := 4, slots := 40, locals := 110 } : Room)) (fun a U => a = #[(.ref a0), (.ref a1)] ∧ Z.Warmed39 U.vm ∧ U.heap = h0 ∧ CHv Z own_EL U.vm h0) (fun _ _ _ _ _ => True) (fun _ U o U' => ∃ v L, o = .returned v ∧ Q8_s2 Z a0 a1 kc c0 c1 cs h0 n0 v U'.heap L ∧ CHr Z own_EL U.vm U.heap U'.vm U'.heap ∧ ReturnedEndW U o U' L ({ frames := 5, cells := 4, slots := 40, locals := 110 } : Room).cells ({ frames := 5, cells := 4, slots := 40, locals := 110 } : Room).slots) := by
  refine MetFree.of_bodySF (plainFor_of_name pn_4) hisR ?_
  intro p e s m args below meth c s₁ Bd hml0 hP hK
  obtain ⟨rfl, hZ, hh, hI⟩ := hP
  have hx := Bd.exec
  have hby := Bd.bytes
  have hml : c.maxLocals = 2 := hml0
  have hown : s.vm.findClass "java/lang/String" = some m.cls := findClass_of_methodNamed Bd.named
  have hnm := (name_of_methodNamed Bd.named Bd.method).1
  have X0 : Stand p l e ({ frames := 5, cells := 4, slots := 40, locals := 110 } : Room) s m #[(.ref a0), (.ref a1)] below meth c s₁ [] 0 0 := Stand.of_body Bd
  have e0 : s₁.heap = h0 := by rw [← hh, Bd.state]; rfl
  have N0 := Fr.nil n0
  have pre0 : ∀ t, Steps p.tables e below (s₁.setTop (mkF m 0 #[.val (.ref a0), .val (.ref a1)] [])) t → Steps p.tables e below (s₁.setTop (entryFrame m #[(.ref a0), (.ref a1)] 2)) t := fun t k => castTop (ef_8 m a0 a1) k
  have X0 : Stand p l e ({ frames := 5, cells := 4, slots := 40, locals := 110 } : Room) (s.setVm s.vm) m #[(.ref a0), (.ref a1)] below meth c s₁ [] 0 0 := X0
  have hS : s.Since s.vm 0 := (State.WarmedH.refl s).since 0
  have hkS : 0 ≤ h0.size := Nat.zero_le _
  have hC : CHr Z own_EL s.vm h0 s.vm h0 := CHr.refl hI
  have hEL : EW Z ag own_EL := own_ew hw
  have hwS : ∀ d ∈ Bundle.stringAtoms, d.before ag Z = true := fun d hd => hw d ((by decide +kernel : ∀ d ∈ Bundle.stringAtoms, d ∈ tables_1) d hd)
  have sf_a0 := own_safe_str hC hZ.alike E_a0 F_value_a0 (own_wk hw 6 rfl)
  obtain ⟨cl325, Ar325, -, S325, M325, -, -⟩ := id V_a1
  have ld325 := X0.arraylength hx (by rw [e0]; exact Ar325.1) (State.isArrayOf_alike hZ.alike Ar325.2.1) (g := (mkF m 4 #[.val (.ref a0), .val (.ref a1)] [(.ref a1), .int 0, (.ref a1), (.ref a0)])) rfl rfl (hb hby d8_4)
  obtain ⟨_, _, ⟨T326, L326, k326, n326⟩, -, X326, ⟨Lc326, hQ326, l326, y326, z326⟩, st326⟩ := X0.specialBack hx (y := (⟨"java/lang/String", "<init>", "([CIILjava/lang/Void;)V"⟩ : MethodName)) rfl hown (mvT hZ (own_wk hw 45 rfl)) (mvT hZ (own_wk hw 46 rfl)) (mvT hZ (own_wk hw 48 rfl)) (by decide) (backOf (W := 0) (rm9_s2 l Z ag hw [] a0 a1 kc c0 c1 cs h0 n0 Z0 E_a0 F_value_a0 F_coder_a0 ge_a0 ne_a0_a1 O_ S_cs hcs S_ad S_hi S_lo V_a1 hr_c0 hr_c1) hZ (own_wk hw 48 rfl) (own_wk hw 5 rfl) (by decide) (by decide)) (g := (mkF m 6 #[.val (.ref a0), .val (.ref a1)] [.null, .int 2, .int 0, (.ref a1), (.ref a0)])) rfl (by rw [hml]; rfl) (Steps.refl _) (a := a0) (argsL := [(.ref a1), (.int (0 : Int32)), (.int (2 : Int32)), .null]) (rest := []) (lenOf pd_24 rfl) rfl (by show 2 * 0 + _ ≤ _; exact Nat.le_of_eq rfl) (hb hby d8_6) (fun _ _ => ⟨rfl, e0, (by decide : 0 + 2 ≤ _), (by decide : 0 + 10 ≤ _)⟩)
  dsimp only [Pt.U, Pt.locs, Pt.cells, Pt.slots] at X326 l326 y326 z326 st326 hQ326
  subst l326 y326 z326
  obtain ⟨rfl, N326q, K326, Ss326⟩ := hQ326
  have N326 := Fr.app N0 N326q
  have x327 := E_a0.keep K326
  have x328 := O_.keep K326 (allS ge_a0 all0)
  have x329 := V_a1.keep K326 (ninS (Ne.symm ne_a0_a1) nin0)
  have x330 := Safe.keep K326 (sfS sf_a0 sf0) hC.1 sf_a0
  have sz331 : n0 ≤ T326.heap.size := Nat.le_trans Z0 K326.1
  have hkS := Nat.le_trans hkS K326.1
  have hC := hC.trans (CHr.keep K326 (sfS sf_a0 sf0) hC.1)
  have kp332 : Keep h0 T326.heap [a0] := (Keep.refl h0 [a0]).trans K326 (allS (Or.inl (List.mem_of_getElem? (i := 0) rfl)) all0)
  obtain ⟨fs, hr, hrun, hended, hEnd⟩ := X326.leaveW hS hkS (v := none) (fun _ => rfl)
  refine ⟨_, _, pre0 _ ?_, hrun, hended, _, _, rfl, ?_, ?_, hEnd.1, hEnd.2.1, hEnd.2.2.1, hEnd.2.2.2.mono (by decide) (by decide)⟩
  · show own_S p e below s₁ (mkF m 0 #[.val (.ref a0), .val (.ref a1)] []) _
    refine XS.aloadN X0.here hx rfl (hb hby d8_0) rfl rfl ?_
    refine XS.aloadN X0.here hx rfl (hb hby d8_1) rfl rfl ?_
    refine XS.iconst X0.here hx rfl (hb hby d8_2) ?_
    refine XS.aloadN X0.here hx rfl (hb hby d8_3) rfl rfl ?_
    show own_S p e below s₁ (mkF m 4 #[.val (.ref a0), .val (.ref a1)] [(.ref a1), .int 0, (.ref a1), (.ref a0)]) _
    refine ld325 _ ?_
    rw [len_of S325 M325]
    show own_S p e below s₁ (mkF m 5 #[.val (.ref a0), .val (.ref a1)] [.int 2, .int 0, (.ref a1), (.ref a0)]) _
    refine XS.aconstNull X0.here hx rfl (hb hby d8_5) ?_
    show own_S p e below s₁ (mkF m 6 #[.val (.ref a0), .val (.ref a1)] [.null, .int 2, .int 0, (.ref a1), (.ref a0)]) _
    refine st326.trans ?_
    show own_S p e below T326 (mkF m 9 #[.val (.ref a0), .val (.ref a1)] []) _
    exact X326.returnOut hx Bd.returns (hb hby d8_9) hr
  · show Q8_s2 Z a0 a1 kc c0 c1 cs h0 n0 _ T326.heap _
    exact ⟨rfl, N326, kp332, Ss326⟩
  · show CHr Z own_EL s.vm s.heap T326.vm T326.heap
    rw [hh]
    exact hC.trans (CHv.at X326 hZ hEL hC.1)
theorem ef_27_v03 (m : MethodId) (a0 : Addr) : entryFrame m #[(.ref a0), (.int (0 : Int32)), (.int (3 : Int32))] 5 = mkF m 0 #[.val (.ref a0), .val (.int 0), .val (.int 3), .unset, .unset] [] := by first | (simp [entryFrame, mkF, argsToLocals, Value.category]; done) | rfl
def Q27_s3 (Z : State) (a0 : Addr) (kc : ClassId) (c0 : Int32) (c1 : Int32) (c2 : Int32) (h0 : Heap) (n0 : Nat) (v : Option Value) (h : Heap) (L : List Loc) : Prop := ∃ (r : Addr) (kb : ClassId), v = some (.ref r) ∧ Fr n0 L ∧ Keep h0 h [] ∧ n0 ≤ r ∧ h0.size ≤ r ∧ Arv Z h r kb .byte (6 : Int32) [(.int (nar .byte ((c0 >>> ((0 : Int32) &&& 31)).toInt8.toInt32))), (.int (nar .byte ((c0 >>> ((8 : Int32) &&& 31)).toInt8.toInt32))), (.int (nar .byte ((c1 >>> ((0 : Int32) &&& 31)).toInt8.toInt32))), (.int (nar .byte ((c1 >>> ((8 : Int32) &&& 31)).toInt8.toInt32))), (.int (nar .byte ((c2 >>> ((0 : Int32) &&& 31)).toInt8.toInt32))), (.int (nar .byte ((c2 >>> ((8 : Int32) &&& 31)).toInt8.toInt32)))] (.int (0 : Int32))
set_option maxRecDepth 65536 in
set_option maxHeartbeats 40000000 in
theorem rm27_s3 (l : Launch) (Z : State) (ag : Array Value) (hw : ∀ d ∈ tables_1, d.before ag Z = true) (ws : List Jvm.Cond) (a0 : Addr) (kc : ClassId) (c0 : Int32) (c1 : Int32) (c2 : Int32) (h0 : Heap) (n0 : Nat) (Z0 : n0 ≤ h0.size) (V_a0 : Arv Z h0 a0 kc .char (3 : Int32) [(.int c0), (.int c1), (.int c2)] (.int (0 : Int32))) (hr_c0 : 0 ≤ c0.toInt ∧ c0.toInt < 65536) (hr_c1 : 0 ≤ c1.toInt ∧ c1.toInt < 65536) (hr_c2 : 0 ≤ c2.toInt ∧ c2.toInt < 65536) (O_ : Old Z n0 h0) (S_ad : Sta Z Z.heap "java/lang/StringUTF16" "$assertionsDisabled" "Z" (.int (1 : Int32))) (S_hi : Sta Z Z.heap "java/lang/StringUTF16" "HI_BYTE_SHIFT" "I" (.int (0 : Int32))) (S_lo : Sta Z Z.heap "java/lang/StringUTF16" "LO_BYTE_SHIFT" "I" (.int (8 : Int32))) :
    MetFree l (⟨"java/lang/StringUTF16", "toBytes", "([CII)[B"⟩ : MethodName) (head1 (Jvm.Cond.code (⟨"java/lang/StringUTF16", "toBytes", "([CII)[B"⟩ : MethodName) jdk_52_method_14_code 5 (some (.array .byte)) :: ws) ({ frames := 2, cells := 1, slots := 8, locals := 24 } : Room)) (fun a U => a = #[(.ref a0), (.int (0 : Int32)), (.int (3 : Int32))] ∧ Z.Warmed39 U.vm ∧ U.heap = h0) (fun _ _ _ _ _ => True) (fun _ U o U' => ∃ v L, o = .returned v ∧ Q27_s3 Z a0 kc c0 c1 c2 h0 n0 v U'.heap L ∧ FrameEnd U o U' L ({ frames := 2, cells := 1, slots := 8, locals := 24 } : Room).cells ({ frames := 2, cells := 1, slots := 8, locals := 24 } : Room).slots) := by
  refine MetFree.of_bodySF (plainFor_of_name pn_6) hisR ?_
  intro p e s m args below meth c s₁ Bd hml0 hP hK
  obtain ⟨rfl, hZ, hh⟩ := hP
  have hx := Bd.exec
  have hby := Bd.bytes
  have hml : c.maxLocals = 5 := hml0
  have hown : s.vm.findClass "java/lang/StringUTF16" = some m.cls := findClass_of_methodNamed Bd.named
  have hnm := (name_of_methodNamed Bd.named Bd.method).1
  have X0 : Stand p l e ({ frames := 2, cells := 1, slots := 8, locals := 24 } : Room) s m #[(.ref a0), (.int (0 : Int32)), (.int (3 : Int32))] below meth c s₁ [] 0 0 := Stand.of_body Bd
  have e0 : s₁.heap = h0 := by rw [← hh, Bd.state]; rfl
  have N0 := Fr.nil n0
  have pre0 : ∀ t, Steps p.tables e below (s₁.setTop (mkF m 0 #[.val (.ref a0), .val (.int 0), .val (.int 3), .unset, .unset] [])) t → Steps p.tables e below (s₁.setTop (entryFrame m #[(.ref a0), (.int (0 : Int32)), (.int (3 : Int32))] 5)) t := fun t k => castTop (ef_27_v03 m a0) k
  obtain ⟨_, _, ⟨T333, L333, k333, n333⟩, -, X333, ⟨Lc333, hQ333, l333, y333, z333⟩, st333⟩ := Jvm.LawKit.callS X0 hx (y := (⟨"java/lang/StringUTF16", "newBytesFor", "(I)[B"⟩ : MethodName)) hown (mvT hZ (own_wk hw 120 rfl)) (mvT hZ (own_wk hw 121 rfl)) (mvT hZ (own_wk hw 77 rfl)) (mvT hZ (own_wk hw 122 rfl)) (by decide) (backOf (W := 0) (rm28 l Z ag hw [] (3 : Int32) (6 : Int32) h0 n0 Z0 (by decide) (by decide) (by decide) (by decide) (by decide)) hZ (own_wk hw 122 rfl) (own_wk hw 77 rfl) (by decide) (by decide)) (g := (mkF m 1 #[.val (.ref a0), .val (.int 0), .val (.int 3), .unset, .unset] [.int 3])) rfl (by rw [hml]; rfl) (argsL := [(.int (3 : Int32))]) (rest := []) (lenOf pd_8 rfl) rfl (by show 2 * 0 + _ ≤ _; exact Nat.le_of_eq rfl) (hb hby d27_1) (fun _ _ => ⟨rfl, e0, (by decide : 0 + 1 ≤ _), (by decide : 0 + 8 ≤ _)⟩)
  dsimp only [Pt.U, Pt.locs, Pt.cells, Pt.slots] at X333 l333 y333 z333 st333 hQ333
  subst l333 y333 z333
  obtain ⟨r333, kr333, rfl, N333q, K333, ge_r333, gq_r333, Vr333⟩ := hQ333
  have N333 := Fr.app N0 N333q
  have Vr333 : Arv Z T333.heap r333 kr333 .byte (6 : Int32) [(.int (0 : Int32)), (.int (0 : Int32)), (.int (0 : Int32)), (.int (0 : Int32)), (.int (0 : Int32)), (.int (0 : Int32))] (.int (0 : Int32)) := Vr333.pad (pad_rep [] (.int (0 : Int32)) 6)
  have ne334 : a0 ≠ r333 := Nat.ne_of_lt (Nat.lt_of_lt_of_le V_a0.lt gq_r333)
  have gs_r333 : h0.size ≤ r333 := Nat.le_trans (Keep.refl h0 []).1 gq_r333
  have x335 := V_a0.keep K333 nin0
  have x336 := O_.keep K333 all0
  have sz337 : n0 ≤ T333.heap.size := Nat.le_trans Z0 K333.1
  have kp338 : Keep h0 T333.heap [] := (Keep.refl h0 []).trans K333 all0
  obtain ⟨cl339, Ar339, q339, S339, M339, H339, G339⟩ := id x335
  have hin339 : ¬ ((0 : Int32) < 0 ∨ cl339.slots.size ≤ ((0 : Int32)).toNatClampNeg) := inb_of S339 ⟨(by decide : ¬ (0 : Int32) < 0), (by decide : (0 : Int32) < (3 : Int32))⟩
  have hat339 : cl339.slots[((0 : Int32)).toNatClampNeg]? = some (.int c0) := Has.at H339 hin339 rfl
  have ld339 := X333.caload hx (j := (0 : Int32)) (v := (.int c0)) Ar339.1 (State.isArrayOf_alike hZ.alike Ar339.2.1) Ar339.2.2 hin339 hat339 (g := (mkF m 19 #[.val (.ref a0), .val (.int 0), .val (.int 3), .val (.ref r333), .val (.int 0)] [.int 0, (.ref a0), .int 0, (.ref r333)])) rfl rfl (hb hby d27_19)
  obtain ⟨_, _, ⟨T340, L340, k340, n340⟩, -, X340, ⟨Lc340, hQ340, l340, y340, z340⟩, st340⟩ := Jvm.LawKit.callS X333 hx (y := (⟨"java/lang/StringUTF16", "putChar", "([BII)V"⟩ : MethodName)) hown (mvT hZ (own_wk hw 127 rfl)) (mvT hZ (own_wk hw 128 rfl)) (mvT hZ (own_wk hw 77 rfl)) (mvT hZ (own_wk hw 129 rfl)) (by decide) (backOf (W := 0) (rm30 l Z ag hw [] r333 (0 : Int32) c0 kr333 (6 : Int32) [(.int (0 : Int32)), (.int (0 : Int32)), (.int (0 : Int32)), (.int (0 : Int32)), (.int (0 : Int32)), (.int (0 : Int32))] T333.heap n0 sz337 Vr333 ge_r333 (by decide) (by decide) (Nat.le_of_ble_eq_true rfl) (Nat.le_of_ble_eq_true rfl) x336 S_ad S_hi S_lo) hZ (own_wk hw 129 rfl) (own_wk hw 77 rfl) (by decide) (by decide)) (g := (mkF m 20 #[.val (.ref a0), .val (.int 0), .val (.int 3), .val (.ref r333), .val (.int 0)] [(.int c0), .int 0, (.ref r333)])) rfl (by rw [hml]; rfl) (argsL := [(.ref r333), (.int (0 : Int32)), (.int c0)]) (rest := []) (lenOf pd_20 rfl) rfl (by show 2 * 0 + _ ≤ _; exact Nat.le_of_eq rfl) (hb hby d27_20) (fun _ _ => ⟨rfl, rfl, (by decide : 1 + 0 ≤ _), (by decide : 8 + 0 ≤ _)⟩)
  dsimp only [Pt.U, Pt.locs, Pt.cells, Pt.slots] at X340 l340 y340 z340 st340 hQ340
  subst l340 y340 z340
  obtain ⟨rfl, N340q, K340, Vb340⟩ := hQ340
  have N340 := Fr.app N333 N340q
  have Vb340 : Arv Z T340.heap r333 kr333 .byte (6 : Int32) [(.int (nar .byte ((c0 >>> ((0 : Int32) &&& 31)).toInt8.toInt32))), (.int (nar .byte ((c0 >>> ((8 : Int32) &&& 31)).toInt8.toInt32))), (.int (0 : Int32)), (.int (0 : Int32)), (.int (0 : Int32)), (.int (0 : Int32))] (.int (0 : Int32)) := Vb340
  have x341 := x335.keep K340 (ninS ne334 nin0)
  have x342 := x336.keep K340 (allS ge_r333 all0)
  have sz343 : n0 ≤ T340.heap.size := Nat.le_trans sz337 K340.1
  have kp344 : Keep h0 T340.heap [] := kp338.trans K340 (allS (Or.inr gs_r333) all0)
  obtain ⟨cl345, Ar345, q345, S345, M345, H345, G345⟩ := id x341
  have hin345 : ¬ ((1 : Int32) < 0 ∨ cl345.slots.size ≤ ((1 : Int32)).toNatClampNeg) := inb_of S345 ⟨(by decide : ¬ (1 : Int32) < 0), (by decide : (1 : Int32) < (3 : Int32))⟩
  have hat345 : cl345.slots[((1 : Int32)).toNatClampNeg]? = some (.int c1) := Has.at H345 hin345 rfl
  have ld345 := X340.caload hx (j := (1 : Int32)) (v := (.int c1)) Ar345.1 (State.isArrayOf_alike hZ.alike Ar345.2.1) Ar345.2.2 hin345 hat345 (g := (mkF m 19 #[.val (.ref a0), .val (.int 1), .val (.int 3), .val (.ref r333), .val (.int 1)] [.int 1, (.ref a0), .int 1, (.ref r333)])) rfl rfl (hb hby d27_19)
  have cp346 : ∀ target, own_S p e below T340 (mkF m 20 #[.val (.ref a0), .val (.int 1), .val (.int 3), .val (.ref r333), .val (.int 1)] [(.int c1), .int 1, (.ref r333)]) target → own_S p e below s₁ (mkF m 0 #[.val (.ref a0), .val (.int 0), .val (.int 3), .unset, .unset] []) target := by
    intro target kt
    show own_S p e below s₁ (mkF m 0 #[.val (.ref a0), .val (.int 0), .val (.int 3), .unset, .unset] []) _
    refine XS.iloadN X0.here hx rfl (hb hby d27_0) rfl ?_
    show own_S p e below s₁ (mkF m 1 #[.val (.ref a0), .val (.int 0), .val (.int 3), .unset, .unset] [.int 3]) _
    refine st333 _ ?_
    show own_S p e below T333 (mkF m 4 #[.val (.ref a0), .val (.int 0), .val (.int 3), .unset, .unset] [(.ref r333)]) _
    refine XS.astoreN X333.here hx rfl (hb hby d27_4) rfl rfl (l' := #[.val (.ref a0), .val (.int 0), .val (.int 3), .val (.ref r333), .unset]) rfl ?_
    show own_S p e below T333 (mkF m 5 #[.val (.ref a0), .val (.int 0), .val (.int 3), .val (.ref r333), .unset] []) _
    refine XS.iconst X333.here hx rfl (hb hby d27_5) ?_
    refine XS.istore X333.here hx rfl (hb hby d27_6) rfl (l' := #[.val (.ref a0), .val (.int 0), .val (.int 3), .val (.ref r333), .val (.int 0)]) rfl ?_
    show own_S p e below T333 (mkF m 8 #[.val (.ref a0), .val (.int 0), .val (.int 3), .val (.ref r333), .val (.int 0)] []) _
    refine XS.iload X333.here hx rfl (hb hby d27_8) rfl ?_
    refine XS.iloadN X333.here hx rfl (hb hby d27_10) rfl ?_
    refine XS.icmpNo X333.here hx rfl (hb hby d27_11) rfl (tlt (by decide : (0 : Int32) < (3 : Int32))).2.1 ?_
    show own_S p e below T333 (mkF m 14 #[.val (.ref a0), .val (.int 0), .val (.int 3), .val (.ref r333), .val (.int 0)] []) _
    refine XS.aloadN X333.here hx rfl (hb hby d27_14) rfl rfl ?_
    refine XS.iload X333.here hx rfl (hb hby d27_15) rfl ?_
    refine XS.aloadN X333.here hx rfl (hb hby d27_17) rfl rfl ?_
    refine XS.iloadN X333.here hx rfl (hb hby d27_18) rfl ?_
    show own_S p e below T333 (mkF m 19 #[.val (.ref a0), .val (.int 0), .val (.int 3), .val (.ref r333), .val (.int 0)] [.int 0, (.ref a0), .int 0, (.ref r333)]) _
    refine ld339 _ ?_
    show own_S p e below T333 (mkF m 20 #[.val (.ref a0), .val (.int 0), .val (.int 3), .val (.ref r333), .val (.int 0)] [(.int c0), .int 0, (.ref r333)]) _
    refine st340 _ ?_
    show own_S p e below T340 (mkF m 23 #[.val (.ref a0), .val (.int 0), .val (.int 3), .val (.ref r333), .val (.int 0)] []) _
    refine XS.iinc X340.here hx rfl (hb hby d27_23) rfl (l' := #[.val (.ref a0), .val (.int 1), .val (.int 3), .val (.ref r333), .val (.int 0)]) rfl ?_
    show own_S p e below T340 (mkF m 26 #[.val (.ref a0), .val (.int 1), .val (.int 3), .val (.ref r333), .val (.int 0)] []) _
    refine XS.iinc X340.here hx rfl (hb hby d27_26) rfl (l' := #[.val (.ref a0), .val (.int 1), .val (.int 3), .val (.ref r333), .val (.int 1)]) rfl ?_
    show own_S p e below T340 (mkF m 29 #[.val (.ref a0), .val (.int 1), .val (.int 3), .val (.ref r333), .val (.int 1)] []) _
    refine XS.goto X340.here hx rfl (pc0 := 29) (pc' := 8) rfl (hb hby d27_29) (by decide) (by decide) ?_
    show own_S p e below T340 (mkF m 8 #[.val (.ref a0), .val (.int 1), .val (.int 3), .val (.ref r333), .val (.int 1)] []) _
    refine XS.iload X340.here hx rfl (hb hby d27_8) rfl ?_
    refine XS.iloadN X340.here hx rfl (hb hby d27_10) rfl ?_
    refine XS.icmpNo X340.here hx rfl (hb hby d27_11) rfl (tlt (by decide : (1 : Int32) < (3 : Int32))).2.1 ?_
    show own_S p e below T340 (mkF m 14 #[.val (.ref a0), .val (.int 1), .val (.int 3), .val (.ref r333), .val (.int 1)] []) _
    refine XS.aloadN X340.here hx rfl (hb hby d27_14) rfl rfl ?_
    refine XS.iload X340.here hx rfl (hb hby d27_15) rfl ?_
    refine XS.aloadN X340.here hx rfl (hb hby d27_17) rfl rfl ?_
    refine XS.iloadN X340.here hx rfl (hb hby d27_18) rfl ?_
    show own_S p e below T340 (mkF m 19 #[.val (.ref a0), .val (.int 1), .val (.int 3), .val (.ref r333), .val (.int 1)] [.int 1, (.ref a0), .int 1, (.ref r333)]) _
    refine ld345 _ ?_
    exact kt
  obtain ⟨_, _, ⟨T347, L347, k347, n347⟩, -, X347, ⟨Lc347, hQ347, l347, y347, z347⟩, st347⟩ := Jvm.LawKit.callS X340 hx (y := (⟨"java/lang/StringUTF16", "putChar", "([BII)V"⟩ : MethodName)) hown (mvT hZ (own_wk hw 127 rfl)) (mvT hZ (own_wk hw 128 rfl)) (mvT hZ (own_wk hw 77 rfl)) (mvT hZ (own_wk hw 129 rfl)) (by decide) (backOf (W := 0) (rm30 l Z ag hw [] r333 (1 : Int32) c1 kr333 (6 : Int32) [(.int (nar .byte ((c0 >>> ((0 : Int32) &&& 31)).toInt8.toInt32))), (.int (nar .byte ((c0 >>> ((8 : Int32) &&& 31)).toInt8.toInt32))), (.int (0 : Int32)), (.int (0 : Int32)), (.int (0 : Int32)), (.int (0 : Int32))] T340.heap n0 sz343 Vb340 ge_r333 (by decide) (by decide) (Nat.le_of_ble_eq_true rfl) (Nat.le_of_ble_eq_true rfl) x342 S_ad S_hi S_lo) hZ (own_wk hw 129 rfl) (own_wk hw 77 rfl) (by decide) (by decide)) (g := (mkF m 20 #[.val (.ref a0), .val (.int 1), .val (.int 3), .val (.ref r333), .val (.int 1)] [(.int c1), .int 1, (.ref r333)])) rfl (by rw [hml]; rfl) (argsL := [(.ref r333), (.int (1 : Int32)), (.int c1)]) (rest := []) (lenOf pd_20 rfl) rfl (by show 2 * 0 + _ ≤ _; exact Nat.le_of_eq rfl) (hb hby d27_20) (fun _ _ => ⟨rfl, rfl, (by decide : 1 + 0 ≤ _), (by decide : 8 + 0 ≤ _)⟩)
  dsimp only [Pt.U, Pt.locs, Pt.cells, Pt.slots] at X347 l347 y347 z347 st347 hQ347
  subst l347 y347 z347
  obtain ⟨rfl, N347q, K347, Vb347⟩ := hQ347
  have N347 := Fr.app N340 N347q
  have Vb347 : Arv Z T347.heap r333 kr333 .byte (6 : Int32) [(.int (nar .byte ((c0 >>> ((0 : Int32) &&& 31)).toInt8.toInt32))), (.int (nar .byte ((c0 >>> ((8 : Int32) &&& 31)).toInt8.toInt32))), (.int (nar .byte ((c1 >>> ((0 : Int32) &&& 31)).toInt8.toInt32))), (.int (nar .byte ((c1 >>> ((8 : Int32) &&& 31)).toInt8.toInt32))), (.int (0 : Int32)), (.int (0 : Int32))] (.int (0 : Int32)) := Vb347
  have x348 := x341.keep K347 (ninS ne334 nin0)
  have x349 := x342.keep K347 (allS ge_r333 all0)
  have sz350 : n0 ≤ T347.heap.size := Nat.le_trans sz343 K347.1
  have kp351 : Keep h0 T347.heap [] := kp344.trans K347 (allS (Or.inr gs_r333) all0)
  obtain ⟨cl352, Ar352, q352, S352, M352, H352, G352⟩ := id x348
  have hin352 : ¬ ((2 : Int32) < 0 ∨ cl352.slots.size ≤ ((2 : Int32)).toNatClampNeg) := inb_of S352 ⟨(by decide : ¬ (2 : Int32) < 0), (by decide : (2 : Int32) < (3 : Int32))⟩
  have hat352 : cl352.slots[((2 : Int32)).toNatClampNeg]? = some (.int c2) := Has.at H352 hin352 rfl
  have ld352 := X347.caload hx (j := (2 : Int32)) (v := (.int c2)) Ar352.1 (State.isArrayOf_alike hZ.alike Ar352.2.1) Ar352.2.2 hin352 hat352 (g := (mkF m 19 #[.val (.ref a0), .val (.int 2), .val (.int 3), .val (.ref r333), .val (.int 2)] [.int 2, (.ref a0), .int 2, (.ref r333)])) rfl rfl (hb hby d27_19)
  obtain ⟨_, _, ⟨T353, L353, k353, n353⟩, -, X353, ⟨Lc353, hQ353, l353, y353, z353⟩, st353⟩ := Jvm.LawKit.callS X347 hx (y := (⟨"java/lang/StringUTF16", "putChar", "([BII)V"⟩ : MethodName)) hown (mvT hZ (own_wk hw 127 rfl)) (mvT hZ (own_wk hw 128 rfl)) (mvT hZ (own_wk hw 77 rfl)) (mvT hZ (own_wk hw 129 rfl)) (by decide) (backOf (W := 0) (rm30 l Z ag hw [] r333 (2 : Int32) c2 kr333 (6 : Int32) [(.int (nar .byte ((c0 >>> ((0 : Int32) &&& 31)).toInt8.toInt32))), (.int (nar .byte ((c0 >>> ((8 : Int32) &&& 31)).toInt8.toInt32))), (.int (nar .byte ((c1 >>> ((0 : Int32) &&& 31)).toInt8.toInt32))), (.int (nar .byte ((c1 >>> ((8 : Int32) &&& 31)).toInt8.toInt32))), (.int (0 : Int32)), (.int (0 : Int32))] T347.heap n0 sz350 Vb347 ge_r333 (by decide) (by decide) (Nat.le_of_ble_eq_true rfl) (Nat.le_of_ble_eq_true rfl) x349 S_ad S_hi S_lo) hZ (own_wk hw 129 rfl) (own_wk hw 77 rfl) (by decide) (by decide)) (g := (mkF m 20 #[.val (.ref a0), .val (.int 2), .val (.int 3), .val (.ref r333), .val (.int 2)] [(.int c2), .int 2, (.ref r333)])) rfl (by rw [hml]; rfl) (argsL := [(.ref r333), (.int (2 : Int32)), (.int c2)]) (rest := []) (lenOf pd_20 rfl) rfl (by show 2 * 0 + _ ≤ _; exact Nat.le_of_eq rfl) (hb hby d27_20) (fun _ _ => ⟨rfl, rfl, (by decide : 1 + 0 ≤ _), (by decide : 8 + 0 ≤ _)⟩)
  dsimp only [Pt.U, Pt.locs, Pt.cells, Pt.slots] at X353 l353 y353 z353 st353 hQ353
  subst l353 y353 z353
  obtain ⟨rfl, N353q, K353, Vb353⟩ := hQ353
  have N353 := Fr.app N347 N353q
  have Vb353 : Arv Z T353.heap r333 kr333 .byte (6 : Int32) [(.int (nar .byte ((c0 >>> ((0 : Int32) &&& 31)).toInt8.toInt32))), (.int (nar .byte ((c0 >>> ((8 : Int32) &&& 31)).toInt8.toInt32))), (.int (nar .byte ((c1 >>> ((0 : Int32) &&& 31)).toInt8.toInt32))), (.int (nar .byte ((c1 >>> ((8 : Int32) &&& 31)).toInt8.toInt32))), (.int (nar .byte ((c2 >>> ((0 : Int32) &&& 31)).toInt8.toInt32))), (.int (nar .byte ((c2 >>> ((8 : Int32) &&& 31)).toInt8.toInt32)))] (.int (0 : Int32)) := Vb353
  have x354 := x348.keep K353 (ninS ne334 nin0)
  have x355 := x349.keep K353 (allS ge_r333 all0)
  have sz356 : n0 ≤ T353.heap.size := Nat.le_trans sz350 K353.1
  have kp357 : Keep h0 T353.heap [] := kp351.trans K353 (allS (Or.inr gs_r333) all0)
  obtain ⟨fs, hr, hrun, hended, hW, hsame⟩ := X353.leave (v := some (.ref r333)) (fun h => by rw [Bd.returns] at h; cases h)
  refine ⟨_, _, pre0 _ ?_, hrun, hended, _, _, rfl, ?_, ⟨_, rfl⟩, hW, hsame.mono (by decide) (by decide)⟩
  · show own_S p e below s₁ (mkF m 0 #[.val (.ref a0), .val (.int 0), .val (.int 3), .unset, .unset] []) _
    refine cp346 _ ?_
    show own_S p e below T340 (mkF m 20 #[.val (.ref a0), .val (.int 1), .val (.int 3), .val (.ref r333), .val (.int 1)] [(.int c1), .int 1, (.ref r333)]) _
    refine st347 _ ?_
    show own_S p e below T347 (mkF m 23 #[.val (.ref a0), .val (.int 1), .val (.int 3), .val (.ref r333), .val (.int 1)] []) _
    refine XS.iinc X347.here hx rfl (hb hby d27_23) rfl (l' := #[.val (.ref a0), .val (.int 2), .val (.int 3), .val (.ref r333), .val (.int 1)]) rfl ?_
    show own_S p e below T347 (mkF m 26 #[.val (.ref a0), .val (.int 2), .val (.int 3), .val (.ref r333), .val (.int 1)] []) _
    refine XS.iinc X347.here hx rfl (hb hby d27_26) rfl (l' := #[.val (.ref a0), .val (.int 2), .val (.int 3), .val (.ref r333), .val (.int 2)]) rfl ?_
    show own_S p e below T347 (mkF m 29 #[.val (.ref a0), .val (.int 2), .val (.int 3), .val (.ref r333), .val (.int 2)] []) _
    refine XS.goto X347.here hx rfl (pc0 := 29) (pc' := 8) rfl (hb hby d27_29) (by decide) (by decide) ?_
    show own_S p e below T347 (mkF m 8 #[.val (.ref a0), .val (.int 2), .val (.int 3), .val (.ref r333), .val (.int 2)] []) _
    refine XS.iload X347.here hx rfl (hb hby d27_8) rfl ?_
    refine XS.iloadN X347.here hx rfl (hb hby d27_10) rfl ?_
    refine XS.icmpNo X347.here hx rfl (hb hby d27_11) rfl (tlt (by decide : (2 : Int32) < (3 : Int32))).2.1 ?_
    show own_S p e below T347 (mkF m 14 #[.val (.ref a0), .val (.int 2), .val (.int 3), .val (.ref r333), .val (.int 2)] []) _
    refine XS.aloadN X347.here hx rfl (hb hby d27_14) rfl rfl ?_
    refine XS.iload X347.here hx rfl (hb hby d27_15) rfl ?_
    refine XS.aloadN X347.here hx rfl (hb hby d27_17) rfl rfl ?_
    refine XS.iloadN X347.here hx rfl (hb hby d27_18) rfl ?_
    show own_S p e below T347 (mkF m 19 #[.val (.ref a0), .val (.int 2), .val (.int 3), .val (.ref r333), .val (.int 2)] [.int 2, (.ref a0), .int 2, (.ref r333)]) _
    refine ld352 _ ?_
    show own_S p e below T347 (mkF m 20 #[.val (.ref a0), .val (.int 2), .val (.int 3), .val (.ref r333), .val (.int 2)] [(.int c2), .int 2, (.ref r333)]) _
    refine st353 _ ?_
    show own_S p e below T353 (mkF m 23 #[.val (.ref a0), .val (.int 2), .val (.int 3), .val (.ref r333), .val (.int 2)] []) _
    refine XS.iinc X353.here hx rfl (hb hby d27_23) rfl (l' := #[.val (.ref a0), .val (.int 3), .val (.int 3), .val (.ref r333), .val (.int 2)]) rfl ?_
    show own_S p e below T353 (mkF m 26 #[.val (.ref a0), .val (.int 3), .val (.int 3), .val (.ref r333), .val (.int 2)] []) _
    refine XS.iinc X353.here hx rfl (hb hby d27_26) rfl (l' := #[.val (.ref a0), .val (.int 3), .val (.int 3), .val (.ref r333), .val (.int 3)]) rfl ?_
    show own_S p e below T353 (mkF m 29 #[.val (.ref a0), .val (.int 3), .val (.int 3), .val (.ref r333), .val (.int 3)] []) _
    refine XS.goto X353.here hx rfl (pc0 := 29) (pc' := 8) rfl (hb hby d27_29) (by decide) (by decide) ?_
    show own_S p e below T353 (mkF m 8 #[.val (.ref a0), .val (.int 3), .val (.int 3), .val (.ref r333), .val (.int 3)] []) _
    refine XS.iload X353.here hx rfl (hb hby d27_8) rfl ?_
    refine XS.iloadN X353.here hx rfl (hb hby d27_10) rfl ?_
    refine XS.icmpYes X353.here hx rfl (pc0 := 11) (pc' := 32) rfl (hb hby d27_11) rfl (flt (by decide : ¬ ((3 : Int32) < (3 : Int32)))).2.1 (by decide) (by decide) ?_
    show own_S p e below T353 (mkF m 32 #[.val (.ref a0), .val (.int 3), .val (.int 3), .val (.ref r333), .val (.int 3)] []) _
    refine XS.aloadN X353.here hx rfl (hb hby d27_32) rfl rfl ?_
    show own_S p e below T353 (mkF m 33 #[.val (.ref a0), .val (.int 3), .val (.int 3), .val (.ref r333), .val (.int 3)] [(.ref r333)]) _
    exact Jvm.RoadKit.retOut X353 hx Bd.returns rfl (Or.inr (Or.inr (Or.inr (Or.inr ⟨rfl, rfl, rfl⟩)))) (hb hby d27_33) hr
  · show Q27_s3 Z a0 kc c0 c1 c2 h0 n0 _ T353.heap _
    exact ⟨r333, kr333, rfl, N353, kp357, ge_r333, gs_r333, Vb353⟩
theorem ef_17_v0v03 (m : MethodId) (a0 : Addr) (a2 : Addr) : entryFrame m #[(.ref a0), (.int (0 : Int32)), (.ref a2), (.int (0 : Int32)), (.int (3 : Int32))] 7 = mkF m 0 #[.val (.ref a0), .val (.int 0), .val (.ref a2), .val (.int 0), .val (.int 3), .unset, .unset] [] := by first | (simp [entryFrame, mkF, argsToLocals, Value.category]; done) | rfl
abbrev own_loc15 (a0 : Addr) (a2 : Addr) : Array Slot := #[.val (.ref a0), .val (.int 0), .val (.ref a2), .val (.int 0), .val (.int 3), .val (.int 0), .unset]
abbrev own_loc16 (a0 : Addr) (a2 : Addr) (c0 : Int32) : Array Slot := #[.val (.ref a0), .val (.int 0), .val (.ref a2), .val (.int 0), .val (.int 3), .val (.int 0), .val (.int c0)]
abbrev own_loc17 (a0 : Addr) (a2 : Addr) (c0 : Int32) : Array Slot := #[.val (.ref a0), .val (.int 1), .val (.ref a2), .val (.int 0), .val (.int 3), .val (.int 0), .val (.int c0)]
abbrev own_loc18 (a0 : Addr) (a2 : Addr) (c0 : Int32) : Array Slot := #[.val (.ref a0), .val (.int 1), .val (.ref a2), .val (.int 1), .val (.int 3), .val (.int 0), .val (.int c0)]
abbrev own_loc19 (a0 : Addr) (a2 : Addr) (c0 : Int32) : Array Slot := #[.val (.ref a0), .val (.int 1), .val (.ref a2), .val (.int 1), .val (.int 3), .val (.int 1), .val (.int c0)]
abbrev own_loc20 (a0 : Addr) (a2 : Addr) (c1 : Int32) : Array Slot := #[.val (.ref a0), .val (.int 1), .val (.ref a2), .val (.int 1), .val (.int 3), .val (.int 1), .val (.int c1)]
abbrev own_loc21 (a0 : Addr) (a2 : Addr) (c1 : Int32) : Array Slot := #[.val (.ref a0), .val (.int 2), .val (.ref a2), .val (.int 1), .val (.int 3), .val (.int 1), .val (.int c1)]
abbrev own_loc22 (a0 : Addr) (a2 : Addr) (c1 : Int32) : Array Slot := #[.val (.ref a0), .val (.int 2), .val (.ref a2), .val (.int 2), .val (.int 3), .val (.int 1), .val (.int c1)]
abbrev own_loc23 (a0 : Addr) (a2 : Addr) (c1 : Int32) : Array Slot := #[.val (.ref a0), .val (.int 2), .val (.ref a2), .val (.int 2), .val (.int 3), .val (.int 2), .val (.int c1)]
abbrev own_loc24 (a0 : Addr) (a2 : Addr) (c2 : Int32) : Array Slot := #[.val (.ref a0), .val (.int 2), .val (.ref a2), .val (.int 2), .val (.int 3), .val (.int 2), .val (.int c2)]
abbrev own_loc25 (a0 : Addr) (a2 : Addr) (c2 : Int32) : Array Slot := #[.val (.ref a0), .val (.int 3), .val (.ref a2), .val (.int 2), .val (.int 3), .val (.int 2), .val (.int c2)]
abbrev own_loc26 (a0 : Addr) (a2 : Addr) (c2 : Int32) : Array Slot := #[.val (.ref a0), .val (.int 3), .val (.ref a2), .val (.int 3), .val (.int 3), .val (.int 2), .val (.int c2)]
abbrev own_loc27 (a0 : Addr) (a2 : Addr) (c2 : Int32) : Array Slot := #[.val (.ref a0), .val (.int 3), .val (.ref a2), .val (.int 3), .val (.int 3), .val (.int 3), .val (.int c2)]
def Q17_s3 (Z : State) (a0 : Addr) (a2 : Addr) (kc : ClassId) (c0 : Int32) (c1 : Int32) (c2 : Int32) (kb : ClassId) (h0 : Heap) (n0 : Nat) (v : Option Value) (h : Heap) (L : List Loc) : Prop := (v = some (.int (0 : Int32)) ∧ Fr n0 L ∧ Keep h0 h [a2] ∧ (255 : Int32) < c0) ∨ (v = some (.int (1 : Int32)) ∧ Fr n0 L ∧ Keep h0 h [a2] ∧ (255 : Int32) < c1) ∨ (v = some (.int (2 : Int32)) ∧ Fr n0 L ∧ Keep h0 h [a2] ∧ (255 : Int32) < c2) ∨ (v = some (.int (3 : Int32)) ∧ Fr n0 L ∧ Keep h0 h [a2] ∧ Arv Z h a2 kb .byte (3 : Int32) [(.int (nar .byte (c0.toInt8.toInt32))), (.int (nar .byte (c1.toInt8.toInt32))), (.int (nar .byte (c2.toInt8.toInt32)))] (.int (0 : Int32)) ∧ ¬ ((255 : Int32) < c0) ∧ ¬ ((255 : Int32) < c1) ∧ ¬ ((255 : Int32) < c2))
set_option maxRecDepth 65536 in
set_option maxHeartbeats 40000000 in
theorem rm17_s3 (l : Launch) (Z : State) (ag : Array Value) (hw : ∀ d ∈ tables_1, d.before ag Z = true) (ws : List Jvm.Cond) (a0 : Addr) (a2 : Addr) (kc : ClassId) (c0 : Int32) (c1 : Int32) (c2 : Int32) (kb : ClassId) (h0 : Heap) (n0 : Nat) (Z0 : n0 ≤ h0.size) (V_a0 : Arv Z h0 a0 kc .char (3 : Int32) [(.int c0), (.int c1), (.int c2)] (.int (0 : Int32))) (hr_c0 : 0 ≤ c0.toInt ∧ c0.toInt < 65536) (hr_c1 : 0 ≤ c1.toInt ∧ c1.toInt < 65536) (hr_c2 : 0 ≤ c2.toInt ∧ c2.toInt < 65536) (V_a2 : Arv Z h0 a2 kb .byte (3 : Int32) [(.int (0 : Int32)), (.int (0 : Int32)), (.int (0 : Int32))] (.int (0 : Int32))) (ge_a2 : n0 ≤ a2) (ne_a0_a2 : a0 ≠ a2) :
    MetFree l (⟨"java/lang/StringUTF16", "compress", "([CI[BII)I"⟩ : MethodName) (head1 (Jvm.Cond.code (⟨"java/lang/StringUTF16", "compress", "([CI[BII)I"⟩ : MethodName) jdk_52_method_21_code 7 (some .int) :: ws) ({ frames := 0, cells := 0, slots := 0, locals := 0 } : Room)) (fun a U => a = #[(.ref a0), (.int (0 : Int32)), (.ref a2), (.int (0 : Int32)), (.int (3 : Int32))] ∧ Z.Warmed39 U.vm ∧ U.heap = h0) (fun _ _ _ _ _ => True) (fun _ U o U' => ∃ v L, o = .returned v ∧ Q17_s3 Z a0 a2 kc c0 c1 c2 kb h0 n0 v U'.heap L ∧ FrameEnd U o U' L ({ frames := 0, cells := 0, slots := 0, locals := 0 } : Room).cells ({ frames := 0, cells := 0, slots := 0, locals := 0 } : Room).slots) := by
  refine MetFree.of_bodySF (plainFor_of_name pn_6) hisR ?_
  intro p e s m args below meth c s₁ Bd hml0 hP hK
  obtain ⟨rfl, hZ, hh⟩ := hP
  have hx := Bd.exec
  have hby := Bd.bytes
  have hml : c.maxLocals = 7 := hml0
  have hown : s.vm.findClass "java/lang/StringUTF16" = some m.cls := findClass_of_methodNamed Bd.named
  have hnm := (name_of_methodNamed Bd.named Bd.method).1
  have X0 : Stand p l e ({ frames := 0, cells := 0, slots := 0, locals := 0 } : Room) s m #[(.ref a0), (.int (0 : Int32)), (.ref a2), (.int (0 : Int32)), (.int (3 : Int32))] below meth c s₁ [] 0 0 := Stand.of_body Bd
  have e0 : s₁.heap = h0 := by rw [← hh, Bd.state]; rfl
  have N0 := Fr.nil n0
  have pre0 : ∀ t, Steps p.tables e below (s₁.setTop (mkF m 0 #[.val (.ref a0), .val (.int 0), .val (.ref a2), .val (.int 0), .val (.int 3), .unset, .unset] [])) t → Steps p.tables e below (s₁.setTop (entryFrame m #[(.ref a0), (.int (0 : Int32)), (.ref a2), (.int (0 : Int32)), (.int (3 : Int32))] 7)) t := fun t k => castTop (ef_17_v0v03 m a0 a2) k
  obtain ⟨cl358, Ar358, q358, S358, M358, H358, G358⟩ := id V_a0
  have hin358 : ¬ ((0 : Int32) < 0 ∨ cl358.slots.size ≤ ((0 : Int32)).toNatClampNeg) := inb_of S358 ⟨(by decide : ¬ (0 : Int32) < 0), (by decide : (0 : Int32) < (3 : Int32))⟩
  have hat358 : cl358.slots[((0 : Int32)).toNatClampNeg]? = some (.int c0) := Has.at H358 hin358 rfl
  have ld358 := X0.caload hx (j := (0 : Int32)) (v := (.int c0)) (by rw [e0]; exact Ar358.1) (State.isArrayOf_alike hZ.alike Ar358.2.1) Ar358.2.2 hin358 hat358 (g := (mkF m 12 (own_loc15 a0 a2) [.int 0, (.ref a0)])) rfl rfl (hb hby d17_12)
  have cp360 : ∀ target, own_S p e below s₁ (mkF m 20 (own_loc16 a0 a2 c0) [.int 255, (.int c0)]) target → own_S p e below s₁ (mkF m 0 #[.val (.ref a0), .val (.int 0), .val (.ref a2), .val (.int 0), .val (.int 3), .unset, .unset] []) target := by
    intro target kt
    show own_S p e below s₁ (mkF m 0 #[.val (.ref a0), .val (.int 0), .val (.ref a2), .val (.int 0), .val (.int 3), .unset, .unset] []) _
    refine XS.iconst X0.here hx rfl (hb hby d17_0) ?_
    refine XS.istore X0.here hx rfl (hb hby d17_1) rfl (l' := (own_loc15 a0 a2)) rfl ?_
    show own_S p e below s₁ (mkF m 3 (own_loc15 a0 a2) []) _
    refine XS.iload X0.here hx rfl (hb hby d17_3) rfl ?_
    refine XS.iload X0.here hx rfl (hb hby d17_5) rfl ?_
    refine XS.icmpNo X0.here hx rfl (hb hby d17_7) rfl (tlt (by decide : (0 : Int32) < (3 : Int32))).2.1 ?_
    show own_S p e below s₁ (mkF m 10 (own_loc15 a0 a2) []) _
    refine XS.aloadN X0.here hx rfl (hb hby d17_10) rfl rfl ?_
    refine XS.iloadN X0.here hx rfl (hb hby d17_11) rfl ?_
    show own_S p e below s₁ (mkF m 12 (own_loc15 a0 a2) [.int 0, (.ref a0)]) _
    refine ld358 _ ?_
    show own_S p e below s₁ (mkF m 13 (own_loc15 a0 a2) [(.int c0)]) _
    refine XS.istore X0.here hx rfl (hb hby d17_13) rfl (l' := (own_loc16 a0 a2 c0)) rfl ?_
    show own_S p e below s₁ (mkF m 15 (own_loc16 a0 a2 c0) []) _
    refine XS.iload X0.here hx rfl (hb hby d17_15) rfl ?_
    refine XS.sipush X0.here hx rfl (hb hby d17_17) ?_
    exact kt
  by_cases hc359 : (255 : Int32) < c0
  · obtain ⟨fs, hr, hrun, hended, hW, hsame⟩ := X0.leave (v := some (.int (0 : Int32))) (fun h => by rw [Bd.returns] at h; cases h)
    refine ⟨_, _, pre0 _ ?_, hrun, hended, _, _, rfl, ?_, ⟨_, rfl⟩, hW, hsame.mono (by decide) (by decide)⟩
    · show own_S p e below s₁ (mkF m 0 #[.val (.ref a0), .val (.int 0), .val (.ref a2), .val (.int 0), .val (.int 3), .unset, .unset] []) _
      refine cp360 _ ?_
      show own_S p e below s₁ (mkF m 20 (own_loc16 a0 a2 c0) [.int 255, (.int c0)]) _
      refine XS.icmpNo X0.here hx rfl (hb hby d17_20) rfl (tlt hc359).2.2.2 ?_
      show own_S p e below s₁ (mkF m 23 (own_loc16 a0 a2 c0) []) _
      refine XS.iload X0.here hx rfl (hb hby d17_23) rfl ?_
      show own_S p e below s₁ (mkF m 25 (own_loc16 a0 a2 c0) [.int 0]) _
      exact retI X0 hx Bd.returns (hb hby d17_25) hr
    · show Q17_s3 Z a0 a2 kc c0 c1 c2 kb h0 n0 _ s₁.heap _
      rw [e0]
      exact Or.inl ⟨rfl, N0, (Keep.refl h0 [a2]), hc359⟩
  · obtain ⟨cl361, Ar361, q361, S361, M361, H361, G361⟩ := id V_a2
    have hin361 : ¬ ((0 : Int32) < 0 ∨ cl361.slots.size ≤ ((0 : Int32)).toNatClampNeg) := inb_of S361 ⟨(by decide : ¬ (0 : Int32) < 0), (by decide : (0 : Int32) < (3 : Int32))⟩
    obtain ⟨T361, h361, X361, e361, W361, st361⟩ := stB X0 hx hZ e0 Ar361 (j := (0 : Int32)) hin361 (g := (mkF m 31 (own_loc16 a0 a2 c0) [(.int (c0.toInt8.toInt32)), .int 0, (.ref a2)])) rfl rfl (hb hby d17_31)
    have V361 : Arv Z h361 a2 kb .byte (3 : Int32) [(.int (nar .byte (c0.toInt8.toInt32))), (.int (0 : Int32)), (.int (0 : Int32))] (.int (0 : Int32)) := Arv.set Ar361 q361 S361 M361 H361 G361 (fits_nar_byte _) W361 0 rfl (Nat.le_of_ble_eq_true rfl)
    have x362 := V_a0.other W361 ne_a0_a2
    have sz363 : n0 ≤ h361.size := Nat.le_trans Z0 (Keep.of_wr W361).1
    have kp364 : Keep h0 h361 [a2] := (Keep.refl h0 [a2]).wr W361 (Or.inl (List.mem_of_getElem? (i := 0) rfl))
    have N361 := Fr.snoc X361 N0 ge_a2
    obtain ⟨cl365, Ar365, q365, S365, M365, H365, G365⟩ := id x362
    have hin365 : ¬ ((1 : Int32) < 0 ∨ cl365.slots.size ≤ ((1 : Int32)).toNatClampNeg) := inb_of S365 ⟨(by decide : ¬ (1 : Int32) < 0), (by decide : (1 : Int32) < (3 : Int32))⟩
    have hat365 : cl365.slots[((1 : Int32)).toNatClampNeg]? = some (.int c1) := Has.at H365 hin365 rfl
    have ld365 := X361.caload hx (j := (1 : Int32)) (v := (.int c1)) (by rw [e361]; exact Ar365.1) (State.isArrayOf_alike hZ.alike Ar365.2.1) Ar365.2.2 hin365 hat365 (g := (mkF m 12 (own_loc19 a0 a2 c0) [.int 1, (.ref a0)])) rfl rfl (hb hby d17_12)
    have cp367 : ∀ target, own_S p e below T361 (mkF m 20 (own_loc20 a0 a2 c1) [.int 255, (.int c1)]) target → own_S p e below s₁ (mkF m 0 #[.val (.ref a0), .val (.int 0), .val (.ref a2), .val (.int 0), .val (.int 3), .unset, .unset] []) target := by
      intro target kt
      show own_S p e below s₁ (mkF m 0 #[.val (.ref a0), .val (.int 0), .val (.ref a2), .val (.int 0), .val (.int 3), .unset, .unset] []) _
      refine cp360 _ ?_
      show own_S p e below s₁ (mkF m 20 (own_loc16 a0 a2 c0) [.int 255, (.int c0)]) _
      refine XS.icmpYes X0.here hx rfl (pc0 := 20) (pc' := 26) rfl (hb hby d17_20) rfl (flt hc359).2.2.2 (by decide) (by decide) ?_
      show own_S p e below s₁ (mkF m 26 (own_loc16 a0 a2 c0) []) _
      refine XS.aloadN X0.here hx rfl (hb hby d17_26) rfl rfl ?_
      refine XS.iloadN X0.here hx rfl (hb hby d17_27) rfl ?_
      refine XS.iload X0.here hx rfl (hb hby d17_28) rfl ?_
      refine XS.i2b X0.here hx rfl (hb hby d17_30) rfl ?_
      show own_S p e below s₁ (mkF m 31 (own_loc16 a0 a2 c0) [(.int (c0.toInt8.toInt32)), .int 0, (.ref a2)]) _
      refine st361 _ ?_
      show own_S p e below T361 (mkF m 32 (own_loc16 a0 a2 c0) []) _
      refine XS.iinc X361.here hx rfl (hb hby d17_32) rfl (l' := (own_loc17 a0 a2 c0)) rfl ?_
      show own_S p e below T361 (mkF m 35 (own_loc17 a0 a2 c0) []) _
      refine XS.iinc X361.here hx rfl (hb hby d17_35) rfl (l' := (own_loc18 a0 a2 c0)) rfl ?_
      show own_S p e below T361 (mkF m 38 (own_loc18 a0 a2 c0) []) _
      refine XS.iinc X361.here hx rfl (hb hby d17_38) rfl (l' := (own_loc19 a0 a2 c0)) rfl ?_
      show own_S p e below T361 (mkF m 41 (own_loc19 a0 a2 c0) []) _
      refine XS.goto X361.here hx rfl (pc0 := 41) (pc' := 3) rfl (hb hby d17_41) (by decide) (by decide) ?_
      show own_S p e below T361 (mkF m 3 (own_loc19 a0 a2 c0) []) _
      refine XS.iload X361.here hx rfl (hb hby d17_3) rfl ?_
      refine XS.iload X361.here hx rfl (hb hby d17_5) rfl ?_
      refine XS.icmpNo X361.here hx rfl (hb hby d17_7) rfl (tlt (by decide : (1 : Int32) < (3 : Int32))).2.1 ?_
      show own_S p e below T361 (mkF m 10 (own_loc19 a0 a2 c0) []) _
      refine XS.aloadN X361.here hx rfl (hb hby d17_10) rfl rfl ?_
      refine XS.iloadN X361.here hx rfl (hb hby d17_11) rfl ?_
      show own_S p e below T361 (mkF m 12 (own_loc19 a0 a2 c0) [.int 1, (.ref a0)]) _
      refine ld365 _ ?_
      show own_S p e below T361 (mkF m 13 (own_loc19 a0 a2 c0) [(.int c1)]) _
      refine XS.istore X361.here hx rfl (hb hby d17_13) rfl (l' := (own_loc20 a0 a2 c1)) rfl ?_
      show own_S p e below T361 (mkF m 15 (own_loc20 a0 a2 c1) []) _
      refine XS.iload X361.here hx rfl (hb hby d17_15) rfl ?_
      refine XS.sipush X361.here hx rfl (hb hby d17_17) ?_
      exact kt
    by_cases hc366 : (255 : Int32) < c1
    · obtain ⟨fs, hr, hrun, hended, hW, hsame⟩ := X361.leave (v := some (.int (1 : Int32))) (fun h => by rw [Bd.returns] at h; cases h)
      refine ⟨_, _, pre0 _ ?_, hrun, hended, _, _, rfl, ?_, ⟨_, rfl⟩, hW, hsame.mono (by decide) (by decide)⟩
      · show own_S p e below s₁ (mkF m 0 #[.val (.ref a0), .val (.int 0), .val (.ref a2), .val (.int 0), .val (.int 3), .unset, .unset] []) _
        refine cp367 _ ?_
        show own_S p e below T361 (mkF m 20 (own_loc20 a0 a2 c1) [.int 255, (.int c1)]) _
        refine XS.icmpNo X361.here hx rfl (hb hby d17_20) rfl (tlt hc366).2.2.2 ?_
        show own_S p e below T361 (mkF m 23 (own_loc20 a0 a2 c1) []) _
        refine XS.iload X361.here hx rfl (hb hby d17_23) rfl ?_
        show own_S p e below T361 (mkF m 25 (own_loc20 a0 a2 c1) [.int 1]) _
        exact retI X361 hx Bd.returns (hb hby d17_25) hr
      · show Q17_s3 Z a0 a2 kc c0 c1 c2 kb h0 n0 _ T361.heap _
        rw [e361]
        exact Or.inr (Or.inl ⟨rfl, N361, kp364, hc366⟩)
    · obtain ⟨cl368, Ar368, q368, S368, M368, H368, G368⟩ := id V361
      have hin368 : ¬ ((1 : Int32) < 0 ∨ cl368.slots.size ≤ ((1 : Int32)).toNatClampNeg) := inb_of S368 ⟨(by decide : ¬ (1 : Int32) < 0), (by decide : (1 : Int32) < (3 : Int32))⟩
      obtain ⟨T368, h368, X368, e368, W368, st368⟩ := stB X361 hx hZ e361 Ar368 (j := (1 : Int32)) hin368 (g := (mkF m 31 (own_loc20 a0 a2 c1) [(.int (c1.toInt8.toInt32)), .int 1, (.ref a2)])) rfl rfl (hb hby d17_31)
      have V368 : Arv Z h368 a2 kb .byte (3 : Int32) [(.int (nar .byte (c0.toInt8.toInt32))), (.int (nar .byte (c1.toInt8.toInt32))), (.int (0 : Int32))] (.int (0 : Int32)) := Arv.set Ar368 q368 S368 M368 H368 G368 (fits_nar_byte _) W368 1 rfl (Nat.le_of_ble_eq_true rfl)
      have x369 := x362.other W368 ne_a0_a2
      have sz370 : n0 ≤ h368.size := Nat.le_trans sz363 (Keep.of_wr W368).1
      have kp371 : Keep h0 h368 [a2] := kp364.wr W368 (Or.inl (List.mem_of_getElem? (i := 0) rfl))
      have N368 := Fr.snoc X368 N361 ge_a2
      obtain ⟨cl372, Ar372, q372, S372, M372, H372, G372⟩ := id x369
      have hin372 : ¬ ((2 : Int32) < 0 ∨ cl372.slots.size ≤ ((2 : Int32)).toNatClampNeg) := inb_of S372 ⟨(by decide : ¬ (2 : Int32) < 0), (by decide : (2 : Int32) < (3 : Int32))⟩
      have hat372 : cl372.slots[((2 : Int32)).toNatClampNeg]? = some (.int c2) := Has.at H372 hin372 rfl
      have ld372 := X368.caload hx (j := (2 : Int32)) (v := (.int c2)) (by rw [e368]; exact Ar372.1) (State.isArrayOf_alike hZ.alike Ar372.2.1) Ar372.2.2 hin372 hat372 (g := (mkF m 12 (own_loc23 a0 a2 c1) [.int 2, (.ref a0)])) rfl rfl (hb hby d17_12)
      have cp374 : ∀ target, own_S p e below T368 (mkF m 20 (own_loc24 a0 a2 c2) [.int 255, (.int c2)]) target → own_S p e below s₁ (mkF m 0 #[.val (.ref a0), .val (.int 0), .val (.ref a2), .val (.int 0), .val (.int 3), .unset, .unset] []) target := by
        intro target kt
        show own_S p e below s₁ (mkF m 0 #[.val (.ref a0), .val (.int 0), .val (.ref a2), .val (.int 0), .val (.int 3), .unset, .unset] []) _
        refine cp367 _ ?_
        show own_S p e below T361 (mkF m 20 (own_loc20 a0 a2 c1) [.int 255, (.int c1)]) _
        refine XS.icmpYes X361.here hx rfl (pc0 := 20) (pc' := 26) rfl (hb hby d17_20) rfl (flt hc366).2.2.2 (by decide) (by decide) ?_
        show own_S p e below T361 (mkF m 26 (own_loc20 a0 a2 c1) []) _
        refine XS.aloadN X361.here hx rfl (hb hby d17_26) rfl rfl ?_
        refine XS.iloadN X361.here hx rfl (hb hby d17_27) rfl ?_
        refine XS.iload X361.here hx rfl (hb hby d17_28) rfl ?_
        refine XS.i2b X361.here hx rfl (hb hby d17_30) rfl ?_
        show own_S p e below T361 (mkF m 31 (own_loc20 a0 a2 c1) [(.int (c1.toInt8.toInt32)), .int 1, (.ref a2)]) _
        refine st368 _ ?_
        show own_S p e below T368 (mkF m 32 (own_loc20 a0 a2 c1) []) _
        refine XS.iinc X368.here hx rfl (hb hby d17_32) rfl (l' := (own_loc21 a0 a2 c1)) rfl ?_
        show own_S p e below T368 (mkF m 35 (own_loc21 a0 a2 c1) []) _
        refine XS.iinc X368.here hx rfl (hb hby d17_35) rfl (l' := (own_loc22 a0 a2 c1)) rfl ?_
        show own_S p e below T368 (mkF m 38 (own_loc22 a0 a2 c1) []) _
        refine XS.iinc X368.here hx rfl (hb hby d17_38) rfl (l' := (own_loc23 a0 a2 c1)) rfl ?_
        show own_S p e below T368 (mkF m 41 (own_loc23 a0 a2 c1) []) _
        refine XS.goto X368.here hx rfl (pc0 := 41) (pc' := 3) rfl (hb hby d17_41) (by decide) (by decide) ?_
        show own_S p e below T368 (mkF m 3 (own_loc23 a0 a2 c1) []) _
        refine XS.iload X368.here hx rfl (hb hby d17_3) rfl ?_
        refine XS.iload X368.here hx rfl (hb hby d17_5) rfl ?_
        refine XS.icmpNo X368.here hx rfl (hb hby d17_7) rfl (tlt (by decide : (2 : Int32) < (3 : Int32))).2.1 ?_
        show own_S p e below T368 (mkF m 10 (own_loc23 a0 a2 c1) []) _
        refine XS.aloadN X368.here hx rfl (hb hby d17_10) rfl rfl ?_
        refine XS.iloadN X368.here hx rfl (hb hby d17_11) rfl ?_
        show own_S p e below T368 (mkF m 12 (own_loc23 a0 a2 c1) [.int 2, (.ref a0)]) _
        refine ld372 _ ?_
        show own_S p e below T368 (mkF m 13 (own_loc23 a0 a2 c1) [(.int c2)]) _
        refine XS.istore X368.here hx rfl (hb hby d17_13) rfl (l' := (own_loc24 a0 a2 c2)) rfl ?_
        show own_S p e below T368 (mkF m 15 (own_loc24 a0 a2 c2) []) _
        refine XS.iload X368.here hx rfl (hb hby d17_15) rfl ?_
        refine XS.sipush X368.here hx rfl (hb hby d17_17) ?_
        exact kt
      by_cases hc373 : (255 : Int32) < c2
      · obtain ⟨fs, hr, hrun, hended, hW, hsame⟩ := X368.leave (v := some (.int (2 : Int32))) (fun h => by rw [Bd.returns] at h; cases h)
        refine ⟨_, _, pre0 _ ?_, hrun, hended, _, _, rfl, ?_, ⟨_, rfl⟩, hW, hsame.mono (by decide) (by decide)⟩
        · show own_S p e below s₁ (mkF m 0 #[.val (.ref a0), .val (.int 0), .val (.ref a2), .val (.int 0), .val (.int 3), .unset, .unset] []) _
          refine cp374 _ ?_
          show own_S p e below T368 (mkF m 20 (own_loc24 a0 a2 c2) [.int 255, (.int c2)]) _
          refine XS.icmpNo X368.here hx rfl (hb hby d17_20) rfl (tlt hc373).2.2.2 ?_
          show own_S p e below T368 (mkF m 23 (own_loc24 a0 a2 c2) []) _
          refine XS.iload X368.here hx rfl (hb hby d17_23) rfl ?_
          show own_S p e below T368 (mkF m 25 (own_loc24 a0 a2 c2) [.int 2]) _
          exact retI X368 hx Bd.returns (hb hby d17_25) hr
        · show Q17_s3 Z a0 a2 kc c0 c1 c2 kb h0 n0 _ T368.heap _
          rw [e368]
          exact Or.inr (Or.inr (Or.inl ⟨rfl, N368, kp371, hc373⟩))
      · obtain ⟨cl375, Ar375, q375, S375, M375, H375, G375⟩ := id V368
        have hin375 : ¬ ((2 : Int32) < 0 ∨ cl375.slots.size ≤ ((2 : Int32)).toNatClampNeg) := inb_of S375 ⟨(by decide : ¬ (2 : Int32) < 0), (by decide : (2 : Int32) < (3 : Int32))⟩
        obtain ⟨T375, h375, X375, e375, W375, st375⟩ := stB X368 hx hZ e368 Ar375 (j := (2 : Int32)) hin375 (g := (mkF m 31 (own_loc24 a0 a2 c2) [(.int (c2.toInt8.toInt32)), .int 2, (.ref a2)])) rfl rfl (hb hby d17_31)
        have V375 : Arv Z h375 a2 kb .byte (3 : Int32) [(.int (nar .byte (c0.toInt8.toInt32))), (.int (nar .byte (c1.toInt8.toInt32))), (.int (nar .byte (c2.toInt8.toInt32)))] (.int (0 : Int32)) := Arv.set Ar375 q375 S375 M375 H375 G375 (fits_nar_byte _) W375 2 rfl (Nat.le_of_ble_eq_true rfl)
        have x376 := x369.other W375 ne_a0_a2
        have sz377 : n0 ≤ h375.size := Nat.le_trans sz370 (Keep.of_wr W375).1
        have kp378 : Keep h0 h375 [a2] := kp371.wr W375 (Or.inl (List.mem_of_getElem? (i := 0) rfl))
        have N375 := Fr.snoc X375 N368 ge_a2
        obtain ⟨fs, hr, hrun, hended, hW, hsame⟩ := X375.leave (v := some (.int (3 : Int32))) (fun h => by rw [Bd.returns] at h; cases h)
        refine ⟨_, _, pre0 _ ?_, hrun, hended, _, _, rfl, ?_, ⟨_, rfl⟩, hW, hsame.mono (by decide) (by decide)⟩
        · show own_S p e below s₁ (mkF m 0 #[.val (.ref a0), .val (.int 0), .val (.ref a2), .val (.int 0), .val (.int 3), .unset, .unset] []) _
          refine cp374 _ ?_
          show own_S p e below T368 (mkF m 20 (own_loc24 a0 a2 c2) [.int 255, (.int c2)]) _
          refine XS.icmpYes X368.here hx rfl (pc0 := 20) (pc' := 26) rfl (hb hby d17_20) rfl (flt hc373).2.2.2 (by decide) (by decide) ?_
          show own_S p e below T368 (mkF m 26 (own_loc24 a0 a2 c2) []) _
          refine XS.aloadN X368.here hx rfl (hb hby d17_26) rfl rfl ?_
          refine XS.iloadN X368.here hx rfl (hb hby d17_27) rfl ?_
          refine XS.iload X368.here hx rfl (hb hby d17_28) rfl ?_
          refine XS.i2b X368.here hx rfl (hb hby d17_30) rfl ?_
          show own_S p e below T368 (mkF m 31 (own_loc24 a0 a2 c2) [(.int (c2.toInt8.toInt32)), .int 2, (.ref a2)]) _
          refine st375 _ ?_
          show own_S p e below T375 (mkF m 32 (own_loc24 a0 a2 c2) []) _
          refine XS.iinc X375.here hx rfl (hb hby d17_32) rfl (l' := (own_loc25 a0 a2 c2)) rfl ?_
          show own_S p e below T375 (mkF m 35 (own_loc25 a0 a2 c2) []) _
          refine XS.iinc X375.here hx rfl (hb hby d17_35) rfl (l' := (own_loc26 a0 a2 c2)) rfl ?_
          show own_S p e below T375 (mkF m 38 (own_loc26 a0 a2 c2) []) _
          refine XS.iinc X375.here hx rfl (hb hby d17_38) rfl (l' := (own_loc27 a0 a2 c2)) rfl ?_
          show own_S p e below T375 (mkF m 41 (own_loc27 a0 a2 c2) []) _
          refine XS.goto X375.here hx rfl (pc0 := 41) (pc' := 3) rfl (hb hby d17_41) (by decide) (by decide) ?_
          show own_S p e below T375 (mkF m 3 (own_loc27 a0 a2 c2) []) _
          refine XS.iload X375.here hx rfl (hb hby d17_3) rfl ?_
          refine XS.iload X375.here hx rfl (hb hby d17_5) rfl ?_
          refine XS.icmpYes X375.here hx rfl (pc0 := 7) (pc' := 44) rfl (hb hby d17_7) rfl (flt (by decide : ¬ ((3 : Int32) < (3 : Int32)))).2.1 (by decide) (by decide) ?_
          show own_S p e below T375 (mkF m 44 (own_loc27 a0 a2 c2) []) _
          refine XS.iload X375.here hx rfl (hb hby d17_44) rfl ?_
          show own_S p e below T375 (mkF m 46 (own_loc27 a0 a2 c2) [.int 3]) _
          exact retI X375 hx Bd.returns (hb hby d17_46) hr
        · show Q17_s3 Z a0 a2 kc c0 c1 c2 kb h0 n0 _ T375.heap _
          rw [e375]
          exact Or.inr (Or.inr (Or.inr (⟨rfl, N375, kp378, V375, hc359, hc366, hc373⟩)))
theorem ef_16_v03 (m : MethodId) (a0 : Addr) : entryFrame m #[(.ref a0), (.int (0 : Int32)), (.int (3 : Int32))] 6 = mkF m 0 #[.val (.ref a0), .val (.int 0), .val (.int 3), .unset, .unset, .unset] [] := by first | (simp [entryFrame, mkF, argsToLocals, Value.category]; done) | rfl
def Q16_s3 (Z : State) (a0 : Addr) (kc : ClassId) (c0 : Int32) (c1 : Int32) (c2 : Int32) (h0 : Heap) (n0 : Nat) (v : Option Value) (h : Heap) (L : List Loc) : Prop := ∃ (r : Addr) (kb : ClassId) (nb : Int32) (vs : List Value), v = some (.ref r) ∧ Fr n0 L ∧ Keep h0 h [] ∧ n0 ≤ r ∧ h0.size ≤ r ∧ Arv Z h r kb .byte nb vs (.int (0 : Int32)) ∧ ((nb = (3 : Int32) ∧ vs = [(.int (nar .byte (c0.toInt8.toInt32))), (.int (nar .byte (c1.toInt8.toInt32))), (.int (nar .byte (c2.toInt8.toInt32)))] ∧ ¬ ((255 : Int32) < c0) ∧ ¬ ((255 : Int32) < c1) ∧ ¬ ((255 : Int32) < c2)) ∨ (nb = (6 : Int32) ∧ vs = [(.int (nar .byte ((c0 >>> ((0 : Int32) &&& 31)).toInt8.toInt32))), (.int (nar .byte ((c0 >>> ((8 : Int32) &&& 31)).toInt8.toInt32))), (.int (nar .byte ((c1 >>> ((0 : Int32) &&& 31)).toInt8.toInt32))), (.int (nar .byte ((c1 >>> ((8 : Int32) &&& 31)).toInt8.toInt32))), (.int (nar .byte ((c2 >>> ((0 : Int32) &&& 31)).toInt8.toInt32))), (.int (nar .byte ((c2 >>> ((8 : Int32) &&& 31)).toInt8.toInt32)))]))
set_option maxRecDepth 65536 in
set_option maxHeartbeats 40000000 in
theorem rm16_s3 (l : Launch) (Z : State) (ag : Array Value) (hw : ∀ d ∈ tables_1, d.before ag Z = true) (ws : List Jvm.Cond) (a0 : Addr) (kc : ClassId) (c0 : Int32) (c1 : Int32) (c2 : Int32) (h0 : Heap) (n0 : Nat) (Z0 : n0 ≤ h0.size) (V_a0 : Arv Z h0 a0 kc .char (3 : Int32) [(.int c0), (.int c1), (.int c2)] (.int (0 : Int32))) (hr_c0 : 0 ≤ c0.toInt ∧ c0.toInt < 65536) (hr_c1 : 0 ≤ c1.toInt ∧ c1.toInt < 65536) (hr_c2 : 0 ≤ c2.toInt ∧ c2.toInt < 65536) (O_ : Old Z n0 h0) (S_ad : Sta Z Z.heap "java/lang/StringUTF16" "$assertionsDisabled" "Z" (.int (1 : Int32))) (S_hi : Sta Z Z.heap "java/lang/StringUTF16" "HI_BYTE_SHIFT" "I" (.int (0 : Int32))) (S_lo : Sta Z Z.heap "java/lang/StringUTF16" "LO_BYTE_SHIFT" "I" (.int (8 : Int32))) :
    MetFree l (⟨"java/lang/StringUTF16", "compress", "([CII)[B"⟩ : MethodName) (head1 (Jvm.Cond.code (⟨"java/lang/StringUTF16", "compress", "([CII)[B"⟩ : MethodName) jdk_52_method_16_code 6 (some (.array .byte)) :: ws) ({ frames := 3, cells := 2, slots := 11, locals := 40 } : Room)) (fun a U => a = #[(.ref a0), (.int (0 : Int32)), (.int (3 : Int32))] ∧ Z.Warmed39 U.vm ∧ U.heap = h0) (fun _ _ _ _ _ => True) (fun _ U o U' => ∃ v L, o = .returned v ∧ Q16_s3 Z a0 kc c0 c1 c2 h0 n0 v U'.heap L ∧ FrameEnd U o U' L ({ frames := 3, cells := 2, slots := 11, locals := 40 } : Room).cells ({ frames := 3, cells := 2, slots := 11, locals := 40 } : Room).slots) := by
  refine MetFree.of_bodySF (plainFor_of_name pn_6) hisR ?_
  intro p e s m args below meth c s₁ Bd hml0 hP hK
  obtain ⟨rfl, hZ, hh⟩ := hP
  have hx := Bd.exec
  have hby := Bd.bytes
  have hml : c.maxLocals = 6 := hml0
  have hown : s.vm.findClass "java/lang/StringUTF16" = some m.cls := findClass_of_methodNamed Bd.named
  have hnm := (name_of_methodNamed Bd.named Bd.method).1
  have X0 : Stand p l e ({ frames := 3, cells := 2, slots := 11, locals := 40 } : Room) s m #[(.ref a0), (.int (0 : Int32)), (.int (3 : Int32))] below meth c s₁ [] 0 0 := Stand.of_body Bd
  have e0 : s₁.heap = h0 := by rw [← hh, Bd.state]; rfl
  have N0 := Fr.nil n0
  have pre0 : ∀ t, Steps p.tables e below (s₁.setTop (mkF m 0 #[.val (.ref a0), .val (.int 0), .val (.int 3), .unset, .unset, .unset] [])) t → Steps p.tables e below (s₁.setTop (entryFrame m #[(.ref a0), (.int (0 : Int32)), (.int (3 : Int32))] 6)) t := fun t k => castTop (ef_16_v03 m a0) k
  obtain ⟨T379, h379, k379, X379, e379, E379, A379, st379⟩ := newP X0 hx hZ (own_wk hw 7 rfl) e0 (g := (mkF m 1 #[.val (.ref a0), .val (.int 0), .val (.int 3), .unset, .unset, .unset] [.int 3])) rfl (hb hby d16_1) rfl (by decide) (cap := 3) (by decide) (by decide) (by decide) (by decide)
  obtain ⟨b379, g379⟩ : ∃ z, z = h0.size := ⟨_, rfl⟩
  have ne380 : a0 ≠ b379 := Nat.ne_of_lt (Nat.lt_of_lt_of_le V_a0.lt (Nat.le_of_eq g379.symm))
  have ge_b379 : n0 ≤ b379 := Nat.le_trans Z0 (Nat.le_of_eq g379.symm)
  have gs_b379 : h0.size ≤ b379 := Nat.le_trans (Keep.refl h0 []).1 (Nat.le_of_eq g379.symm)
  rw [← g379] at A379 st379
  have x381 := V_a0.ext E379
  have x382 := O_.ext E379
  have sz383 : n0 ≤ h379.size := Nat.le_trans Z0 E379.1
  have kp384 : Keep h0 h379 [] := (Keep.refl h0 []).ext E379
  have V379 : Arv Z h379 b379 k379 .byte (3 : Int32) [(.int (0 : Int32)), (.int (0 : Int32)), (.int (0 : Int32))] (.int (0 : Int32)) := (Arv.new A379 (by decide)).pad (pad_rep [] (.int (0 : Int32)) 3)
  obtain ⟨_, _, ⟨T385, L385, k385, n385⟩, -, X385, ⟨Lc385, hQ385, l385, y385, z385⟩, st385⟩ := Jvm.LawKit.callS X379 hx (y := (⟨"java/lang/StringUTF16", "compress", "([CI[BII)I"⟩ : MethodName)) hown (mvT hZ (own_wk hw 79 rfl)) (mvT hZ (own_wk hw 80 rfl)) (mvT hZ (own_wk hw 77 rfl)) (mvT hZ (own_wk hw 81 rfl)) (by decide) (backOf (W := 0) (rm17_s3 l Z ag hw [] a0 b379 kc c0 c1 c2 k379 h379 n0 sz383 x381 hr_c0 hr_c1 hr_c2 V379 ge_b379 ne380) hZ (own_wk hw 81 rfl) (own_wk hw 77 rfl) (by decide) (by decide)) (g := (mkF m 9 #[.val (.ref a0), .val (.int 0), .val (.int 3), .val (.ref b379), .unset, .unset] [.int 3, .int 0, (.ref b379), .int 0, (.ref a0)])) rfl (by rw [hml]; rfl) (argsL := [(.ref a0), (.int (0 : Int32)), (.ref b379), (.int (0 : Int32)), (.int (3 : Int32))]) (rest := []) (lenOf pd_25 rfl) rfl (by show 2 * 0 + _ ≤ _; exact Nat.le_of_eq rfl) (hb hby d16_9) (fun _ _ => ⟨rfl, e379, (by decide : 1 + 0 ≤ _), (by decide : 3 + 0 ≤ _)⟩)
  dsimp only [Pt.U, Pt.locs, Pt.cells, Pt.slots] at X385 l385 y385 z385 st385 hQ385
  subst l385 y385 z385
  rcases hQ385 with q385 | q385 | q385 | q385
  · obtain ⟨rfl, N385q, K385, hbig385⟩ := q385
    have N385 := Fr.app N0 N385q
    have x386 := x381.keep K385 (ninS ne380 nin0)
    have x387 := x382.keep K385 (allS ge_b379 all0)
    have sz388 : n0 ≤ T385.heap.size := Nat.le_trans sz383 K385.1
    have kp389 : Keep h0 T385.heap [] := kp384.trans K385 (allS (Or.inr gs_b379) all0)
    obtain ⟨_, _, ⟨T390, L390, k390, n390⟩, -, X390, ⟨Lc390, hQ390, l390, y390, z390⟩, st390⟩ := Jvm.LawKit.callS X385 hx (y := (⟨"java/lang/StringUTF16", "toBytes", "([CII)[B"⟩ : MethodName)) hown (mvT hZ (own_wk hw 117 rfl)) (mvT hZ (own_wk hw 118 rfl)) (mvT hZ (own_wk hw 77 rfl)) (mvT hZ (own_wk hw 119 rfl)) (by decide) (backOf (W := 0) (rm27_s3 l Z ag hw [] a0 kc c0 c1 c2 T385.heap n0 sz388 x386 hr_c0 hr_c1 hr_c2 x387 S_ad S_hi S_lo) hZ (own_wk hw 119 rfl) (own_wk hw 77 rfl) (by decide) (by decide)) (g := (mkF m 23 #[.val (.ref a0), .val (.int 0), .val (.int 3), .val (.ref b379), .val (.int 0), .unset] [.int 3, .int 0, (.ref a0)])) rfl (by rw [hml]; rfl) (argsL := [(.ref a0), (.int (0 : Int32)), (.int (3 : Int32))]) (rest := []) (lenOf pd_23 rfl) rfl (by show 2 * 0 + _ ≤ _; exact Nat.le_of_eq rfl) (hb hby d16_23) (fun _ _ => ⟨rfl, rfl, (by decide : 1 + 1 ≤ _), (by decide : 3 + 8 ≤ _)⟩)
    dsimp only [Pt.U, Pt.locs, Pt.cells, Pt.slots] at X390 l390 y390 z390 st390 hQ390
    subst l390 y390 z390
    obtain ⟨r390, kr390, rfl, N390q, K390, ge_r390, gq_r390, Vr390⟩ := hQ390
    have N390 := Fr.app N385 N390q
    have ne391 : a0 ≠ r390 := Nat.ne_of_lt (Nat.lt_of_lt_of_le x386.lt gq_r390)
    have gs_r390 : h0.size ≤ r390 := Nat.le_trans kp389.1 gq_r390
    have x392 := x386.keep K390 nin0
    have x393 := x387.keep K390 all0
    have sz394 : n0 ≤ T390.heap.size := Nat.le_trans sz388 K390.1
    have kp395 : Keep h0 T390.heap [] := kp389.trans K390 all0
    have cp396 : ∀ target, own_S p e below T390 (mkF m 32 #[.val (.ref a0), .val (.int 0), .val (.int 3), .val (.ref b379), .val (.int 0), .val (.ref r390)] [.int 0, (.ref r390)]) target → own_S p e below s₁ (mkF m 0 #[.val (.ref a0), .val (.int 0), .val (.int 3), .unset, .unset, .unset] []) target := by
      intro target kt
      show own_S p e below s₁ (mkF m 0 #[.val (.ref a0), .val (.int 0), .val (.int 3), .unset, .unset, .unset] []) _
      refine XS.iloadN X0.here hx rfl (hb hby d16_0) rfl ?_
      show own_S p e below s₁ (mkF m 1 #[.val (.ref a0), .val (.int 0), .val (.int 3), .unset, .unset, .unset] [.int 3]) _
      refine st379 _ ?_
      show own_S p e below T379 (mkF m 3 #[.val (.ref a0), .val (.int 0), .val (.int 3), .unset, .unset, .unset] [(.ref b379)]) _
      refine XS.astoreN X379.here hx rfl (hb hby d16_3) rfl rfl (l' := #[.val (.ref a0), .val (.int 0), .val (.int 3), .val (.ref b379), .unset, .unset]) rfl ?_
      show own_S p e below T379 (mkF m 4 #[.val (.ref a0), .val (.int 0), .val (.int 3), .val (.ref b379), .unset, .unset] []) _
      refine XS.aloadN X379.here hx rfl (hb hby d16_4) rfl rfl ?_
      refine XS.iloadN X379.here hx rfl (hb hby d16_5) rfl ?_
      refine XS.aloadN X379.here hx rfl (hb hby d16_6) rfl rfl ?_
      refine XS.iconst X379.here hx rfl (hb hby d16_7) ?_
      refine XS.iloadN X379.here hx rfl (hb hby d16_8) rfl ?_
      show own_S p e below T379 (mkF m 9 #[.val (.ref a0), .val (.int 0), .val (.int 3), .val (.ref b379), .unset, .unset] [.int 3, .int 0, (.ref b379), .int 0, (.ref a0)]) _
      refine st385 _ ?_
      show own_S p e below T385 (mkF m 12 #[.val (.ref a0), .val (.int 0), .val (.int 3), .val (.ref b379), .unset, .unset] [.int 0]) _
      refine XS.istore X385.here hx rfl (hb hby d16_12) rfl (l' := #[.val (.ref a0), .val (.int 0), .val (.int 3), .val (.ref b379), .val (.int 0), .unset]) rfl ?_
      show own_S p e below T385 (mkF m 14 #[.val (.ref a0), .val (.int 0), .val (.int 3), .val (.ref b379), .val (.int 0), .unset] []) _
      refine XS.iload X385.here hx rfl (hb hby d16_14) rfl ?_
      refine XS.iloadN X385.here hx rfl (hb hby d16_16) rfl ?_
      refine XS.icmpNo X385.here hx rfl (hb hby d16_17) rfl (feq (by decide : ¬ ((0 : Int32) = (3 : Int32)))).1 ?_
      show own_S p e below T385 (mkF m 20 #[.val (.ref a0), .val (.int 0), .val (.int 3), .val (.ref b379), .val (.int 0), .unset] []) _
      refine XS.aloadN X385.here hx rfl (hb hby d16_20) rfl rfl ?_
      refine XS.iloadN X385.here hx rfl (hb hby d16_21) rfl ?_
      refine XS.iloadN X385.here hx rfl (hb hby d16_22) rfl ?_
      show own_S p e below T385 (mkF m 23 #[.val (.ref a0), .val (.int 0), .val (.int 3), .val (.ref b379), .val (.int 0), .unset] [.int 3, .int 0, (.ref a0)]) _
      refine st390 _ ?_
      show own_S p e below T390 (mkF m 26 #[.val (.ref a0), .val (.int 0), .val (.int 3), .val (.ref b379), .val (.int 0), .unset] [(.ref r390)]) _
      refine XS.astore X390.here hx rfl (hb hby d16_26) rfl rfl (l' := #[.val (.ref a0), .val (.int 0), .val (.int 3), .val (.ref b379), .val (.int 0), .val (.ref r390)]) rfl ?_
      show own_S p e below T390 (mkF m 28 #[.val (.ref a0), .val (.int 0), .val (.int 3), .val (.ref b379), .val (.int 0), .val (.ref r390)] []) _
      refine XS.aload X390.here hx rfl (hb hby d16_28) rfl rfl ?_
      refine XS.iload X390.here hx rfl (hb hby d16_30) rfl ?_
      exact kt
    obtain ⟨_, _, ⟨T397, L397, k397, n397⟩, -, X397, ⟨Lc397, hQ397, l397, y397, z397⟩, st397⟩ := Jvm.LawKit.callS X390 hx (y := (⟨"java/lang/StringUTF16", "getChar", "([BI)C"⟩ : MethodName)) hown (mvT hZ (own_wk hw 133 rfl)) (mvT hZ (own_wk hw 134 rfl)) (mvT hZ (own_wk hw 77 rfl)) (mvT hZ (own_wk hw 135 rfl)) (by decide) (backOf (W := 0) (rm31 l Z ag hw [] r390 (0 : Int32) kr390 (6 : Int32) [(.int (nar .byte ((c0 >>> ((0 : Int32) &&& 31)).toInt8.toInt32))), (.int (nar .byte ((c0 >>> ((8 : Int32) &&& 31)).toInt8.toInt32))), (.int (nar .byte ((c1 >>> ((0 : Int32) &&& 31)).toInt8.toInt32))), (.int (nar .byte ((c1 >>> ((8 : Int32) &&& 31)).toInt8.toInt32))), (.int (nar .byte ((c2 >>> ((0 : Int32) &&& 31)).toInt8.toInt32))), (.int (nar .byte ((c2 >>> ((8 : Int32) &&& 31)).toInt8.toInt32)))] (nar .byte ((c0 >>> ((0 : Int32) &&& 31)).toInt8.toInt32)) (nar .byte ((c0 >>> ((8 : Int32) &&& 31)).toInt8.toInt32)) T390.heap n0 sz394 Vr390 (by decide) (by decide) rfl rfl x393 S_ad S_hi S_lo) hZ (own_wk hw 135 rfl) (own_wk hw 77 rfl) (by decide) (by decide)) (g := (mkF m 32 #[.val (.ref a0), .val (.int 0), .val (.int 3), .val (.ref b379), .val (.int 0), .val (.ref r390)] [.int 0, (.ref r390)])) rfl (by rw [hml]; rfl) (argsL := [(.ref r390), (.int (0 : Int32))]) (rest := []) (lenOf pd_19 rfl) rfl (by show 2 * 0 + _ ≤ _; exact Nat.le_of_eq rfl) (hb hby d16_32) (fun _ _ => ⟨rfl, rfl, (by decide : 2 + 0 ≤ _), (by decide : 11 + 0 ≤ _)⟩)
    dsimp only [Pt.U, Pt.locs, Pt.cells, Pt.slots] at X397 l397 y397 z397 st397 hQ397
    subst l397 y397 z397
    obtain ⟨rfl, N397q, e397⟩ := hQ397
    have N397 := Fr.app N390 N397q
    obtain ⟨fs, hr, hrun, hended, hW, hsame⟩ := X397.leave (v := some (.ref r390)) (fun h => by rw [Bd.returns] at h; cases h)
    refine ⟨_, _, pre0 _ ?_, hrun, hended, _, _, rfl, ?_, ⟨_, rfl⟩, hW, hsame.mono (by decide) (by decide)⟩
    · show own_S p e below s₁ (mkF m 0 #[.val (.ref a0), .val (.int 0), .val (.int 3), .unset, .unset, .unset] []) _
      refine cp396 _ ?_
      show own_S p e below T390 (mkF m 32 #[.val (.ref a0), .val (.int 0), .val (.int 3), .val (.ref b379), .val (.int 0), .val (.ref r390)] [.int 0, (.ref r390)]) _
      refine st397 _ ?_
      show own_S p e below T397 (mkF m 35 #[.val (.ref a0), .val (.int 0), .val (.int 3), .val (.ref b379), .val (.int 0), .val (.ref r390)] [(.int (own_gc (nar .byte ((c0 >>> ((0 : Int32) &&& 31)).toInt8.toInt32)) (nar .byte ((c0 >>> ((8 : Int32) &&& 31)).toInt8.toInt32))))]) _
      refine XS.sipush X397.here hx rfl (hb hby d16_35) ?_
      refine XS.icmpYes X397.here hx rfl (pc0 := 38) (pc' := 54) rfl (hb hby d16_38) rfl (tlt (show (255 : Int32) < (own_gc (nar .byte ((c0 >>> ((0 : Int32) &&& 31)).toInt8.toInt32)) (nar .byte ((c0 >>> ((8 : Int32) &&& 31)).toInt8.toInt32))) from (by rw [own_gc_back c0 hr_c0]; exact hbig385))).2.2.1 (by decide) (by decide) ?_
      show own_S p e below T397 (mkF m 54 #[.val (.ref a0), .val (.int 0), .val (.int 3), .val (.ref b379), .val (.int 0), .val (.ref r390)] []) _
      refine XS.aload X397.here hx rfl (hb hby d16_54) rfl rfl ?_
      show own_S p e below T397 (mkF m 56 #[.val (.ref a0), .val (.int 0), .val (.int 3), .val (.ref b379), .val (.int 0), .val (.ref r390)] [(.ref r390)]) _
      exact Jvm.RoadKit.retOut X397 hx Bd.returns rfl (Or.inr (Or.inr (Or.inr (Or.inr ⟨rfl, rfl, rfl⟩)))) (hb hby d16_56) hr
    · show Q16_s3 Z a0 kc c0 c1 c2 h0 n0 _ T397.heap _
      rw [e397]
      exact ⟨r390, kr390, (6 : Int32), _, rfl, N397, kp395, ge_r390, gs_r390, Vr390, Or.inr ⟨rfl, rfl⟩⟩
  · obtain ⟨rfl, N385q, K385, hbig385⟩ := q385
    have N385 := Fr.app N0 N385q
    have x398 := x381.keep K385 (ninS ne380 nin0)
    have x399 := x382.keep K385 (allS ge_b379 all0)
    have sz400 : n0 ≤ T385.heap.size := Nat.le_trans sz383 K385.1
    have kp401 : Keep h0 T385.heap [] := kp384.trans K385 (allS (Or.inr gs_b379) all0)
    obtain ⟨_, _, ⟨T402, L402, k402, n402⟩, -, X402, ⟨Lc402, hQ402, l402, y402, z402⟩, st402⟩ := Jvm.LawKit.callS X385 hx (y := (⟨"java/lang/StringUTF16", "toBytes", "([CII)[B"⟩ : MethodName)) hown (mvT hZ (own_wk hw 117 rfl)) (mvT hZ (own_wk hw 118 rfl)) (mvT hZ (own_wk hw 77 rfl)) (mvT hZ (own_wk hw 119 rfl)) (by decide) (backOf (W := 0) (rm27_s3 l Z ag hw [] a0 kc c0 c1 c2 T385.heap n0 sz400 x398 hr_c0 hr_c1 hr_c2 x399 S_ad S_hi S_lo) hZ (own_wk hw 119 rfl) (own_wk hw 77 rfl) (by decide) (by decide)) (g := (mkF m 23 #[.val (.ref a0), .val (.int 0), .val (.int 3), .val (.ref b379), .val (.int 1), .unset] [.int 3, .int 0, (.ref a0)])) rfl (by rw [hml]; rfl) (argsL := [(.ref a0), (.int (0 : Int32)), (.int (3 : Int32))]) (rest := []) (lenOf pd_23 rfl) rfl (by show 2 * 0 + _ ≤ _; exact Nat.le_of_eq rfl) (hb hby d16_23) (fun _ _ => ⟨rfl, rfl, (by decide : 1 + 1 ≤ _), (by decide : 3 + 8 ≤ _)⟩)
    dsimp only [Pt.U, Pt.locs, Pt.cells, Pt.slots] at X402 l402 y402 z402 st402 hQ402
    subst l402 y402 z402
    obtain ⟨r402, kr402, rfl, N402q, K402, ge_r402, gq_r402, Vr402⟩ := hQ402
    have N402 := Fr.app N385 N402q
    have ne403 : a0 ≠ r402 := Nat.ne_of_lt (Nat.lt_of_lt_of_le x398.lt gq_r402)
    have gs_r402 : h0.size ≤ r402 := Nat.le_trans kp401.1 gq_r402
    have x404 := x398.keep K402 nin0
    have x405 := x399.keep K402 all0
    have sz406 : n0 ≤ T402.heap.size := Nat.le_trans sz400 K402.1
    have kp407 : Keep h0 T402.heap [] := kp401.trans K402 all0
    have cp408 : ∀ target, own_S p e below T402 (mkF m 32 #[.val (.ref a0), .val (.int 0), .val (.int 3), .val (.ref b379), .val (.int 1), .val (.ref r402)] [.int 1, (.ref r402)]) target → own_S p e below s₁ (mkF m 0 #[.val (.ref a0), .val (.int 0), .val (.int 3), .unset, .unset, .unset] []) target := by
      intro target kt
      show own_S p e below s₁ (mkF m 0 #[.val (.ref a0), .val (.int 0), .val (.int 3), .unset, .unset, .unset] []) _
      refine XS.iloadN X0.here hx rfl (hb hby d16_0) rfl ?_
      show own_S p e below s₁ (mkF m 1 #[.val (.ref a0), .val (.int 0), .val (.int 3), .unset, .unset, .unset] [.int 3]) _
      refine st379 _ ?_
      show own_S p e below T379 (mkF m 3 #[.val (.ref a0), .val (.int 0), .val (.int 3), .unset, .unset, .unset] [(.ref b379)]) _
      refine XS.astoreN X379.here hx rfl (hb hby d16_3) rfl rfl (l' := #[.val (.ref a0), .val (.int 0), .val (.int 3), .val (.ref b379), .unset, .unset]) rfl ?_
      show own_S p e below T379 (mkF m 4 #[.val (.ref a0), .val (.int 0), .val (.int 3), .val (.ref b379), .unset, .unset] []) _
      refine XS.aloadN X379.here hx rfl (hb hby d16_4) rfl rfl ?_
      refine XS.iloadN X379.here hx rfl (hb hby d16_5) rfl ?_
      refine XS.aloadN X379.here hx rfl (hb hby d16_6) rfl rfl ?_
      refine XS.iconst X379.here hx rfl (hb hby d16_7) ?_
      refine XS.iloadN X379.here hx rfl (hb hby d16_8) rfl ?_
      show own_S p e below T379 (mkF m 9 #[.val (.ref a0), .val (.int 0), .val (.int 3), .val (.ref b379), .unset, .unset] [.int 3, .int 0, (.ref b379), .int 0, (.ref a0)]) _
      refine st385 _ ?_
      show own_S p e below T385 (mkF m 12 #[.val (.ref a0), .val (.int 0), .val (.int 3), .val (.ref b379), .unset, .unset] [.int 1]) _
      refine XS.istore X385.here hx rfl (hb hby d16_12) rfl (l' := #[.val (.ref a0), .val (.int 0), .val (.int 3), .val (.ref b379), .val (.int 1), .unset]) rfl ?_
      show own_S p e below T385 (mkF m 14 #[.val (.ref a0), .val (.int 0), .val (.int 3), .val (.ref b379), .val (.int 1), .unset] []) _
      refine XS.iload X385.here hx rfl (hb hby d16_14) rfl ?_
      refine XS.iloadN X385.here hx rfl (hb hby d16_16) rfl ?_
      refine XS.icmpNo X385.here hx rfl (hb hby d16_17) rfl (feq (by decide : ¬ ((1 : Int32) = (3 : Int32)))).1 ?_
      show own_S p e below T385 (mkF m 20 #[.val (.ref a0), .val (.int 0), .val (.int 3), .val (.ref b379), .val (.int 1), .unset] []) _
      refine XS.aloadN X385.here hx rfl (hb hby d16_20) rfl rfl ?_
      refine XS.iloadN X385.here hx rfl (hb hby d16_21) rfl ?_
      refine XS.iloadN X385.here hx rfl (hb hby d16_22) rfl ?_
      show own_S p e below T385 (mkF m 23 #[.val (.ref a0), .val (.int 0), .val (.int 3), .val (.ref b379), .val (.int 1), .unset] [.int 3, .int 0, (.ref a0)]) _
      refine st402 _ ?_
      show own_S p e below T402 (mkF m 26 #[.val (.ref a0), .val (.int 0), .val (.int 3), .val (.ref b379), .val (.int 1), .unset] [(.ref r402)]) _
      refine XS.astore X402.here hx rfl (hb hby d16_26) rfl rfl (l' := #[.val (.ref a0), .val (.int 0), .val (.int 3), .val (.ref b379), .val (.int 1), .val (.ref r402)]) rfl ?_
      show own_S p e below T402 (mkF m 28 #[.val (.ref a0), .val (.int 0), .val (.int 3), .val (.ref b379), .val (.int 1), .val (.ref r402)] []) _
      refine XS.aload X402.here hx rfl (hb hby d16_28) rfl rfl ?_
      refine XS.iload X402.here hx rfl (hb hby d16_30) rfl ?_
      exact kt
    obtain ⟨_, _, ⟨T409, L409, k409, n409⟩, -, X409, ⟨Lc409, hQ409, l409, y409, z409⟩, st409⟩ := Jvm.LawKit.callS X402 hx (y := (⟨"java/lang/StringUTF16", "getChar", "([BI)C"⟩ : MethodName)) hown (mvT hZ (own_wk hw 133 rfl)) (mvT hZ (own_wk hw 134 rfl)) (mvT hZ (own_wk hw 77 rfl)) (mvT hZ (own_wk hw 135 rfl)) (by decide) (backOf (W := 0) (rm31 l Z ag hw [] r402 (1 : Int32) kr402 (6 : Int32) [(.int (nar .byte ((c0 >>> ((0 : Int32) &&& 31)).toInt8.toInt32))), (.int (nar .byte ((c0 >>> ((8 : Int32) &&& 31)).toInt8.toInt32))), (.int (nar .byte ((c1 >>> ((0 : Int32) &&& 31)).toInt8.toInt32))), (.int (nar .byte ((c1 >>> ((8 : Int32) &&& 31)).toInt8.toInt32))), (.int (nar .byte ((c2 >>> ((0 : Int32) &&& 31)).toInt8.toInt32))), (.int (nar .byte ((c2 >>> ((8 : Int32) &&& 31)).toInt8.toInt32)))] (nar .byte ((c1 >>> ((0 : Int32) &&& 31)).toInt8.toInt32)) (nar .byte ((c1 >>> ((8 : Int32) &&& 31)).toInt8.toInt32)) T402.heap n0 sz406 Vr402 (by decide) (by decide) rfl rfl x405 S_ad S_hi S_lo) hZ (own_wk hw 135 rfl) (own_wk hw 77 rfl) (by decide) (by decide)) (g := (mkF m 32 #[.val (.ref a0), .val (.int 0), .val (.int 3), .val (.ref b379), .val (.int 1), .val (.ref r402)] [.int 1, (.ref r402)])) rfl (by rw [hml]; rfl) (argsL := [(.ref r402), (.int (1 : Int32))]) (rest := []) (lenOf pd_19 rfl) rfl (by show 2 * 0 + _ ≤ _; exact Nat.le_of_eq rfl) (hb hby d16_32) (fun _ _ => ⟨rfl, rfl, (by decide : 2 + 0 ≤ _), (by decide : 11 + 0 ≤ _)⟩)
    dsimp only [Pt.U, Pt.locs, Pt.cells, Pt.slots] at X409 l409 y409 z409 st409 hQ409
    subst l409 y409 z409
    obtain ⟨rfl, N409q, e409⟩ := hQ409
    have N409 := Fr.app N402 N409q
    obtain ⟨fs, hr, hrun, hended, hW, hsame⟩ := X409.leave (v := some (.ref r402)) (fun h => by rw [Bd.returns] at h; cases h)
    refine ⟨_, _, pre0 _ ?_, hrun, hended, _, _, rfl, ?_, ⟨_, rfl⟩, hW, hsame.mono (by decide) (by decide)⟩
    · show own_S p e below s₁ (mkF m 0 #[.val (.ref a0), .val (.int 0), .val (.int 3), .unset, .unset, .unset] []) _
      refine cp408 _ ?_
      show own_S p e below T402 (mkF m 32 #[.val (.ref a0), .val (.int 0), .val (.int 3), .val (.ref b379), .val (.int 1), .val (.ref r402)] [.int 1, (.ref r402)]) _
      refine st409 _ ?_
      show own_S p e below T409 (mkF m 35 #[.val (.ref a0), .val (.int 0), .val (.int 3), .val (.ref b379), .val (.int 1), .val (.ref r402)] [(.int (own_gc (nar .byte ((c1 >>> ((0 : Int32) &&& 31)).toInt8.toInt32)) (nar .byte ((c1 >>> ((8 : Int32) &&& 31)).toInt8.toInt32))))]) _
      refine XS.sipush X409.here hx rfl (hb hby d16_35) ?_
      refine XS.icmpYes X409.here hx rfl (pc0 := 38) (pc' := 54) rfl (hb hby d16_38) rfl (tlt (show (255 : Int32) < (own_gc (nar .byte ((c1 >>> ((0 : Int32) &&& 31)).toInt8.toInt32)) (nar .byte ((c1 >>> ((8 : Int32) &&& 31)).toInt8.toInt32))) from (by rw [own_gc_back c1 hr_c1]; exact hbig385))).2.2.1 (by decide) (by decide) ?_
      show own_S p e below T409 (mkF m 54 #[.val (.ref a0), .val (.int 0), .val (.int 3), .val (.ref b379), .val (.int 1), .val (.ref r402)] []) _
      refine XS.aload X409.here hx rfl (hb hby d16_54) rfl rfl ?_
      show own_S p e below T409 (mkF m 56 #[.val (.ref a0), .val (.int 0), .val (.int 3), .val (.ref b379), .val (.int 1), .val (.ref r402)] [(.ref r402)]) _
      exact Jvm.RoadKit.retOut X409 hx Bd.returns rfl (Or.inr (Or.inr (Or.inr (Or.inr ⟨rfl, rfl, rfl⟩)))) (hb hby d16_56) hr
    · show Q16_s3 Z a0 kc c0 c1 c2 h0 n0 _ T409.heap _
      rw [e409]
      exact ⟨r402, kr402, (6 : Int32), _, rfl, N409, kp407, ge_r402, gs_r402, Vr402, Or.inr ⟨rfl, rfl⟩⟩
  · obtain ⟨rfl, N385q, K385, hbig385⟩ := q385
    have N385 := Fr.app N0 N385q
    have x410 := x381.keep K385 (ninS ne380 nin0)
    have x411 := x382.keep K385 (allS ge_b379 all0)
    have sz412 : n0 ≤ T385.heap.size := Nat.le_trans sz383 K385.1
    have kp413 : Keep h0 T385.heap [] := kp384.trans K385 (allS (Or.inr gs_b379) all0)
    obtain ⟨_, _, ⟨T414, L414, k414, n414⟩, -, X414, ⟨Lc414, hQ414, l414, y414, z414⟩, st414⟩ := Jvm.LawKit.callS X385 hx (y := (⟨"java/lang/StringUTF16", "toBytes", "([CII)[B"⟩ : MethodName)) hown (mvT hZ (own_wk hw 117 rfl)) (mvT hZ (own_wk hw 118 rfl)) (mvT hZ (own_wk hw 77 rfl)) (mvT hZ (own_wk hw 119 rfl)) (by decide) (backOf (W := 0) (rm27_s3 l Z ag hw [] a0 kc c0 c1 c2 T385.heap n0 sz412 x410 hr_c0 hr_c1 hr_c2 x411 S_ad S_hi S_lo) hZ (own_wk hw 119 rfl) (own_wk hw 77 rfl) (by decide) (by decide)) (g := (mkF m 23 #[.val (.ref a0), .val (.int 0), .val (.int 3), .val (.ref b379), .val (.int 2), .unset] [.int 3, .int 0, (.ref a0)])) rfl (by rw [hml]; rfl) (argsL := [(.ref a0), (.int (0 : Int32)), (.int (3 : Int32))]) (rest := []) (lenOf pd_23 rfl) rfl (by show 2 * 0 + _ ≤ _; exact Nat.le_of_eq rfl) (hb hby d16_23) (fun _ _ => ⟨rfl, rfl, (by decide : 1 + 1 ≤ _), (by decide : 3 + 8 ≤ _)⟩)
    dsimp only [Pt.U, Pt.locs, Pt.cells, Pt.slots] at X414 l414 y414 z414 st414 hQ414
    subst l414 y414 z414
    obtain ⟨r414, kr414, rfl, N414q, K414, ge_r414, gq_r414, Vr414⟩ := hQ414
    have N414 := Fr.app N385 N414q
    have ne415 : a0 ≠ r414 := Nat.ne_of_lt (Nat.lt_of_lt_of_le x410.lt gq_r414)
    have gs_r414 : h0.size ≤ r414 := Nat.le_trans kp413.1 gq_r414
    have x416 := x410.keep K414 nin0
    have x417 := x411.keep K414 all0
    have sz418 : n0 ≤ T414.heap.size := Nat.le_trans sz412 K414.1
    have kp419 : Keep h0 T414.heap [] := kp413.trans K414 all0
    have cp420 : ∀ target, own_S p e below T414 (mkF m 32 #[.val (.ref a0), .val (.int 0), .val (.int 3), .val (.ref b379), .val (.int 2), .val (.ref r414)] [.int 2, (.ref r414)]) target → own_S p e below s₁ (mkF m 0 #[.val (.ref a0), .val (.int 0), .val (.int 3), .unset, .unset, .unset] []) target := by
      intro target kt
      show own_S p e below s₁ (mkF m 0 #[.val (.ref a0), .val (.int 0), .val (.int 3), .unset, .unset, .unset] []) _
      refine XS.iloadN X0.here hx rfl (hb hby d16_0) rfl ?_
      show own_S p e below s₁ (mkF m 1 #[.val (.ref a0), .val (.int 0), .val (.int 3), .unset, .unset, .unset] [.int 3]) _
      refine st379 _ ?_
      show own_S p e below T379 (mkF m 3 #[.val (.ref a0), .val (.int 0), .val (.int 3), .unset, .unset, .unset] [(.ref b379)]) _
      refine XS.astoreN X379.here hx rfl (hb hby d16_3) rfl rfl (l' := #[.val (.ref a0), .val (.int 0), .val (.int 3), .val (.ref b379), .unset, .unset]) rfl ?_
      show own_S p e below T379 (mkF m 4 #[.val (.ref a0), .val (.int 0), .val (.int 3), .val (.ref b379), .unset, .unset] []) _
      refine XS.aloadN X379.here hx rfl (hb hby d16_4) rfl rfl ?_
      refine XS.iloadN X379.here hx rfl (hb hby d16_5) rfl ?_
      refine XS.aloadN X379.here hx rfl (hb hby d16_6) rfl rfl ?_
      refine XS.iconst X379.here hx rfl (hb hby d16_7) ?_
      refine XS.iloadN X379.here hx rfl (hb hby d16_8) rfl ?_
      show own_S p e below T379 (mkF m 9 #[.val (.ref a0), .val (.int 0), .val (.int 3), .val (.ref b379), .unset, .unset] [.int 3, .int 0, (.ref b379), .int 0, (.ref a0)]) _
      refine st385 _ ?_
      show own_S p e below T385 (mkF m 12 #[.val (.ref a0), .val (.int 0), .val (.int 3), .val (.ref b379), .unset, .unset] [.int 2]) _
      refine XS.istore X385.here hx rfl (hb hby d16_12) rfl (l' := #[.val (.ref a0), .val (.int 0), .val (.int 3), .val (.ref b379), .val (.int 2), .unset]) rfl ?_
      show own_S p e below T385 (mkF m 14 #[.val (.ref a0), .val (.int 0), .val (.int 3), .val (.ref b379), .val (.int 2), .unset] []) _
      refine XS.iload X385.here hx rfl (hb hby d16_14) rfl ?_
      refine XS.iloadN X385.here hx rfl (hb hby d16_16) rfl ?_
      refine XS.icmpNo X385.here hx rfl (hb hby d16_17) rfl (feq (by decide : ¬ ((2 : Int32) = (3 : Int32)))).1 ?_
      show own_S p e below T385 (mkF m 20 #[.val (.ref a0), .val (.int 0), .val (.int 3), .val (.ref b379), .val (.int 2), .unset] []) _
      refine XS.aloadN X385.here hx rfl (hb hby d16_20) rfl rfl ?_
      refine XS.iloadN X385.here hx rfl (hb hby d16_21) rfl ?_
      refine XS.iloadN X385.here hx rfl (hb hby d16_22) rfl ?_
      show own_S p e below T385 (mkF m 23 #[.val (.ref a0), .val (.int 0), .val (.int 3), .val (.ref b379), .val (.int 2), .unset] [.int 3, .int 0, (.ref a0)]) _
      refine st414 _ ?_
      show own_S p e below T414 (mkF m 26 #[.val (.ref a0), .val (.int 0), .val (.int 3), .val (.ref b379), .val (.int 2), .unset] [(.ref r414)]) _
      refine XS.astore X414.here hx rfl (hb hby d16_26) rfl rfl (l' := #[.val (.ref a0), .val (.int 0), .val (.int 3), .val (.ref b379), .val (.int 2), .val (.ref r414)]) rfl ?_
      show own_S p e below T414 (mkF m 28 #[.val (.ref a0), .val (.int 0), .val (.int 3), .val (.ref b379), .val (.int 2), .val (.ref r414)] []) _
      refine XS.aload X414.here hx rfl (hb hby d16_28) rfl rfl ?_
      refine XS.iload X414.here hx rfl (hb hby d16_30) rfl ?_
      exact kt
    obtain ⟨_, _, ⟨T421, L421, k421, n421⟩, -, X421, ⟨Lc421, hQ421, l421, y421, z421⟩, st421⟩ := Jvm.LawKit.callS X414 hx (y := (⟨"java/lang/StringUTF16", "getChar", "([BI)C"⟩ : MethodName)) hown (mvT hZ (own_wk hw 133 rfl)) (mvT hZ (own_wk hw 134 rfl)) (mvT hZ (own_wk hw 77 rfl)) (mvT hZ (own_wk hw 135 rfl)) (by decide) (backOf (W := 0) (rm31 l Z ag hw [] r414 (2 : Int32) kr414 (6 : Int32) [(.int (nar .byte ((c0 >>> ((0 : Int32) &&& 31)).toInt8.toInt32))), (.int (nar .byte ((c0 >>> ((8 : Int32) &&& 31)).toInt8.toInt32))), (.int (nar .byte ((c1 >>> ((0 : Int32) &&& 31)).toInt8.toInt32))), (.int (nar .byte ((c1 >>> ((8 : Int32) &&& 31)).toInt8.toInt32))), (.int (nar .byte ((c2 >>> ((0 : Int32) &&& 31)).toInt8.toInt32))), (.int (nar .byte ((c2 >>> ((8 : Int32) &&& 31)).toInt8.toInt32)))] (nar .byte ((c2 >>> ((0 : Int32) &&& 31)).toInt8.toInt32)) (nar .byte ((c2 >>> ((8 : Int32) &&& 31)).toInt8.toInt32)) T414.heap n0 sz418 Vr414 (by decide) (by decide) rfl rfl x417 S_ad S_hi S_lo) hZ (own_wk hw 135 rfl) (own_wk hw 77 rfl) (by decide) (by decide)) (g := (mkF m 32 #[.val (.ref a0), .val (.int 0), .val (.int 3), .val (.ref b379), .val (.int 2), .val (.ref r414)] [.int 2, (.ref r414)])) rfl (by rw [hml]; rfl) (argsL := [(.ref r414), (.int (2 : Int32))]) (rest := []) (lenOf pd_19 rfl) rfl (by show 2 * 0 + _ ≤ _; exact Nat.le_of_eq rfl) (hb hby d16_32) (fun _ _ => ⟨rfl, rfl, (by decide : 2 + 0 ≤ _), (by decide : 11 + 0 ≤ _)⟩)
    dsimp only [Pt.U, Pt.locs, Pt.cells, Pt.slots] at X421 l421 y421 z421 st421 hQ421
    subst l421 y421 z421
    obtain ⟨rfl, N421q, e421⟩ := hQ421
    have N421 := Fr.app N414 N421q
    obtain ⟨fs, hr, hrun, hended, hW, hsame⟩ := X421.leave (v := some (.ref r414)) (fun h => by rw [Bd.returns] at h; cases h)
    refine ⟨_, _, pre0 _ ?_, hrun, hended, _, _, rfl, ?_, ⟨_, rfl⟩, hW, hsame.mono (by decide) (by decide)⟩
    · show own_S p e below s₁ (mkF m 0 #[.val (.ref a0), .val (.int 0), .val (.int 3), .unset, .unset, .unset] []) _
      refine cp420 _ ?_
      show own_S p e below T414 (mkF m 32 #[.val (.ref a0), .val (.int 0), .val (.int 3), .val (.ref b379), .val (.int 2), .val (.ref r414)] [.int 2, (.ref r414)]) _
      refine st421 _ ?_
      show own_S p e below T421 (mkF m 35 #[.val (.ref a0), .val (.int 0), .val (.int 3), .val (.ref b379), .val (.int 2), .val (.ref r414)] [(.int (own_gc (nar .byte ((c2 >>> ((0 : Int32) &&& 31)).toInt8.toInt32)) (nar .byte ((c2 >>> ((8 : Int32) &&& 31)).toInt8.toInt32))))]) _
      refine XS.sipush X421.here hx rfl (hb hby d16_35) ?_
      refine XS.icmpYes X421.here hx rfl (pc0 := 38) (pc' := 54) rfl (hb hby d16_38) rfl (tlt (show (255 : Int32) < (own_gc (nar .byte ((c2 >>> ((0 : Int32) &&& 31)).toInt8.toInt32)) (nar .byte ((c2 >>> ((8 : Int32) &&& 31)).toInt8.toInt32))) from (by rw [own_gc_back c2 hr_c2]; exact hbig385))).2.2.1 (by decide) (by decide) ?_
      show own_S p e below T421 (mkF m 54 #[.val (.ref a0), .val (.int 0), .val (.int 3), .val (.ref b379), .val (.int 2), .val (.ref r414)] []) _
      refine XS.aload X421.here hx rfl (hb hby d16_54) rfl rfl ?_
      show own_S p e below T421 (mkF m 56 #[.val (.ref a0), .val (.int 0), .val (.int 3), .val (.ref b379), .val (.int 2), .val (.ref r414)] [(.ref r414)]) _
      exact Jvm.RoadKit.retOut X421 hx Bd.returns rfl (Or.inr (Or.inr (Or.inr (Or.inr ⟨rfl, rfl, rfl⟩)))) (hb hby d16_56) hr
    · show Q16_s3 Z a0 kc c0 c1 c2 h0 n0 _ T421.heap _
      rw [e421]
      exact ⟨r414, kr414, (6 : Int32), _, rfl, N421, kp419, ge_r414, gs_r414, Vr414, Or.inr ⟨rfl, rfl⟩⟩
  · obtain ⟨rfl, N385q, K385, Vb385, hl385_0, hl385_1, hl385_2⟩ := q385
    have N385 := Fr.app N0 N385q
    have x422 := x381.keep K385 (ninS ne380 nin0)
    have x423 := x382.keep K385 (allS ge_b379 all0)
    have sz424 : n0 ≤ T385.heap.size := Nat.le_trans sz383 K385.1
    have kp425 : Keep h0 T385.heap [] := kp384.trans K385 (allS (Or.inr gs_b379) all0)
    obtain ⟨fs, hr, hrun, hended, hW, hsame⟩ := X385.leave (v := some (.ref b379)) (fun h => by rw [Bd.returns] at h; cases h)
    refine ⟨_, _, pre0 _ ?_, hrun, hended, _, _, rfl, ?_, ⟨_, rfl⟩, hW, hsame.mono (by decide) (by decide)⟩
    · show own_S p e below s₁ (mkF m 0 #[.val (.ref a0), .val (.int 0), .val (.int 3), .unset, .unset, .unset] []) _
      refine XS.iloadN X0.here hx rfl (hb hby d16_0) rfl ?_
      show own_S p e below s₁ (mkF m 1 #[.val (.ref a0), .val (.int 0), .val (.int 3), .unset, .unset, .unset] [.int 3]) _
      refine st379 _ ?_
      show own_S p e below T379 (mkF m 3 #[.val (.ref a0), .val (.int 0), .val (.int 3), .unset, .unset, .unset] [(.ref b379)]) _
      refine XS.astoreN X379.here hx rfl (hb hby d16_3) rfl rfl (l' := #[.val (.ref a0), .val (.int 0), .val (.int 3), .val (.ref b379), .unset, .unset]) rfl ?_
      show own_S p e below T379 (mkF m 4 #[.val (.ref a0), .val (.int 0), .val (.int 3), .val (.ref b379), .unset, .unset] []) _
      refine XS.aloadN X379.here hx rfl (hb hby d16_4) rfl rfl ?_
      refine XS.iloadN X379.here hx rfl (hb hby d16_5) rfl ?_
      refine XS.aloadN X379.here hx rfl (hb hby d16_6) rfl rfl ?_
      refine XS.iconst X379.here hx rfl (hb hby d16_7) ?_
      refine XS.iloadN X379.here hx rfl (hb hby d16_8) rfl ?_
      show own_S p e below T379 (mkF m 9 #[.val (.ref a0), .val (.int 0), .val (.int 3), .val (.ref b379), .unset, .unset] [.int 3, .int 0, (.ref b379), .int 0, (.ref a0)]) _
      refine st385 _ ?_
      show own_S p e below T385 (mkF m 12 #[.val (.ref a0), .val (.int 0), .val (.int 3), .val (.ref b379), .unset, .unset] [.int 3]) _
      refine XS.istore X385.here hx rfl (hb hby d16_12) rfl (l' := #[.val (.ref a0), .val (.int 0), .val (.int 3), .val (.ref b379), .val (.int 3), .unset]) rfl ?_
      show own_S p e below T385 (mkF m 14 #[.val (.ref a0), .val (.int 0), .val (.int 3), .val (.ref b379), .val (.int 3), .unset] []) _
      refine XS.iload X385.here hx rfl (hb hby d16_14) rfl ?_
      refine XS.iloadN X385.here hx rfl (hb hby d16_16) rfl ?_
      refine XS.icmpYes X385.here hx rfl (pc0 := 17) (pc' := 57) rfl (hb hby d16_17) rfl (teq (by decide : (3 : Int32) = (3 : Int32))).1 (by decide) (by decide) ?_
      show own_S p e below T385 (mkF m 57 #[.val (.ref a0), .val (.int 0), .val (.int 3), .val (.ref b379), .val (.int 3), .unset] []) _
      refine XS.aloadN X385.here hx rfl (hb hby d16_57) rfl rfl ?_
      show own_S p e below T385 (mkF m 58 #[.val (.ref a0), .val (.int 0), .val (.int 3), .val (.ref b379), .val (.int 3), .unset] [(.ref b379)]) _
      exact Jvm.RoadKit.retOut X385 hx Bd.returns rfl (Or.inr (Or.inr (Or.inr (Or.inr ⟨rfl, rfl, rfl⟩)))) (hb hby d16_58) hr
    · show Q16_s3 Z a0 kc c0 c1 c2 h0 n0 _ T385.heap _
      exact ⟨b379, k379, (3 : Int32), _, rfl, N385, kp425, ge_b379, gs_b379, Vb385, Or.inl ⟨rfl, rfl, hl385_0, hl385_1, hl385_2⟩⟩
theorem ef_9_vv03n (m : MethodId) (a0 : Addr) (a1 : Addr) : entryFrame m #[(.ref a0), (.ref a1), (.int (0 : Int32)), (.int (3 : Int32)), .null] 6 = mkF m 0 #[.val (.ref a0), .val (.ref a1), .val (.int 0), .val (.int 3), .val .null, .unset] [] := by first | (simp [entryFrame, mkF, argsToLocals, Value.category]; done) | rfl
def Q9_s3 (Z : State) (a0 : Addr) (a1 : Addr) (kc : ClassId) (c0 : Int32) (c1 : Int32) (c2 : Int32) (cs : Int32) (h0 : Heap) (n0 : Nat) (v : Option Value) (h : Heap) (L : List Loc) : Prop := v = none ∧ Fr n0 L ∧ Keep h0 h [a0] ∧ own_str Z h a0 [c0, c1, c2]
set_option maxRecDepth 65536 in
set_option maxHeartbeats 40000000 in
theorem rm9_s3 (l : Launch) (Z : State) (ag : Array Value) (hw : ∀ d ∈ tables_1, d.before ag Z = true) (ws : List Jvm.Cond) (a0 : Addr) (a1 : Addr) (kc : ClassId) (c0 : Int32) (c1 : Int32) (c2 : Int32) (cs : Int32) (h0 : Heap) (n0 : Nat) (Z0 : n0 ≤ h0.size) (E_a0 : Exa Z h0 a0 "java/lang/String") (F_value_a0 : Fld Z h0 a0 "java/lang/String" "value" "[B" .null) (F_coder_a0 : Fld Z h0 a0 "java/lang/String" "coder" "B" (.int (0 : Int32))) (ge_a0 : n0 ≤ a0) (ne_a0_a1 : a0 ≠ a1) (O_ : Old Z n0 h0) (S_cs : Sta Z Z.heap "java/lang/String" "COMPACT_STRINGS" "Z" (.int cs)) (hcs : ¬ cs = (0 : Int32)) (S_ad : Sta Z Z.heap "java/lang/StringUTF16" "$assertionsDisabled" "Z" (.int (1 : Int32))) (S_hi : Sta Z Z.heap "java/lang/StringUTF16" "HI_BYTE_SHIFT" "I" (.int (0 : Int32))) (S_lo : Sta Z Z.heap "java/lang/StringUTF16" "LO_BYTE_SHIFT" "I" (.int (8 : Int32))) (V_a1 : Arv Z h0 a1 kc .char (3 : Int32) [(.int c0), (.int c1), (.int c2)] (.int (0 : Int32))) (hr_c0 : 0 ≤ c0.toInt ∧ c0.toInt < 65536) (hr_c1 : 0 ≤ c1.toInt ∧ c1.toInt < 65536) (hr_c2 : 0 ≤ c2.toInt ∧ c2.toInt < 65536) :
    MetFree l (⟨"java/lang/String", "<init>", "([CIILjava/lang/Void;)V"⟩ : MethodName) (head1 (Jvm.Cond.code (⟨"java/lang/String", "<init>", "([CIILjava/lang/Void;)V"⟩ : MethodName) jdk_42_method_149_code 6 none :: ws) ({ frames := 4, cells := 2, slots := 11, locals := 57 } : Room)) (fun a U => a = #[(.ref a0), (.ref a1), (.int (0 : Int32)), (.int (3 : Int32)), .null] ∧ Z.Warmed39 U.vm ∧ U.heap = h0) (fun _ _ _ _ _ => True) (fun _ U o U' => ∃ v L, o = .returned v ∧ Q9_s3 Z a0 a1 kc c0 c1 c2 cs h0 n0 v U'.heap L ∧ FrameEnd U o U' L ({ frames := 4, cells := 2, slots := 11, locals := 57 } : Room).cells ({ frames := 4, cells := 2, slots := 11, locals := 57 } : Room).slots) := by
  refine MetFree.of_bodySF (plainFor_of_name pn_4) hisR ?_
  intro p e s m args below meth c s₁ Bd hml0 hP hK
  obtain ⟨rfl, hZ, hh⟩ := hP
  have hx := Bd.exec
  have hby := Bd.bytes
  have hml : c.maxLocals = 6 := hml0
  have hown : s.vm.findClass "java/lang/String" = some m.cls := findClass_of_methodNamed Bd.named
  have hnm := (name_of_methodNamed Bd.named Bd.method).1
  have X0 : Stand p l e ({ frames := 4, cells := 2, slots := 11, locals := 57 } : Room) s m #[(.ref a0), (.ref a1), (.int (0 : Int32)), (.int (3 : Int32)), .null] below meth c s₁ [] 0 0 := Stand.of_body Bd
  have e0 : s₁.heap = h0 := by rw [← hh, Bd.state]; rfl
  have N0 := Fr.nil n0
  have pre0 : ∀ t, Steps p.tables e below (s₁.setTop (mkF m 0 #[.val (.ref a0), .val (.ref a1), .val (.int 0), .val (.int 3), .val .null, .unset] [])) t → Steps p.tables e below (s₁.setTop (entryFrame m #[(.ref a0), (.ref a1), (.int (0 : Int32)), (.int (3 : Int32)), .null] 6)) t := fun t k => castTop (ef_9_vv03n m a0 a1) k
  obtain ⟨T426, X426, e426, st426⟩ := initO X0 hx hZ hown (own_wk hw 49 rfl) (own_wk hw 50 rfl) (own_wk hw 51 rfl) e0 (g := (mkF m 1 #[.val (.ref a0), .val (.ref a1), .val (.int 0), .val (.int 3), .val .null, .unset] [(.ref a0)])) rfl (by rw [hml]; rfl) rfl (hb hby d9_1) (by decide) (W := 0) (by show 2 * 0 + _ ≤ _; exact Nat.le_of_eq rfl) (by decide)
  obtain ⟨T427, X427, e427, st427⟩ := getS2 X426 hx hZ hown (host := "") (Or.inl (own_wk hw 22 rfl)) Via.refl e426 (Sta.ext O_.2 S_cs) (g := (mkF m 27 #[.val (.ref a0), .val (.ref a1), .val (.int 0), .val (.int 3), .val .null, .unset] [])) rfl (hb hby d9_27)
  obtain ⟨_, _, ⟨T428, L428, k428, n428⟩, -, X428, ⟨Lc428, hQ428, l428, y428, z428⟩, st428⟩ := Jvm.LawKit.callS X427 hx (y := (⟨"java/lang/StringUTF16", "compress", "([CII)[B"⟩ : MethodName)) hown (mvT hZ (own_wk hw 75 rfl)) (mvT hZ (own_wk hw 76 rfl)) (mvT hZ (own_wk hw 77 rfl)) (mvT hZ (own_wk hw 78 rfl)) (by decide) (backOf (W := 0) (rm16_s3 l Z ag hw [] a1 kc c0 c1 c2 h0 n0 Z0 V_a1 hr_c0 hr_c1 hr_c2 O_ S_ad S_hi S_lo) hZ (own_wk hw 78 rfl) (own_wk hw 77 rfl) (by decide) (by decide)) (g := (mkF m 36 #[.val (.ref a0), .val (.ref a1), .val (.int 0), .val (.int 3), .val .null, .unset] [.int 3, .int 0, (.ref a1)])) rfl (by rw [hml]; rfl) (argsL := [(.ref a1), (.int (0 : Int32)), (.int (3 : Int32))]) (rest := []) (lenOf pd_23 rfl) rfl (by show 2 * 0 + _ ≤ _; exact Nat.le_of_eq rfl) (hb hby d9_36) (fun _ _ => ⟨rfl, e427, (by decide : 0 + 2 ≤ _), (by decide : 0 + 11 ≤ _)⟩)
  dsimp only [Pt.U, Pt.locs, Pt.cells, Pt.slots] at X428 l428 y428 z428 st428 hQ428
  subst l428 y428 z428
  obtain ⟨r428, kr428, nb428, vs428, rfl, N428q, K428, ge_r428, gq_r428, Vr428, hQ428⟩ := hQ428
  rcases hQ428 with q428 | q428
  · obtain ⟨rfl, rfl, hl428_0, hl428_1, hl428_2⟩ := q428
    have N428 := Fr.app N0 N428q
    have ne429 : a0 ≠ r428 := Nat.ne_of_lt (Nat.lt_of_lt_of_le E_a0.lt gq_r428)
    have ne430 : a1 ≠ r428 := Nat.ne_of_lt (Nat.lt_of_lt_of_le V_a1.lt gq_r428)
    have gs_r428 : h0.size ≤ r428 := Nat.le_trans (Keep.refl h0 [a0]).1 gq_r428
    have x431 := E_a0.keep K428
    have x432 := F_value_a0.keep K428 nin0
    have x433 := F_coder_a0.keep K428 nin0
    have x434 := O_.keep K428 all0
    have x435 := V_a1.keep K428 nin0
    have sz436 : n0 ≤ T428.heap.size := Nat.le_trans Z0 K428.1
    have kp437 : Keep h0 T428.heap [a0] := (Keep.refl h0 [a0]).trans K428 all0
    obtain ⟨_, _, ⟨T438, L438, k438, n438⟩, -, X438, ⟨Lc438, hQ438, l438, y438, z438⟩, st438⟩ := Jvm.LawKit.callS X428 hx (y := (⟨"java/lang/StringUTF16", "coderFromArrayLen", "([BI)B"⟩ : MethodName)) hown (mvT hZ (own_wk hw 82 rfl)) (mvT hZ (own_wk hw 83 rfl)) (mvT hZ (own_wk hw 77 rfl)) (mvT hZ (own_wk hw 84 rfl)) (by decide) (backOf (W := 1) (rm18 l Z ag hw [] r428 (3 : Int32) kr428 (3 : Int32) [(.int (nar .byte (c0.toInt8.toInt32))), (.int (nar .byte (c1.toInt8.toInt32))), (.int (nar .byte (c2.toInt8.toInt32)))] (0 : Int32) T428.heap n0 sz436 Vr428 (by decide)) hZ (own_wk hw 84 rfl) (own_wk hw 77 rfl) (by decide) (by decide)) (g := (mkF m 45 #[.val (.ref a0), .val (.ref a1), .val (.int 0), .val (.int 3), .val .null, .val (.ref r428)] [.int 3, (.ref r428), (.ref a0)])) rfl (by rw [hml]; rfl) (argsL := [(.ref r428), (.int (3 : Int32))]) (rest := [(.ref a0)]) (lenOf pd_18 rfl) rfl (by show 2 * 0 + _ ≤ _; exact Nat.le_of_eq rfl) (hb hby d9_45) (fun _ _ => ⟨rfl, rfl, (by decide : 2 + 0 ≤ _), (by decide : 11 + 0 ≤ _)⟩)
    dsimp only [Pt.U, Pt.locs, Pt.cells, Pt.slots] at X438 l438 y438 z438 st438 hQ438
    subst l438 y438 z438
    obtain ⟨rfl, N438q, e438⟩ := hQ438
    have N438 := Fr.app N428 N438q
    obtain ⟨T439, h439, X439, e439, W439, st439⟩ := putFN X438 hx hZ hown (own_wk hw 23 rfl) Via.refl e438 x433 x431 (Or.inr ⟨(own_wk hw 9 rfl), rfl, hnm⟩) (own_wk hw 6 rfl) (ty := .byte) (v' := (.int (0 : Int32))) (by decide) rfl (fits_nar_byte (0 : Int32)) (g := (mkF m 48 #[.val (.ref a0), .val (.ref a1), .val (.int 0), .val (.int 3), .val .null, .val (.ref r428)] [.int 0, (.ref a0)])) rfl rfl (hb hby d9_48)
    have Fw439 := x433.same W439
    have x440 := x431.wr W439
    have x441 := x432.other W439 (Or.inr (slot_ne (Or.inr (own_wk hw 8 rfl)) (Or.inr (own_wk hw 9 rfl)) (by decide) (t := (.array .byte)) (t' := .byte) (by decide) (by decide)))
    have x442 := x434.wr W439 ge_a0
    have x443 := x435.other W439 (Ne.symm ne_a0_a1)
    have x444 := Vr428.other W439 (Ne.symm ne429)
    have sz445 : n0 ≤ h439.size := Nat.le_trans sz436 (Keep.of_wr W439).1
    have kp446 : Keep h0 h439 [a0] := kp437.wr W439 (Or.inl (List.mem_of_getElem? (i := 0) rfl))
    have N439 := Fr.snoc X439 N438 ge_a0
    obtain ⟨T447, h447, X447, e447, W447, st447⟩ := putF X439 hx hZ hown (host := "") (Or.inl (own_wk hw 24 rfl)) Via.refl e439 x441 x440 (Or.inr ⟨(own_wk hw 8 rfl), rfl, hnm⟩) (own_wk hw 6 rfl) (ty := (.array .byte)) (by decide) rfl rfl (g := (mkF m 54 #[.val (.ref a0), .val (.ref a1), .val (.int 0), .val (.int 3), .val .null, .val (.ref r428)] [(.ref r428), (.ref a0)])) rfl rfl (hb hby d9_54)
    have Fw447 := x441.same W447
    have x448 := x440.wr W447
    have x449 := x442.wr W447 ge_a0
    have x450 := x443.other W447 (Ne.symm ne_a0_a1)
    have x451 := x444.other W447 (Ne.symm ne429)
    have x452 := Fw439.other W447 (Or.inr (slot_ne (Or.inr (own_wk hw 9 rfl)) (Or.inr (own_wk hw 8 rfl)) (by decide) (t := .byte) (t' := (.array .byte)) (by decide) (by decide)))
    have sz453 : n0 ≤ h447.size := Nat.le_trans sz445 (Keep.of_wr W447).1
    have kp454 : Keep h0 h447 [a0] := kp446.wr W447 (Or.inl (List.mem_of_getElem? (i := 0) rfl))
    have N447 := Fr.snoc X447 N439 ge_a0
    obtain ⟨fs, hr, hrun, hended, hW, hsame⟩ := X447.leave (v := none) (fun _ => rfl)
    refine ⟨_, _, pre0 _ ?_, hrun, hended, _, _, rfl, ?_, ⟨_, rfl⟩, hW, hsame.mono (by decide) (by decide)⟩
    · show own_S p e below s₁ (mkF m 0 #[.val (.ref a0), .val (.ref a1), .val (.int 0), .val (.int 3), .val .null, .unset] []) _
      refine XS.aloadN X0.here hx rfl (hb hby d9_0) rfl rfl ?_
      show own_S p e below s₁ (mkF m 1 #[.val (.ref a0), .val (.ref a1), .val (.int 0), .val (.int 3), .val .null, .unset] [(.ref a0)]) _
      refine st426 _ ?_
      show own_S p e below T426 (mkF m 4 #[.val (.ref a0), .val (.ref a1), .val (.int 0), .val (.int 3), .val .null, .unset] []) _
      refine XS.iloadN X426.here hx rfl (hb hby d9_4) rfl ?_
      refine XS.ifYes X426.here hx rfl (pc0 := 5) (pc' := 27) rfl (hb hby d9_5) rfl ((if0 _ _).trans (feq (by decide : ¬ ((3 : Int32) = (0 : Int32)))).2) (by decide) (by decide) ?_
      show own_S p e below T426 (mkF m 27 #[.val (.ref a0), .val (.ref a1), .val (.int 0), .val (.int 3), .val .null, .unset] []) _
      refine st427 _ ?_
      show own_S p e below T427 (mkF m 30 #[.val (.ref a0), .val (.ref a1), .val (.int 0), .val (.int 3), .val .null, .unset] [(.int cs)]) _
      refine XS.ifNo X427.here hx rfl (hb hby d9_30) rfl ((if0 _ _).trans (feq (show ¬ (cs = (0 : Int32)) from hcs)).1) ?_
      show own_S p e below T427 (mkF m 33 #[.val (.ref a0), .val (.ref a1), .val (.int 0), .val (.int 3), .val .null, .unset] []) _
      refine XS.aloadN X427.here hx rfl (hb hby d9_33) rfl rfl ?_
      refine XS.iloadN X427.here hx rfl (hb hby d9_34) rfl ?_
      refine XS.iloadN X427.here hx rfl (hb hby d9_35) rfl ?_
      show own_S p e below T427 (mkF m 36 #[.val (.ref a0), .val (.ref a1), .val (.int 0), .val (.int 3), .val .null, .unset] [.int 3, .int 0, (.ref a1)]) _
      refine st428 _ ?_
      show own_S p e below T428 (mkF m 39 #[.val (.ref a0), .val (.ref a1), .val (.int 0), .val (.int 3), .val .null, .unset] [(.ref r428)]) _
      refine XS.astore X428.here hx rfl (hb hby d9_39) rfl rfl (l' := #[.val (.ref a0), .val (.ref a1), .val (.int 0), .val (.int 3), .val .null, .val (.ref r428)]) rfl ?_
      show own_S p e below T428 (mkF m 41 #[.val (.ref a0), .val (.ref a1), .val (.int 0), .val (.int 3), .val .null, .val (.ref r428)] []) _
      refine XS.aloadN X428.here hx rfl (hb hby d9_41) rfl rfl ?_
      refine XS.aload X428.here hx rfl (hb hby d9_42) rfl rfl ?_
      refine XS.iloadN X428.here hx rfl (hb hby d9_44) rfl ?_
      show own_S p e below T428 (mkF m 45 #[.val (.ref a0), .val (.ref a1), .val (.int 0), .val (.int 3), .val .null, .val (.ref r428)] [.int 3, (.ref r428), (.ref a0)]) _
      refine st438 _ ?_
      show own_S p e below T438 (mkF m 48 #[.val (.ref a0), .val (.ref a1), .val (.int 0), .val (.int 3), .val .null, .val (.ref r428)] [.int 0, (.ref a0)]) _
      refine st439 _ ?_
      show own_S p e below T439 (mkF m 51 #[.val (.ref a0), .val (.ref a1), .val (.int 0), .val (.int 3), .val .null, .val (.ref r428)] []) _
      refine XS.aloadN X439.here hx rfl (hb hby d9_51) rfl rfl ?_
      refine XS.aload X439.here hx rfl (hb hby d9_52) rfl rfl ?_
      show own_S p e below T439 (mkF m 54 #[.val (.ref a0), .val (.ref a1), .val (.int 0), .val (.int 3), .val .null, .val (.ref r428)] [(.ref r428), (.ref a0)]) _
      refine st447 _ ?_
      show own_S p e below T447 (mkF m 57 #[.val (.ref a0), .val (.ref a1), .val (.int 0), .val (.int 3), .val .null, .val (.ref r428)] []) _
      exact X447.returnOut hx Bd.returns (hb hby d9_57) hr
    · show Q9_s3 Z a0 a1 kc c0 c1 c2 cs h0 n0 _ T447.heap _
      rw [e447]
      exact ⟨rfl, N447, kp454, ⟨x448, (by decide : 3 ≤ 4), r428, kr428, (3 : Int32), (0 : Int32), _, Fw447, x452, x451, Or.inl ⟨rfl, rfl, own_lat_of3 hr_c0 hr_c1 hr_c2 hl428_0 hl428_1 hl428_2⟩⟩⟩
  · obtain ⟨rfl, rfl⟩ := q428
    have N428 := Fr.app N0 N428q
    have ne455 : a0 ≠ r428 := Nat.ne_of_lt (Nat.lt_of_lt_of_le E_a0.lt gq_r428)
    have ne456 : a1 ≠ r428 := Nat.ne_of_lt (Nat.lt_of_lt_of_le V_a1.lt gq_r428)
    have gs_r428 : h0.size ≤ r428 := Nat.le_trans (Keep.refl h0 [a0]).1 gq_r428
    have x457 := E_a0.keep K428
    have x458 := F_value_a0.keep K428 nin0
    have x459 := F_coder_a0.keep K428 nin0
    have x460 := O_.keep K428 all0
    have x461 := V_a1.keep K428 nin0
    have sz462 : n0 ≤ T428.heap.size := Nat.le_trans Z0 K428.1
    have kp463 : Keep h0 T428.heap [a0] := (Keep.refl h0 [a0]).trans K428 all0
    obtain ⟨_, _, ⟨T464, L464, k464, n464⟩, -, X464, ⟨Lc464, hQ464, l464, y464, z464⟩, st464⟩ := Jvm.LawKit.callS X428 hx (y := (⟨"java/lang/StringUTF16", "coderFromArrayLen", "([BI)B"⟩ : MethodName)) hown (mvT hZ (own_wk hw 82 rfl)) (mvT hZ (own_wk hw 83 rfl)) (mvT hZ (own_wk hw 77 rfl)) (mvT hZ (own_wk hw 84 rfl)) (by decide) (backOf (W := 1) (rm18 l Z ag hw [] r428 (3 : Int32) kr428 (6 : Int32) [(.int (nar .byte ((c0 >>> ((0 : Int32) &&& 31)).toInt8.toInt32))), (.int (nar .byte ((c0 >>> ((8 : Int32) &&& 31)).toInt8.toInt32))), (.int (nar .byte ((c1 >>> ((0 : Int32) &&& 31)).toInt8.toInt32))), (.int (nar .byte ((c1 >>> ((8 : Int32) &&& 31)).toInt8.toInt32))), (.int (nar .byte ((c2 >>> ((0 : Int32) &&& 31)).toInt8.toInt32))), (.int (nar .byte ((c2 >>> ((8 : Int32) &&& 31)).toInt8.toInt32)))] (1 : Int32) T428.heap n0 sz462 Vr428 (by decide)) hZ (own_wk hw 84 rfl) (own_wk hw 77 rfl) (by decide) (by decide)) (g := (mkF m 45 #[.val (.ref a0), .val (.ref a1), .val (.int 0), .val (.int 3), .val .null, .val (.ref r428)] [.int 3, (.ref r428), (.ref a0)])) rfl (by rw [hml]; rfl) (argsL := [(.ref r428), (.int (3 : Int32))]) (rest := [(.ref a0)]) (lenOf pd_18 rfl) rfl (by show 2 * 0 + _ ≤ _; exact Nat.le_of_eq rfl) (hb hby d9_45) (fun _ _ => ⟨rfl, rfl, (by decide : 2 + 0 ≤ _), (by decide : 11 + 0 ≤ _)⟩)
    dsimp only [Pt.U, Pt.locs, Pt.cells, Pt.slots] at X464 l464 y464 z464 st464 hQ464
    subst l464 y464 z464
    obtain ⟨rfl, N464q, e464⟩ := hQ464
    have N464 := Fr.app N428 N464q
    obtain ⟨T465, h465, X465, e465, W465, st465⟩ := putFN X464 hx hZ hown (own_wk hw 23 rfl) Via.refl e464 x459 x457 (Or.inr ⟨(own_wk hw 9 rfl), rfl, hnm⟩) (own_wk hw 6 rfl) (ty := .byte) (v' := (.int (1 : Int32))) (by decide) rfl (fits_nar_byte (1 : Int32)) (g := (mkF m 48 #[.val (.ref a0), .val (.ref a1), .val (.int 0), .val (.int 3), .val .null, .val (.ref r428)] [.int 1, (.ref a0)])) rfl rfl (hb hby d9_48)
    have Fw465 := x459.same W465
    have x466 := x457.wr W465
    have x467 := x458.other W465 (Or.inr (slot_ne (Or.inr (own_wk hw 8 rfl)) (Or.inr (own_wk hw 9 rfl)) (by decide) (t := (.array .byte)) (t' := .byte) (by decide) (by decide)))
    have x468 := x460.wr W465 ge_a0
    have x469 := x461.other W465 (Ne.symm ne_a0_a1)
    have x470 := Vr428.other W465 (Ne.symm ne455)
    have sz471 : n0 ≤ h465.size := Nat.le_trans sz462 (Keep.of_wr W465).1
    have kp472 : Keep h0 h465 [a0] := kp463.wr W465 (Or.inl (List.mem_of_getElem? (i := 0) rfl))
    have N465 := Fr.snoc X465 N464 ge_a0
    obtain ⟨T473, h473, X473, e473, W473, st473⟩ := putF X465 hx hZ hown (host := "") (Or.inl (own_wk hw 24 rfl)) Via.refl e465 x467 x466 (Or.inr ⟨(own_wk hw 8 rfl), rfl, hnm⟩) (own_wk hw 6 rfl) (ty := (.array .byte)) (by decide) rfl rfl (g := (mkF m 54 #[.val (.ref a0), .val (.ref a1), .val (.int 0), .val (.int 3), .val .null, .val (.ref r428)] [(.ref r428), (.ref a0)])) rfl rfl (hb hby d9_54)
    have Fw473 := x467.same W473
    have x474 := x466.wr W473
    have x475 := x468.wr W473 ge_a0
    have x476 := x469.other W473 (Ne.symm ne_a0_a1)
    have x477 := x470.other W473 (Ne.symm ne455)
    have x478 := Fw465.other W473 (Or.inr (slot_ne (Or.inr (own_wk hw 9 rfl)) (Or.inr (own_wk hw 8 rfl)) (by decide) (t := .byte) (t' := (.array .byte)) (by decide) (by decide)))
    have sz479 : n0 ≤ h473.size := Nat.le_trans sz471 (Keep.of_wr W473).1
    have kp480 : Keep h0 h473 [a0] := kp472.wr W473 (Or.inl (List.mem_of_getElem? (i := 0) rfl))
    have N473 := Fr.snoc X473 N465 ge_a0
    obtain ⟨fs, hr, hrun, hended, hW, hsame⟩ := X473.leave (v := none) (fun _ => rfl)
    refine ⟨_, _, pre0 _ ?_, hrun, hended, _, _, rfl, ?_, ⟨_, rfl⟩, hW, hsame.mono (by decide) (by decide)⟩
    · show own_S p e below s₁ (mkF m 0 #[.val (.ref a0), .val (.ref a1), .val (.int 0), .val (.int 3), .val .null, .unset] []) _
      refine XS.aloadN X0.here hx rfl (hb hby d9_0) rfl rfl ?_
      show own_S p e below s₁ (mkF m 1 #[.val (.ref a0), .val (.ref a1), .val (.int 0), .val (.int 3), .val .null, .unset] [(.ref a0)]) _
      refine st426 _ ?_
      show own_S p e below T426 (mkF m 4 #[.val (.ref a0), .val (.ref a1), .val (.int 0), .val (.int 3), .val .null, .unset] []) _
      refine XS.iloadN X426.here hx rfl (hb hby d9_4) rfl ?_
      refine XS.ifYes X426.here hx rfl (pc0 := 5) (pc' := 27) rfl (hb hby d9_5) rfl ((if0 _ _).trans (feq (by decide : ¬ ((3 : Int32) = (0 : Int32)))).2) (by decide) (by decide) ?_
      show own_S p e below T426 (mkF m 27 #[.val (.ref a0), .val (.ref a1), .val (.int 0), .val (.int 3), .val .null, .unset] []) _
      refine st427 _ ?_
      show own_S p e below T427 (mkF m 30 #[.val (.ref a0), .val (.ref a1), .val (.int 0), .val (.int 3), .val .null, .unset] [(.int cs)]) _
      refine XS.ifNo X427.here hx rfl (hb hby d9_30) rfl ((if0 _ _).trans (feq (show ¬ (cs = (0 : Int32)) from hcs)).1) ?_
      show own_S p e below T427 (mkF m 33 #[.val (.ref a0), .val (.ref a1), .val (.int 0), .val (.int 3), .val .null, .unset] []) _
      refine XS.aloadN X427.here hx rfl (hb hby d9_33) rfl rfl ?_
      refine XS.iloadN X427.here hx rfl (hb hby d9_34) rfl ?_
      refine XS.iloadN X427.here hx rfl (hb hby d9_35) rfl ?_
      show own_S p e below T427 (mkF m 36 #[.val (.ref a0), .val (.ref a1), .val (.int 0), .val (.int 3), .val .null, .unset] [.int 3, .int 0, (.ref a1)]) _
      refine st428 _ ?_
      show own_S p e below T428 (mkF m 39 #[.val (.ref a0), .val (.ref a1), .val (.int 0), .val (.int 3), .val .null, .unset] [(.ref r428)]) _
      refine XS.astore X428.here hx rfl (hb hby d9_39) rfl rfl (l' := #[.val (.ref a0), .val (.ref a1), .val (.int 0), .val (.int 3), .val .null, .val (.ref r428)]) rfl ?_
      show own_S p e below T428 (mkF m 41 #[.val (.ref a0), .val (.ref a1), .val (.int 0), .val (.int 3), .val .null, .val (.ref r428)] []) _
      refine XS.aloadN X428.here hx rfl (hb hby d9_41) rfl rfl ?_
      refine XS.aload X428.here hx rfl (hb hby d9_42) rfl rfl ?_
      refine XS.iloadN X428.here hx rfl (hb hby d9_44) rfl ?_
      show own_S p e below T428 (mkF m 45 #[.val (.ref a0), .val (.ref a1), .val (.int 0), .val (.int 3), .val .null, .val (.ref r428)] [.int 3, (.ref r428), (.ref a0)]) _
      refine st464 _ ?_
      show own_S p e below T464 (mkF m 48 #[.val (.ref a0), .val (.ref a1), .val (.int 0), .val (.int 3), .val .null, .val (.ref r428)] [.int 1, (.ref a0)]) _
      refine st465 _ ?_
      show own_S p e below T465 (mkF m 51 #[.val (.ref a0), .val (.ref a1), .val (.int 0), .val (.int 3), .val .null, .val (.ref r428)] []) _
      refine XS.aloadN X465.here hx rfl (hb hby d9_51) rfl rfl ?_
      refine XS.aload X465.here hx rfl (hb hby d9_52) rfl rfl ?_
      show own_S p e below T465 (mkF m 54 #[.val (.ref a0), .val (.ref a1), .val (.int 0), .val (.int 3), .val .null, .val (.ref r428)] [(.ref r428), (.ref a0)]) _
      refine st473 _ ?_
      show own_S p e below T473 (mkF m 57 #[.val (.ref a0), .val (.ref a1), .val (.int 0), .val (.int 3), .val .null, .val (.ref r428)] []) _
      exact X473.returnOut hx Bd.returns (hb hby d9_57) hr
    · show Q9_s3 Z a0 a1 kc c0 c1 c2 cs h0 n0 _ T473.heap _
      rw [e473]
      exact ⟨rfl, N473, kp480, ⟨x474, (by decide : 3 ≤ 4), r428, kr428, (6 : Int32), (1 : Int32), _, Fw473, x478, x477, Or.inr ⟨rfl, rfl, own_u16_of3 hr_c0 hr_c1 hr_c2⟩⟩⟩
def Q8_s3 (Z : State) (a0 : Addr) (a1 : Addr) (kc : ClassId) (c0 : Int32) (c1 : Int32) (c2 : Int32) (cs : Int32) (h0 : Heap) (n0 : Nat) (v : Option Value) (h : Heap) (L : List Loc) : Prop := v = none ∧ Fr n0 L ∧ Keep h0 h [a0] ∧ own_str Z h a0 [c0, c1, c2]
set_option maxRecDepth 65536 in
set_option maxHeartbeats 40000000 in
theorem rm8_s3 (l : Launch) (Z : State) (ag : Array Value) (hw : ∀ d ∈ tables_1, d.before ag Z = true) (ws : List Jvm.Cond) (a0 : Addr) (a1 : Addr) (kc : ClassId) (c0 : Int32) (c1 : Int32) (c2 : Int32) (cs : Int32) (h0 : Heap) (n0 : Nat) (Z0 : n0 ≤ h0.size) (E_a0 : Exa Z h0 a0 "java/lang/String") (F_value_a0 : Fld Z h0 a0 "java/lang/String" "value" "[B" .null) (F_coder_a0 : Fld Z h0 a0 "java/lang/String" "coder" "B" (.int (0 : Int32))) (ge_a0 : n0 ≤ a0) (ne_a0_a1 : a0 ≠ a1) (O_ : Old Z n0 h0) (S_cs : Sta Z Z.heap "java/lang/String" "COMPACT_STRINGS" "Z" (.int cs)) (hcs : ¬ cs = (0 : Int32)) (S_ad : Sta Z Z.heap "java/lang/StringUTF16" "$assertionsDisabled" "Z" (.int (1 : Int32))) (S_hi : Sta Z Z.heap "java/lang/StringUTF16" "HI_BYTE_SHIFT" "I" (.int (0 : Int32))) (S_lo : Sta Z Z.heap "java/lang/StringUTF16" "LO_BYTE_SHIFT" "I" (.int (8 : Int32))) (V_a1 : Arv Z h0 a1 kc .char (3 : Int32) [(.int c0), (.int c1), (.int c2)] (.int (0 : Int32))) (hr_c0 : 0 ≤ c0.toInt ∧ c0.toInt < 65536) (hr_c1 : 0 ≤ c1.toInt ∧ c1.toInt < 65536) (hr_c2 : 0 ≤ c2.toInt ∧ c2.toInt < 65536) :
    MetFree l (⟨"java/lang/String", "<init>", "([C)V"⟩ : MethodName) (head1 (Jvm.Cond.code (⟨"java/lang/String", "<init>", "([C)V"⟩ : MethodName) jdk_42_method_3_code 2 none :: ws) ({ frames := 5, cells := 4, slots := 40, locals := 110 } : Room)) (fun a U => a = #[(.ref a0), (.ref a1)] ∧ Z.Warmed39 U.vm ∧ U.heap = h0 ∧ CHv Z own_EL U.vm h0) (fun _ _ _ _ _ => True) (fun _ U o U' => ∃ v L, o = .returned v ∧ Q8_s3 Z a0 a1 kc c0 c1 c2 cs h0 n0 v U'.heap L ∧ CHr Z own_EL U.vm U.heap U'.vm U'.heap ∧ ReturnedEndW U o U' L ({ frames := 5, cells := 4, slots := 40, locals := 110 } : Room).cells ({ frames := 5, cells := 4, slots := 40, locals := 110 } : Room).slots) := by
  refine MetFree.of_bodySF (plainFor_of_name pn_4) hisR ?_
  intro p e s m args below meth c s₁ Bd hml0 hP hK
  obtain ⟨rfl, hZ, hh, hI⟩ := hP
  have hx := Bd.exec
  have hby := Bd.bytes
  have hml : c.maxLocals = 2 := hml0
  have hown : s.vm.findClass "java/lang/String" = some m.cls := findClass_of_methodNamed Bd.named
  have hnm := (name_of_methodNamed Bd.named Bd.method).1
  have X0 : Stand p l e ({ frames := 5, cells := 4, slots := 40, locals := 110 } : Room) s m #[(.ref a0), (.ref a1)] below meth c s₁ [] 0 0 := Stand.of_body Bd
  have e0 : s₁.heap = h0 := by rw [← hh, Bd.state]; rfl
  have N0 := Fr.nil n0
  have pre0 : ∀ t, Steps p.tables e below (s₁.setTop (mkF m 0 #[.val (.ref a0), .val (.ref a1)] [])) t → Steps p.tables e below (s₁.setTop (entryFrame m #[(.ref a0), (.ref a1)] 2)) t := fun t k => castTop (ef_8 m a0 a1) k
  have X0 : Stand p l e ({ frames := 5, cells := 4, slots := 40, locals := 110 } : Room) (s.setVm s.vm) m #[(.ref a0), (.ref a1)] below meth c s₁ [] 0 0 := X0
  have hS : s.Since s.vm 0 := (State.WarmedH.refl s).since 0
  have hkS : 0 ≤ h0.size := Nat.zero_le _
  have hC : CHr Z own_EL s.vm h0 s.vm h0 := CHr.refl hI
  have hEL : EW Z ag own_EL := own_ew hw
  have hwS : ∀ d ∈ Bundle.stringAtoms, d.before ag Z = true := fun d hd => hw d ((by decide +kernel : ∀ d ∈ Bundle.stringAtoms, d ∈ tables_1) d hd)
  have sf_a0 := own_safe_str hC hZ.alike E_a0 F_value_a0 (own_wk hw 6 rfl)
  obtain ⟨cl481, Ar481, -, S481, M481, -, -⟩ := id V_a1
  have ld481 := X0.arraylength hx (by rw [e0]; exact Ar481.1) (State.isArrayOf_alike hZ.alike Ar481.2.1) (g := (mkF m 4 #[.val (.ref a0), .val (.ref a1)] [(.ref a1), .int 0, (.ref a1), (.ref a0)])) rfl rfl (hb hby d8_4)
  obtain ⟨_, _, ⟨T482, L482, k482, n482⟩, -, X482, ⟨Lc482, hQ482, l482, y482, z482⟩, st482⟩ := X0.specialBack hx (y := (⟨"java/lang/String", "<init>", "([CIILjava/lang/Void;)V"⟩ : MethodName)) rfl hown (mvT hZ (own_wk hw 45 rfl)) (mvT hZ (own_wk hw 46 rfl)) (mvT hZ (own_wk hw 48 rfl)) (by decide) (backOf (W := 0) (rm9_s3 l Z ag hw [] a0 a1 kc c0 c1 c2 cs h0 n0 Z0 E_a0 F_value_a0 F_coder_a0 ge_a0 ne_a0_a1 O_ S_cs hcs S_ad S_hi S_lo V_a1 hr_c0 hr_c1 hr_c2) hZ (own_wk hw 48 rfl) (own_wk hw 5 rfl) (by decide) (by decide)) (g := (mkF m 6 #[.val (.ref a0), .val (.ref a1)] [.null, .int 3, .int 0, (.ref a1), (.ref a0)])) rfl (by rw [hml]; rfl) (Steps.refl _) (a := a0) (argsL := [(.ref a1), (.int (0 : Int32)), (.int (3 : Int32)), .null]) (rest := []) (lenOf pd_24 rfl) rfl (by show 2 * 0 + _ ≤ _; exact Nat.le_of_eq rfl) (hb hby d8_6) (fun _ _ => ⟨rfl, e0, (by decide : 0 + 2 ≤ _), (by decide : 0 + 11 ≤ _)⟩)
  dsimp only [Pt.U, Pt.locs, Pt.cells, Pt.slots] at X482 l482 y482 z482 st482 hQ482
  subst l482 y482 z482
  obtain ⟨rfl, N482q, K482, Ss482⟩ := hQ482
  have N482 := Fr.app N0 N482q
  have x483 := E_a0.keep K482
  have x484 := O_.keep K482 (allS ge_a0 all0)
  have x485 := V_a1.keep K482 (ninS (Ne.symm ne_a0_a1) nin0)
  have x486 := Safe.keep K482 (sfS sf_a0 sf0) hC.1 sf_a0
  have sz487 : n0 ≤ T482.heap.size := Nat.le_trans Z0 K482.1
  have hkS := Nat.le_trans hkS K482.1
  have hC := hC.trans (CHr.keep K482 (sfS sf_a0 sf0) hC.1)
  have kp488 : Keep h0 T482.heap [a0] := (Keep.refl h0 [a0]).trans K482 (allS (Or.inl (List.mem_of_getElem? (i := 0) rfl)) all0)
  obtain ⟨fs, hr, hrun, hended, hEnd⟩ := X482.leaveW hS hkS (v := none) (fun _ => rfl)
  refine ⟨_, _, pre0 _ ?_, hrun, hended, _, _, rfl, ?_, ?_, hEnd.1, hEnd.2.1, hEnd.2.2.1, hEnd.2.2.2.mono (by decide) (by decide)⟩
  · show own_S p e below s₁ (mkF m 0 #[.val (.ref a0), .val (.ref a1)] []) _
    refine XS.aloadN X0.here hx rfl (hb hby d8_0) rfl rfl ?_
    refine XS.aloadN X0.here hx rfl (hb hby d8_1) rfl rfl ?_
    refine XS.iconst X0.here hx rfl (hb hby d8_2) ?_
    refine XS.aloadN X0.here hx rfl (hb hby d8_3) rfl rfl ?_
    show own_S p e below s₁ (mkF m 4 #[.val (.ref a0), .val (.ref a1)] [(.ref a1), .int 0, (.ref a1), (.ref a0)]) _
    refine ld481 _ ?_
    rw [len_of S481 M481]
    show own_S p e below s₁ (mkF m 5 #[.val (.ref a0), .val (.ref a1)] [.int 3, .int 0, (.ref a1), (.ref a0)]) _
    refine XS.aconstNull X0.here hx rfl (hb hby d8_5) ?_
    show own_S p e below s₁ (mkF m 6 #[.val (.ref a0), .val (.ref a1)] [.null, .int 3, .int 0, (.ref a1), (.ref a0)]) _
    refine st482.trans ?_
    show own_S p e below T482 (mkF m 9 #[.val (.ref a0), .val (.ref a1)] []) _
    exact X482.returnOut hx Bd.returns (hb hby d8_9) hr
  · show Q8_s3 Z a0 a1 kc c0 c1 c2 cs h0 n0 _ T482.heap _
    exact ⟨rfl, N482, kp488, Ss482⟩
  · show CHr Z own_EL s.vm s.heap T482.vm T482.heap
    rw [hh]
    exact hC.trans (CHv.at X482 hZ hEL hC.1)
theorem ef_27_v04 (m : MethodId) (a0 : Addr) : entryFrame m #[(.ref a0), (.int (0 : Int32)), (.int (4 : Int32))] 5 = mkF m 0 #[.val (.ref a0), .val (.int 0), .val (.int 4), .unset, .unset] [] := by first | (simp [entryFrame, mkF, argsToLocals, Value.category]; done) | rfl
def Q27_s4 (Z : State) (a0 : Addr) (kc : ClassId) (c0 : Int32) (c1 : Int32) (c2 : Int32) (c3 : Int32) (h0 : Heap) (n0 : Nat) (v : Option Value) (h : Heap) (L : List Loc) : Prop := ∃ (r : Addr) (kb : ClassId), v = some (.ref r) ∧ Fr n0 L ∧ Keep h0 h [] ∧ n0 ≤ r ∧ h0.size ≤ r ∧ Arv Z h r kb .byte (8 : Int32) [(.int (nar .byte ((c0 >>> ((0 : Int32) &&& 31)).toInt8.toInt32))), (.int (nar .byte ((c0 >>> ((8 : Int32) &&& 31)).toInt8.toInt32))), (.int (nar .byte ((c1 >>> ((0 : Int32) &&& 31)).toInt8.toInt32))), (.int (nar .byte ((c1 >>> ((8 : Int32) &&& 31)).toInt8.toInt32))), (.int (nar .byte ((c2 >>> ((0 : Int32) &&& 31)).toInt8.toInt32))), (.int (nar .byte ((c2 >>> ((8 : Int32) &&& 31)).toInt8.toInt32))), (.int (nar .byte ((c3 >>> ((0 : Int32) &&& 31)).toInt8.toInt32))), (.int (nar .byte ((c3 >>> ((8 : Int32) &&& 31)).toInt8.toInt32)))] (.int (0 : Int32))
set_option maxRecDepth 65536 in
set_option maxHeartbeats 40000000 in
theorem rm27_s4 (l : Launch) (Z : State) (ag : Array Value) (hw : ∀ d ∈ tables_1, d.before ag Z = true) (ws : List Jvm.Cond) (a0 : Addr) (kc : ClassId) (c0 : Int32) (c1 : Int32) (c2 : Int32) (c3 : Int32) (h0 : Heap) (n0 : Nat) (Z0 : n0 ≤ h0.size) (V_a0 : Arv Z h0 a0 kc .char (4 : Int32) [(.int c0), (.int c1), (.int c2), (.int c3)] (.int (0 : Int32))) (hr_c0 : 0 ≤ c0.toInt ∧ c0.toInt < 65536) (hr_c1 : 0 ≤ c1.toInt ∧ c1.toInt < 65536) (hr_c2 : 0 ≤ c2.toInt ∧ c2.toInt < 65536) (hr_c3 : 0 ≤ c3.toInt ∧ c3.toInt < 65536) (O_ : Old Z n0 h0) (S_ad : Sta Z Z.heap "java/lang/StringUTF16" "$assertionsDisabled" "Z" (.int (1 : Int32))) (S_hi : Sta Z Z.heap "java/lang/StringUTF16" "HI_BYTE_SHIFT" "I" (.int (0 : Int32))) (S_lo : Sta Z Z.heap "java/lang/StringUTF16" "LO_BYTE_SHIFT" "I" (.int (8 : Int32))) :
    MetFree l (⟨"java/lang/StringUTF16", "toBytes", "([CII)[B"⟩ : MethodName) (head1 (Jvm.Cond.code (⟨"java/lang/StringUTF16", "toBytes", "([CII)[B"⟩ : MethodName) jdk_52_method_14_code 5 (some (.array .byte)) :: ws) ({ frames := 2, cells := 1, slots := 8, locals := 24 } : Room)) (fun a U => a = #[(.ref a0), (.int (0 : Int32)), (.int (4 : Int32))] ∧ Z.Warmed39 U.vm ∧ U.heap = h0) (fun _ _ _ _ _ => True) (fun _ U o U' => ∃ v L, o = .returned v ∧ Q27_s4 Z a0 kc c0 c1 c2 c3 h0 n0 v U'.heap L ∧ FrameEnd U o U' L ({ frames := 2, cells := 1, slots := 8, locals := 24 } : Room).cells ({ frames := 2, cells := 1, slots := 8, locals := 24 } : Room).slots) := by
  refine MetFree.of_bodySF (plainFor_of_name pn_6) hisR ?_
  intro p e s m args below meth c s₁ Bd hml0 hP hK
  obtain ⟨rfl, hZ, hh⟩ := hP
  have hx := Bd.exec
  have hby := Bd.bytes
  have hml : c.maxLocals = 5 := hml0
  have hown : s.vm.findClass "java/lang/StringUTF16" = some m.cls := findClass_of_methodNamed Bd.named
  have hnm := (name_of_methodNamed Bd.named Bd.method).1
  have X0 : Stand p l e ({ frames := 2, cells := 1, slots := 8, locals := 24 } : Room) s m #[(.ref a0), (.int (0 : Int32)), (.int (4 : Int32))] below meth c s₁ [] 0 0 := Stand.of_body Bd
  have e0 : s₁.heap = h0 := by rw [← hh, Bd.state]; rfl
  have N0 := Fr.nil n0
  have pre0 : ∀ t, Steps p.tables e below (s₁.setTop (mkF m 0 #[.val (.ref a0), .val (.int 0), .val (.int 4), .unset, .unset] [])) t → Steps p.tables e below (s₁.setTop (entryFrame m #[(.ref a0), (.int (0 : Int32)), (.int (4 : Int32))] 5)) t := fun t k => castTop (ef_27_v04 m a0) k
  obtain ⟨_, _, ⟨T489, L489, k489, n489⟩, -, X489, ⟨Lc489, hQ489, l489, y489, z489⟩, st489⟩ := Jvm.LawKit.callS X0 hx (y := (⟨"java/lang/StringUTF16", "newBytesFor", "(I)[B"⟩ : MethodName)) hown (mvT hZ (own_wk hw 120 rfl)) (mvT hZ (own_wk hw 121 rfl)) (mvT hZ (own_wk hw 77 rfl)) (mvT hZ (own_wk hw 122 rfl)) (by decide) (backOf (W := 0) (rm28 l Z ag hw [] (4 : Int32) (8 : Int32) h0 n0 Z0 (by decide) (by decide) (by decide) (by decide) (by decide)) hZ (own_wk hw 122 rfl) (own_wk hw 77 rfl) (by decide) (by decide)) (g := (mkF m 1 #[.val (.ref a0), .val (.int 0), .val (.int 4), .unset, .unset] [.int 4])) rfl (by rw [hml]; rfl) (argsL := [(.int (4 : Int32))]) (rest := []) (lenOf pd_8 rfl) rfl (by show 2 * 0 + _ ≤ _; exact Nat.le_of_eq rfl) (hb hby d27_1) (fun _ _ => ⟨rfl, e0, (by decide : 0 + 1 ≤ _), (by decide : 0 + 8 ≤ _)⟩)
  dsimp only [Pt.U, Pt.locs, Pt.cells, Pt.slots] at X489 l489 y489 z489 st489 hQ489
  subst l489 y489 z489
  obtain ⟨r489, kr489, rfl, N489q, K489, ge_r489, gq_r489, Vr489⟩ := hQ489
  have N489 := Fr.app N0 N489q
  have Vr489 : Arv Z T489.heap r489 kr489 .byte (8 : Int32) [(.int (0 : Int32)), (.int (0 : Int32)), (.int (0 : Int32)), (.int (0 : Int32)), (.int (0 : Int32)), (.int (0 : Int32)), (.int (0 : Int32)), (.int (0 : Int32))] (.int (0 : Int32)) := Vr489.pad (pad_rep [] (.int (0 : Int32)) 8)
  have ne490 : a0 ≠ r489 := Nat.ne_of_lt (Nat.lt_of_lt_of_le V_a0.lt gq_r489)
  have gs_r489 : h0.size ≤ r489 := Nat.le_trans (Keep.refl h0 []).1 gq_r489
  have x491 := V_a0.keep K489 nin0
  have x492 := O_.keep K489 all0
  have sz493 : n0 ≤ T489.heap.size := Nat.le_trans Z0 K489.1
  have kp494 : Keep h0 T489.heap [] := (Keep.refl h0 []).trans K489 all0
  obtain ⟨cl495, Ar495, q495, S495, M495, H495, G495⟩ := id x491
  have hin495 : ¬ ((0 : Int32) < 0 ∨ cl495.slots.size ≤ ((0 : Int32)).toNatClampNeg) := inb_of S495 ⟨(by decide : ¬ (0 : Int32) < 0), (by decide : (0 : Int32) < (4 : Int32))⟩
  have hat495 : cl495.slots[((0 : Int32)).toNatClampNeg]? = some (.int c0) := Has.at H495 hin495 rfl
  have ld495 := X489.caload hx (j := (0 : Int32)) (v := (.int c0)) Ar495.1 (State.isArrayOf_alike hZ.alike Ar495.2.1) Ar495.2.2 hin495 hat495 (g := (mkF m 19 #[.val (.ref a0), .val (.int 0), .val (.int 4), .val (.ref r489), .val (.int 0)] [.int 0, (.ref a0), .int 0, (.ref r489)])) rfl rfl (hb hby d27_19)
  obtain ⟨_, _, ⟨T496, L496, k496, n496⟩, -, X496, ⟨Lc496, hQ496, l496, y496, z496⟩, st496⟩ := Jvm.LawKit.callS X489 hx (y := (⟨"java/lang/StringUTF16", "putChar", "([BII)V"⟩ : MethodName)) hown (mvT hZ (own_wk hw 127 rfl)) (mvT hZ (own_wk hw 128 rfl)) (mvT hZ (own_wk hw 77 rfl)) (mvT hZ (own_wk hw 129 rfl)) (by decide) (backOf (W := 0) (rm30 l Z ag hw [] r489 (0 : Int32) c0 kr489 (8 : Int32) [(.int (0 : Int32)), (.int (0 : Int32)), (.int (0 : Int32)), (.int (0 : Int32)), (.int (0 : Int32)), (.int (0 : Int32)), (.int (0 : Int32)), (.int (0 : Int32))] T489.heap n0 sz493 Vr489 ge_r489 (by decide) (by decide) (Nat.le_of_ble_eq_true rfl) (Nat.le_of_ble_eq_true rfl) x492 S_ad S_hi S_lo) hZ (own_wk hw 129 rfl) (own_wk hw 77 rfl) (by decide) (by decide)) (g := (mkF m 20 #[.val (.ref a0), .val (.int 0), .val (.int 4), .val (.ref r489), .val (.int 0)] [(.int c0), .int 0, (.ref r489)])) rfl (by rw [hml]; rfl) (argsL := [(.ref r489), (.int (0 : Int32)), (.int c0)]) (rest := []) (lenOf pd_20 rfl) rfl (by show 2 * 0 + _ ≤ _; exact Nat.le_of_eq rfl) (hb hby d27_20) (fun _ _ => ⟨rfl, rfl, (by decide : 1 + 0 ≤ _), (by decide : 8 + 0 ≤ _)⟩)
  dsimp only [Pt.U, Pt.locs, Pt.cells, Pt.slots] at X496 l496 y496 z496 st496 hQ496
  subst l496 y496 z496
  obtain ⟨rfl, N496q, K496, Vb496⟩ := hQ496
  have N496 := Fr.app N489 N496q
  have Vb496 : Arv Z T496.heap r489 kr489 .byte (8 : Int32) [(.int (nar .byte ((c0 >>> ((0 : Int32) &&& 31)).toInt8.toInt32))), (.int (nar .byte ((c0 >>> ((8 : Int32) &&& 31)).toInt8.toInt32))), (.int (0 : Int32)), (.int (0 : Int32)), (.int (0 : Int32)), (.int (0 : Int32)), (.int (0 : Int32)), (.int (0 : Int32))] (.int (0 : Int32)) := Vb496
  have x497 := x491.keep K496 (ninS ne490 nin0)
  have x498 := x492.keep K496 (allS ge_r489 all0)
  have sz499 : n0 ≤ T496.heap.size := Nat.le_trans sz493 K496.1
  have kp500 : Keep h0 T496.heap [] := kp494.trans K496 (allS (Or.inr gs_r489) all0)
  obtain ⟨cl501, Ar501, q501, S501, M501, H501, G501⟩ := id x497
  have hin501 : ¬ ((1 : Int32) < 0 ∨ cl501.slots.size ≤ ((1 : Int32)).toNatClampNeg) := inb_of S501 ⟨(by decide : ¬ (1 : Int32) < 0), (by decide : (1 : Int32) < (4 : Int32))⟩
  have hat501 : cl501.slots[((1 : Int32)).toNatClampNeg]? = some (.int c1) := Has.at H501 hin501 rfl
  have ld501 := X496.caload hx (j := (1 : Int32)) (v := (.int c1)) Ar501.1 (State.isArrayOf_alike hZ.alike Ar501.2.1) Ar501.2.2 hin501 hat501 (g := (mkF m 19 #[.val (.ref a0), .val (.int 1), .val (.int 4), .val (.ref r489), .val (.int 1)] [.int 1, (.ref a0), .int 1, (.ref r489)])) rfl rfl (hb hby d27_19)
  have cp502 : ∀ target, own_S p e below T496 (mkF m 20 #[.val (.ref a0), .val (.int 1), .val (.int 4), .val (.ref r489), .val (.int 1)] [(.int c1), .int 1, (.ref r489)]) target → own_S p e below s₁ (mkF m 0 #[.val (.ref a0), .val (.int 0), .val (.int 4), .unset, .unset] []) target := by
    intro target kt
    show own_S p e below s₁ (mkF m 0 #[.val (.ref a0), .val (.int 0), .val (.int 4), .unset, .unset] []) _
    refine XS.iloadN X0.here hx rfl (hb hby d27_0) rfl ?_
    show own_S p e below s₁ (mkF m 1 #[.val (.ref a0), .val (.int 0), .val (.int 4), .unset, .unset] [.int 4]) _
    refine st489 _ ?_
    show own_S p e below T489 (mkF m 4 #[.val (.ref a0), .val (.int 0), .val (.int 4), .unset, .unset] [(.ref r489)]) _
    refine XS.astoreN X489.here hx rfl (hb hby d27_4) rfl rfl (l' := #[.val (.ref a0), .val (.int 0), .val (.int 4), .val (.ref r489), .unset]) rfl ?_
    show own_S p e below T489 (mkF m 5 #[.val (.ref a0), .val (.int 0), .val (.int 4), .val (.ref r489), .unset] []) _
    refine XS.iconst X489.here hx rfl (hb hby d27_5) ?_
    refine XS.istore X489.here hx rfl (hb hby d27_6) rfl (l' := #[.val (.ref a0), .val (.int 0), .val (.int 4), .val (.ref r489), .val (.int 0)]) rfl ?_
    show own_S p e below T489 (mkF m 8 #[.val (.ref a0), .val (.int 0), .val (.int 4), .val (.ref r489), .val (.int 0)] []) _
    refine XS.iload X489.here hx rfl (hb hby d27_8) rfl ?_
    refine XS.iloadN X489.here hx rfl (hb hby d27_10) rfl ?_
    refine XS.icmpNo X489.here hx rfl (hb hby d27_11) rfl (tlt (by decide : (0 : Int32) < (4 : Int32))).2.1 ?_
    show own_S p e below T489 (mkF m 14 #[.val (.ref a0), .val (.int 0), .val (.int 4), .val (.ref r489), .val (.int 0)] []) _
    refine XS.aloadN X489.here hx rfl (hb hby d27_14) rfl rfl ?_
    refine XS.iload X489.here hx rfl (hb hby d27_15) rfl ?_
    refine XS.aloadN X489.here hx rfl (hb hby d27_17) rfl rfl ?_
    refine XS.iloadN X489.here hx rfl (hb hby d27_18) rfl ?_
    show own_S p e below T489 (mkF m 19 #[.val (.ref a0), .val (.int 0), .val (.int 4), .val (.ref r489), .val (.int 0)] [.int 0, (.ref a0), .int 0, (.ref r489)]) _
    refine ld495 _ ?_
    show own_S p e below T489 (mkF m 20 #[.val (.ref a0), .val (.int 0), .val (.int 4), .val (.ref r489), .val (.int 0)] [(.int c0), .int 0, (.ref r489)]) _
    refine st496 _ ?_
    show own_S p e below T496 (mkF m 23 #[.val (.ref a0), .val (.int 0), .val (.int 4), .val (.ref r489), .val (.int 0)] []) _
    refine XS.iinc X496.here hx rfl (hb hby d27_23) rfl (l' := #[.val (.ref a0), .val (.int 1), .val (.int 4), .val (.ref r489), .val (.int 0)]) rfl ?_
    show own_S p e below T496 (mkF m 26 #[.val (.ref a0), .val (.int 1), .val (.int 4), .val (.ref r489), .val (.int 0)] []) _
    refine XS.iinc X496.here hx rfl (hb hby d27_26) rfl (l' := #[.val (.ref a0), .val (.int 1), .val (.int 4), .val (.ref r489), .val (.int 1)]) rfl ?_
    show own_S p e below T496 (mkF m 29 #[.val (.ref a0), .val (.int 1), .val (.int 4), .val (.ref r489), .val (.int 1)] []) _
    refine XS.goto X496.here hx rfl (pc0 := 29) (pc' := 8) rfl (hb hby d27_29) (by decide) (by decide) ?_
    show own_S p e below T496 (mkF m 8 #[.val (.ref a0), .val (.int 1), .val (.int 4), .val (.ref r489), .val (.int 1)] []) _
    refine XS.iload X496.here hx rfl (hb hby d27_8) rfl ?_
    refine XS.iloadN X496.here hx rfl (hb hby d27_10) rfl ?_
    refine XS.icmpNo X496.here hx rfl (hb hby d27_11) rfl (tlt (by decide : (1 : Int32) < (4 : Int32))).2.1 ?_
    show own_S p e below T496 (mkF m 14 #[.val (.ref a0), .val (.int 1), .val (.int 4), .val (.ref r489), .val (.int 1)] []) _
    refine XS.aloadN X496.here hx rfl (hb hby d27_14) rfl rfl ?_
    refine XS.iload X496.here hx rfl (hb hby d27_15) rfl ?_
    refine XS.aloadN X496.here hx rfl (hb hby d27_17) rfl rfl ?_
    refine XS.iloadN X496.here hx rfl (hb hby d27_18) rfl ?_
    show own_S p e below T496 (mkF m 19 #[.val (.ref a0), .val (.int 1), .val (.int 4), .val (.ref r489), .val (.int 1)] [.int 1, (.ref a0), .int 1, (.ref r489)]) _
    refine ld501 _ ?_
    exact kt
  obtain ⟨_, _, ⟨T503, L503, k503, n503⟩, -, X503, ⟨Lc503, hQ503, l503, y503, z503⟩, st503⟩ := Jvm.LawKit.callS X496 hx (y := (⟨"java/lang/StringUTF16", "putChar", "([BII)V"⟩ : MethodName)) hown (mvT hZ (own_wk hw 127 rfl)) (mvT hZ (own_wk hw 128 rfl)) (mvT hZ (own_wk hw 77 rfl)) (mvT hZ (own_wk hw 129 rfl)) (by decide) (backOf (W := 0) (rm30 l Z ag hw [] r489 (1 : Int32) c1 kr489 (8 : Int32) [(.int (nar .byte ((c0 >>> ((0 : Int32) &&& 31)).toInt8.toInt32))), (.int (nar .byte ((c0 >>> ((8 : Int32) &&& 31)).toInt8.toInt32))), (.int (0 : Int32)), (.int (0 : Int32)), (.int (0 : Int32)), (.int (0 : Int32)), (.int (0 : Int32)), (.int (0 : Int32))] T496.heap n0 sz499 Vb496 ge_r489 (by decide) (by decide) (Nat.le_of_ble_eq_true rfl) (Nat.le_of_ble_eq_true rfl) x498 S_ad S_hi S_lo) hZ (own_wk hw 129 rfl) (own_wk hw 77 rfl) (by decide) (by decide)) (g := (mkF m 20 #[.val (.ref a0), .val (.int 1), .val (.int 4), .val (.ref r489), .val (.int 1)] [(.int c1), .int 1, (.ref r489)])) rfl (by rw [hml]; rfl) (argsL := [(.ref r489), (.int (1 : Int32)), (.int c1)]) (rest := []) (lenOf pd_20 rfl) rfl (by show 2 * 0 + _ ≤ _; exact Nat.le_of_eq rfl) (hb hby d27_20) (fun _ _ => ⟨rfl, rfl, (by decide : 1 + 0 ≤ _), (by decide : 8 + 0 ≤ _)⟩)
  dsimp only [Pt.U, Pt.locs, Pt.cells, Pt.slots] at X503 l503 y503 z503 st503 hQ503
  subst l503 y503 z503
  obtain ⟨rfl, N503q, K503, Vb503⟩ := hQ503
  have N503 := Fr.app N496 N503q
  have Vb503 : Arv Z T503.heap r489 kr489 .byte (8 : Int32) [(.int (nar .byte ((c0 >>> ((0 : Int32) &&& 31)).toInt8.toInt32))), (.int (nar .byte ((c0 >>> ((8 : Int32) &&& 31)).toInt8.toInt32))), (.int (nar .byte ((c1 >>> ((0 : Int32) &&& 31)).toInt8.toInt32))), (.int (nar .byte ((c1 >>> ((8 : Int32) &&& 31)).toInt8.toInt32))), (.int (0 : Int32)), (.int (0 : Int32)), (.int (0 : Int32)), (.int (0 : Int32))] (.int (0 : Int32)) := Vb503
  have x504 := x497.keep K503 (ninS ne490 nin0)
  have x505 := x498.keep K503 (allS ge_r489 all0)
  have sz506 : n0 ≤ T503.heap.size := Nat.le_trans sz499 K503.1
  have kp507 : Keep h0 T503.heap [] := kp500.trans K503 (allS (Or.inr gs_r489) all0)
  obtain ⟨cl508, Ar508, q508, S508, M508, H508, G508⟩ := id x504
  have hin508 : ¬ ((2 : Int32) < 0 ∨ cl508.slots.size ≤ ((2 : Int32)).toNatClampNeg) := inb_of S508 ⟨(by decide : ¬ (2 : Int32) < 0), (by decide : (2 : Int32) < (4 : Int32))⟩
  have hat508 : cl508.slots[((2 : Int32)).toNatClampNeg]? = some (.int c2) := Has.at H508 hin508 rfl
  have ld508 := X503.caload hx (j := (2 : Int32)) (v := (.int c2)) Ar508.1 (State.isArrayOf_alike hZ.alike Ar508.2.1) Ar508.2.2 hin508 hat508 (g := (mkF m 19 #[.val (.ref a0), .val (.int 2), .val (.int 4), .val (.ref r489), .val (.int 2)] [.int 2, (.ref a0), .int 2, (.ref r489)])) rfl rfl (hb hby d27_19)
  obtain ⟨_, _, ⟨T509, L509, k509, n509⟩, -, X509, ⟨Lc509, hQ509, l509, y509, z509⟩, st509⟩ := Jvm.LawKit.callS X503 hx (y := (⟨"java/lang/StringUTF16", "putChar", "([BII)V"⟩ : MethodName)) hown (mvT hZ (own_wk hw 127 rfl)) (mvT hZ (own_wk hw 128 rfl)) (mvT hZ (own_wk hw 77 rfl)) (mvT hZ (own_wk hw 129 rfl)) (by decide) (backOf (W := 0) (rm30 l Z ag hw [] r489 (2 : Int32) c2 kr489 (8 : Int32) [(.int (nar .byte ((c0 >>> ((0 : Int32) &&& 31)).toInt8.toInt32))), (.int (nar .byte ((c0 >>> ((8 : Int32) &&& 31)).toInt8.toInt32))), (.int (nar .byte ((c1 >>> ((0 : Int32) &&& 31)).toInt8.toInt32))), (.int (nar .byte ((c1 >>> ((8 : Int32) &&& 31)).toInt8.toInt32))), (.int (0 : Int32)), (.int (0 : Int32)), (.int (0 : Int32)), (.int (0 : Int32))] T503.heap n0 sz506 Vb503 ge_r489 (by decide) (by decide) (Nat.le_of_ble_eq_true rfl) (Nat.le_of_ble_eq_true rfl) x505 S_ad S_hi S_lo) hZ (own_wk hw 129 rfl) (own_wk hw 77 rfl) (by decide) (by decide)) (g := (mkF m 20 #[.val (.ref a0), .val (.int 2), .val (.int 4), .val (.ref r489), .val (.int 2)] [(.int c2), .int 2, (.ref r489)])) rfl (by rw [hml]; rfl) (argsL := [(.ref r489), (.int (2 : Int32)), (.int c2)]) (rest := []) (lenOf pd_20 rfl) rfl (by show 2 * 0 + _ ≤ _; exact Nat.le_of_eq rfl) (hb hby d27_20) (fun _ _ => ⟨rfl, rfl, (by decide : 1 + 0 ≤ _), (by decide : 8 + 0 ≤ _)⟩)
  dsimp only [Pt.U, Pt.locs, Pt.cells, Pt.slots] at X509 l509 y509 z509 st509 hQ509
  subst l509 y509 z509
  obtain ⟨rfl, N509q, K509, Vb509⟩ := hQ509
  have N509 := Fr.app N503 N509q
  have Vb509 : Arv Z T509.heap r489 kr489 .byte (8 : Int32) [(.int (nar .byte ((c0 >>> ((0 : Int32) &&& 31)).toInt8.toInt32))), (.int (nar .byte ((c0 >>> ((8 : Int32) &&& 31)).toInt8.toInt32))), (.int (nar .byte ((c1 >>> ((0 : Int32) &&& 31)).toInt8.toInt32))), (.int (nar .byte ((c1 >>> ((8 : Int32) &&& 31)).toInt8.toInt32))), (.int (nar .byte ((c2 >>> ((0 : Int32) &&& 31)).toInt8.toInt32))), (.int (nar .byte ((c2 >>> ((8 : Int32) &&& 31)).toInt8.toInt32))), (.int (0 : Int32)), (.int (0 : Int32))] (.int (0 : Int32)) := Vb509
  have x510 := x504.keep K509 (ninS ne490 nin0)
  have x511 := x505.keep K509 (allS ge_r489 all0)
  have sz512 : n0 ≤ T509.heap.size := Nat.le_trans sz506 K509.1
  have kp513 : Keep h0 T509.heap [] := kp507.trans K509 (allS (Or.inr gs_r489) all0)
  obtain ⟨cl514, Ar514, q514, S514, M514, H514, G514⟩ := id x510
  have hin514 : ¬ ((3 : Int32) < 0 ∨ cl514.slots.size ≤ ((3 : Int32)).toNatClampNeg) := inb_of S514 ⟨(by decide : ¬ (3 : Int32) < 0), (by decide : (3 : Int32) < (4 : Int32))⟩
  have hat514 : cl514.slots[((3 : Int32)).toNatClampNeg]? = some (.int c3) := Has.at H514 hin514 rfl
  have ld514 := X509.caload hx (j := (3 : Int32)) (v := (.int c3)) Ar514.1 (State.isArrayOf_alike hZ.alike Ar514.2.1) Ar514.2.2 hin514 hat514 (g := (mkF m 19 #[.val (.ref a0), .val (.int 3), .val (.int 4), .val (.ref r489), .val (.int 3)] [.int 3, (.ref a0), .int 3, (.ref r489)])) rfl rfl (hb hby d27_19)
  have cp515 : ∀ target, own_S p e below T509 (mkF m 20 #[.val (.ref a0), .val (.int 3), .val (.int 4), .val (.ref r489), .val (.int 3)] [(.int c3), .int 3, (.ref r489)]) target → own_S p e below s₁ (mkF m 0 #[.val (.ref a0), .val (.int 0), .val (.int 4), .unset, .unset] []) target := by
    intro target kt
    show own_S p e below s₁ (mkF m 0 #[.val (.ref a0), .val (.int 0), .val (.int 4), .unset, .unset] []) _
    refine cp502 _ ?_
    show own_S p e below T496 (mkF m 20 #[.val (.ref a0), .val (.int 1), .val (.int 4), .val (.ref r489), .val (.int 1)] [(.int c1), .int 1, (.ref r489)]) _
    refine st503 _ ?_
    show own_S p e below T503 (mkF m 23 #[.val (.ref a0), .val (.int 1), .val (.int 4), .val (.ref r489), .val (.int 1)] []) _
    refine XS.iinc X503.here hx rfl (hb hby d27_23) rfl (l' := #[.val (.ref a0), .val (.int 2), .val (.int 4), .val (.ref r489), .val (.int 1)]) rfl ?_
    show own_S p e below T503 (mkF m 26 #[.val (.ref a0), .val (.int 2), .val (.int 4), .val (.ref r489), .val (.int 1)] []) _
    refine XS.iinc X503.here hx rfl (hb hby d27_26) rfl (l' := #[.val (.ref a0), .val (.int 2), .val (.int 4), .val (.ref r489), .val (.int 2)]) rfl ?_
    show own_S p e below T503 (mkF m 29 #[.val (.ref a0), .val (.int 2), .val (.int 4), .val (.ref r489), .val (.int 2)] []) _
    refine XS.goto X503.here hx rfl (pc0 := 29) (pc' := 8) rfl (hb hby d27_29) (by decide) (by decide) ?_
    show own_S p e below T503 (mkF m 8 #[.val (.ref a0), .val (.int 2), .val (.int 4), .val (.ref r489), .val (.int 2)] []) _
    refine XS.iload X503.here hx rfl (hb hby d27_8) rfl ?_
    refine XS.iloadN X503.here hx rfl (hb hby d27_10) rfl ?_
    refine XS.icmpNo X503.here hx rfl (hb hby d27_11) rfl (tlt (by decide : (2 : Int32) < (4 : Int32))).2.1 ?_
    show own_S p e below T503 (mkF m 14 #[.val (.ref a0), .val (.int 2), .val (.int 4), .val (.ref r489), .val (.int 2)] []) _
    refine XS.aloadN X503.here hx rfl (hb hby d27_14) rfl rfl ?_
    refine XS.iload X503.here hx rfl (hb hby d27_15) rfl ?_
    refine XS.aloadN X503.here hx rfl (hb hby d27_17) rfl rfl ?_
    refine XS.iloadN X503.here hx rfl (hb hby d27_18) rfl ?_
    show own_S p e below T503 (mkF m 19 #[.val (.ref a0), .val (.int 2), .val (.int 4), .val (.ref r489), .val (.int 2)] [.int 2, (.ref a0), .int 2, (.ref r489)]) _
    refine ld508 _ ?_
    show own_S p e below T503 (mkF m 20 #[.val (.ref a0), .val (.int 2), .val (.int 4), .val (.ref r489), .val (.int 2)] [(.int c2), .int 2, (.ref r489)]) _
    refine st509 _ ?_
    show own_S p e below T509 (mkF m 23 #[.val (.ref a0), .val (.int 2), .val (.int 4), .val (.ref r489), .val (.int 2)] []) _
    refine XS.iinc X509.here hx rfl (hb hby d27_23) rfl (l' := #[.val (.ref a0), .val (.int 3), .val (.int 4), .val (.ref r489), .val (.int 2)]) rfl ?_
    show own_S p e below T509 (mkF m 26 #[.val (.ref a0), .val (.int 3), .val (.int 4), .val (.ref r489), .val (.int 2)] []) _
    refine XS.iinc X509.here hx rfl (hb hby d27_26) rfl (l' := #[.val (.ref a0), .val (.int 3), .val (.int 4), .val (.ref r489), .val (.int 3)]) rfl ?_
    show own_S p e below T509 (mkF m 29 #[.val (.ref a0), .val (.int 3), .val (.int 4), .val (.ref r489), .val (.int 3)] []) _
    refine XS.goto X509.here hx rfl (pc0 := 29) (pc' := 8) rfl (hb hby d27_29) (by decide) (by decide) ?_
    show own_S p e below T509 (mkF m 8 #[.val (.ref a0), .val (.int 3), .val (.int 4), .val (.ref r489), .val (.int 3)] []) _
    refine XS.iload X509.here hx rfl (hb hby d27_8) rfl ?_
    refine XS.iloadN X509.here hx rfl (hb hby d27_10) rfl ?_
    refine XS.icmpNo X509.here hx rfl (hb hby d27_11) rfl (tlt (by decide : (3 : Int32) < (4 : Int32))).2.1 ?_
    show own_S p e below T509 (mkF m 14 #[.val (.ref a0), .val (.int 3), .val (.int 4), .val (.ref r489), .val (.int 3)] []) _
    refine XS.aloadN X509.here hx rfl (hb hby d27_14) rfl rfl ?_
    refine XS.iload X509.here hx rfl (hb hby d27_15) rfl ?_
    refine XS.aloadN X509.here hx rfl (hb hby d27_17) rfl rfl ?_
    refine XS.iloadN X509.here hx rfl (hb hby d27_18) rfl ?_
    show own_S p e below T509 (mkF m 19 #[.val (.ref a0), .val (.int 3), .val (.int 4), .val (.ref r489), .val (.int 3)] [.int 3, (.ref a0), .int 3, (.ref r489)]) _
    refine ld514 _ ?_
    exact kt
  obtain ⟨_, _, ⟨T516, L516, k516, n516⟩, -, X516, ⟨Lc516, hQ516, l516, y516, z516⟩, st516⟩ := Jvm.LawKit.callS X509 hx (y := (⟨"java/lang/StringUTF16", "putChar", "([BII)V"⟩ : MethodName)) hown (mvT hZ (own_wk hw 127 rfl)) (mvT hZ (own_wk hw 128 rfl)) (mvT hZ (own_wk hw 77 rfl)) (mvT hZ (own_wk hw 129 rfl)) (by decide) (backOf (W := 0) (rm30 l Z ag hw [] r489 (3 : Int32) c3 kr489 (8 : Int32) [(.int (nar .byte ((c0 >>> ((0 : Int32) &&& 31)).toInt8.toInt32))), (.int (nar .byte ((c0 >>> ((8 : Int32) &&& 31)).toInt8.toInt32))), (.int (nar .byte ((c1 >>> ((0 : Int32) &&& 31)).toInt8.toInt32))), (.int (nar .byte ((c1 >>> ((8 : Int32) &&& 31)).toInt8.toInt32))), (.int (nar .byte ((c2 >>> ((0 : Int32) &&& 31)).toInt8.toInt32))), (.int (nar .byte ((c2 >>> ((8 : Int32) &&& 31)).toInt8.toInt32))), (.int (0 : Int32)), (.int (0 : Int32))] T509.heap n0 sz512 Vb509 ge_r489 (by decide) (by decide) (Nat.le_of_ble_eq_true rfl) (Nat.le_of_ble_eq_true rfl) x511 S_ad S_hi S_lo) hZ (own_wk hw 129 rfl) (own_wk hw 77 rfl) (by decide) (by decide)) (g := (mkF m 20 #[.val (.ref a0), .val (.int 3), .val (.int 4), .val (.ref r489), .val (.int 3)] [(.int c3), .int 3, (.ref r489)])) rfl (by rw [hml]; rfl) (argsL := [(.ref r489), (.int (3 : Int32)), (.int c3)]) (rest := []) (lenOf pd_20 rfl) rfl (by show 2 * 0 + _ ≤ _; exact Nat.le_of_eq rfl) (hb hby d27_20) (fun _ _ => ⟨rfl, rfl, (by decide : 1 + 0 ≤ _), (by decide : 8 + 0 ≤ _)⟩)
  dsimp only [Pt.U, Pt.locs, Pt.cells, Pt.slots] at X516 l516 y516 z516 st516 hQ516
  subst l516 y516 z516
  obtain ⟨rfl, N516q, K516, Vb516⟩ := hQ516
  have N516 := Fr.app N509 N516q
  have Vb516 : Arv Z T516.heap r489 kr489 .byte (8 : Int32) [(.int (nar .byte ((c0 >>> ((0 : Int32) &&& 31)).toInt8.toInt32))), (.int (nar .byte ((c0 >>> ((8 : Int32) &&& 31)).toInt8.toInt32))), (.int (nar .byte ((c1 >>> ((0 : Int32) &&& 31)).toInt8.toInt32))), (.int (nar .byte ((c1 >>> ((8 : Int32) &&& 31)).toInt8.toInt32))), (.int (nar .byte ((c2 >>> ((0 : Int32) &&& 31)).toInt8.toInt32))), (.int (nar .byte ((c2 >>> ((8 : Int32) &&& 31)).toInt8.toInt32))), (.int (nar .byte ((c3 >>> ((0 : Int32) &&& 31)).toInt8.toInt32))), (.int (nar .byte ((c3 >>> ((8 : Int32) &&& 31)).toInt8.toInt32)))] (.int (0 : Int32)) := Vb516
  have x517 := x510.keep K516 (ninS ne490 nin0)
  have x518 := x511.keep K516 (allS ge_r489 all0)
  have sz519 : n0 ≤ T516.heap.size := Nat.le_trans sz512 K516.1
  have kp520 : Keep h0 T516.heap [] := kp513.trans K516 (allS (Or.inr gs_r489) all0)
  obtain ⟨fs, hr, hrun, hended, hW, hsame⟩ := X516.leave (v := some (.ref r489)) (fun h => by rw [Bd.returns] at h; cases h)
  refine ⟨_, _, pre0 _ ?_, hrun, hended, _, _, rfl, ?_, ⟨_, rfl⟩, hW, hsame.mono (by decide) (by decide)⟩
  · show own_S p e below s₁ (mkF m 0 #[.val (.ref a0), .val (.int 0), .val (.int 4), .unset, .unset] []) _
    refine cp515 _ ?_
    show own_S p e below T509 (mkF m 20 #[.val (.ref a0), .val (.int 3), .val (.int 4), .val (.ref r489), .val (.int 3)] [(.int c3), .int 3, (.ref r489)]) _
    refine st516 _ ?_
    show own_S p e below T516 (mkF m 23 #[.val (.ref a0), .val (.int 3), .val (.int 4), .val (.ref r489), .val (.int 3)] []) _
    refine XS.iinc X516.here hx rfl (hb hby d27_23) rfl (l' := #[.val (.ref a0), .val (.int 4), .val (.int 4), .val (.ref r489), .val (.int 3)]) rfl ?_
    show own_S p e below T516 (mkF m 26 #[.val (.ref a0), .val (.int 4), .val (.int 4), .val (.ref r489), .val (.int 3)] []) _
    refine XS.iinc X516.here hx rfl (hb hby d27_26) rfl (l' := #[.val (.ref a0), .val (.int 4), .val (.int 4), .val (.ref r489), .val (.int 4)]) rfl ?_
    show own_S p e below T516 (mkF m 29 #[.val (.ref a0), .val (.int 4), .val (.int 4), .val (.ref r489), .val (.int 4)] []) _
    refine XS.goto X516.here hx rfl (pc0 := 29) (pc' := 8) rfl (hb hby d27_29) (by decide) (by decide) ?_
    show own_S p e below T516 (mkF m 8 #[.val (.ref a0), .val (.int 4), .val (.int 4), .val (.ref r489), .val (.int 4)] []) _
    refine XS.iload X516.here hx rfl (hb hby d27_8) rfl ?_
    refine XS.iloadN X516.here hx rfl (hb hby d27_10) rfl ?_
    refine XS.icmpYes X516.here hx rfl (pc0 := 11) (pc' := 32) rfl (hb hby d27_11) rfl (flt (by decide : ¬ ((4 : Int32) < (4 : Int32)))).2.1 (by decide) (by decide) ?_
    show own_S p e below T516 (mkF m 32 #[.val (.ref a0), .val (.int 4), .val (.int 4), .val (.ref r489), .val (.int 4)] []) _
    refine XS.aloadN X516.here hx rfl (hb hby d27_32) rfl rfl ?_
    show own_S p e below T516 (mkF m 33 #[.val (.ref a0), .val (.int 4), .val (.int 4), .val (.ref r489), .val (.int 4)] [(.ref r489)]) _
    exact Jvm.RoadKit.retOut X516 hx Bd.returns rfl (Or.inr (Or.inr (Or.inr (Or.inr ⟨rfl, rfl, rfl⟩)))) (hb hby d27_33) hr
  · show Q27_s4 Z a0 kc c0 c1 c2 c3 h0 n0 _ T516.heap _
    exact ⟨r489, kr489, rfl, N516, kp520, ge_r489, gs_r489, Vb516⟩
theorem ef_17_v0v04 (m : MethodId) (a0 : Addr) (a2 : Addr) : entryFrame m #[(.ref a0), (.int (0 : Int32)), (.ref a2), (.int (0 : Int32)), (.int (4 : Int32))] 7 = mkF m 0 #[.val (.ref a0), .val (.int 0), .val (.ref a2), .val (.int 0), .val (.int 4), .unset, .unset] [] := by first | (simp [entryFrame, mkF, argsToLocals, Value.category]; done) | rfl
abbrev own_loc28 (a0 : Addr) (a2 : Addr) : Array Slot := #[.val (.ref a0), .val (.int 0), .val (.ref a2), .val (.int 0), .val (.int 4), .val (.int 0), .unset]
abbrev own_loc29 (a0 : Addr) (a2 : Addr) (c0 : Int32) : Array Slot := #[.val (.ref a0), .val (.int 0), .val (.ref a2), .val (.int 0), .val (.int 4), .val (.int 0), .val (.int c0)]
abbrev own_loc30 (a0 : Addr) (a2 : Addr) (c0 : Int32) : Array Slot := #[.val (.ref a0), .val (.int 1), .val (.ref a2), .val (.int 0), .val (.int 4), .val (.int 0), .val (.int c0)]
abbrev own_loc31 (a0 : Addr) (a2 : Addr) (c0 : Int32) : Array Slot := #[.val (.ref a0), .val (.int 1), .val (.ref a2), .val (.int 1), .val (.int 4), .val (.int 0), .val (.int c0)]
abbrev own_loc32 (a0 : Addr) (a2 : Addr) (c0 : Int32) : Array Slot := #[.val (.ref a0), .val (.int 1), .val (.ref a2), .val (.int 1), .val (.int 4), .val (.int 1), .val (.int c0)]
abbrev own_loc33 (a0 : Addr) (a2 : Addr) (c1 : Int32) : Array Slot := #[.val (.ref a0), .val (.int 1), .val (.ref a2), .val (.int 1), .val (.int 4), .val (.int 1), .val (.int c1)]
abbrev own_loc34 (a0 : Addr) (a2 : Addr) (c1 : Int32) : Array Slot := #[.val (.ref a0), .val (.int 2), .val (.ref a2), .val (.int 1), .val (.int 4), .val (.int 1), .val (.int c1)]
abbrev own_loc35 (a0 : Addr) (a2 : Addr) (c1 : Int32) : Array Slot := #[.val (.ref a0), .val (.int 2), .val (.ref a2), .val (.int 2), .val (.int 4), .val (.int 1), .val (.int c1)]
abbrev own_loc36 (a0 : Addr) (a2 : Addr) (c1 : Int32) : Array Slot := #[.val (.ref a0), .val (.int 2), .val (.ref a2), .val (.int 2), .val (.int 4), .val (.int 2), .val (.int c1)]
abbrev own_loc37 (a0 : Addr) (a2 : Addr) (c2 : Int32) : Array Slot := #[.val (.ref a0), .val (.int 2), .val (.ref a2), .val (.int 2), .val (.int 4), .val (.int 2), .val (.int c2)]
abbrev own_loc38 (a0 : Addr) (a2 : Addr) (c2 : Int32) : Array Slot := #[.val (.ref a0), .val (.int 3), .val (.ref a2), .val (.int 2), .val (.int 4), .val (.int 2), .val (.int c2)]
abbrev own_loc39 (a0 : Addr) (a2 : Addr) (c2 : Int32) : Array Slot := #[.val (.ref a0), .val (.int 3), .val (.ref a2), .val (.int 3), .val (.int 4), .val (.int 2), .val (.int c2)]
abbrev own_loc40 (a0 : Addr) (a2 : Addr) (c2 : Int32) : Array Slot := #[.val (.ref a0), .val (.int 3), .val (.ref a2), .val (.int 3), .val (.int 4), .val (.int 3), .val (.int c2)]
abbrev own_loc41 (a0 : Addr) (a2 : Addr) (c3 : Int32) : Array Slot := #[.val (.ref a0), .val (.int 3), .val (.ref a2), .val (.int 3), .val (.int 4), .val (.int 3), .val (.int c3)]
abbrev own_loc42 (a0 : Addr) (a2 : Addr) (c3 : Int32) : Array Slot := #[.val (.ref a0), .val (.int 4), .val (.ref a2), .val (.int 3), .val (.int 4), .val (.int 3), .val (.int c3)]
abbrev own_loc43 (a0 : Addr) (a2 : Addr) (c3 : Int32) : Array Slot := #[.val (.ref a0), .val (.int 4), .val (.ref a2), .val (.int 4), .val (.int 4), .val (.int 3), .val (.int c3)]
abbrev own_loc44 (a0 : Addr) (a2 : Addr) (c3 : Int32) : Array Slot := #[.val (.ref a0), .val (.int 4), .val (.ref a2), .val (.int 4), .val (.int 4), .val (.int 4), .val (.int c3)]
def Q17_s4 (Z : State) (a0 : Addr) (a2 : Addr) (kc : ClassId) (c0 : Int32) (c1 : Int32) (c2 : Int32) (c3 : Int32) (kb : ClassId) (h0 : Heap) (n0 : Nat) (v : Option Value) (h : Heap) (L : List Loc) : Prop := (v = some (.int (0 : Int32)) ∧ Fr n0 L ∧ Keep h0 h [a2] ∧ (255 : Int32) < c0) ∨ (v = some (.int (1 : Int32)) ∧ Fr n0 L ∧ Keep h0 h [a2] ∧ (255 : Int32) < c1) ∨ (v = some (.int (2 : Int32)) ∧ Fr n0 L ∧ Keep h0 h [a2] ∧ (255 : Int32) < c2) ∨ (v = some (.int (3 : Int32)) ∧ Fr n0 L ∧ Keep h0 h [a2] ∧ (255 : Int32) < c3) ∨ (v = some (.int (4 : Int32)) ∧ Fr n0 L ∧ Keep h0 h [a2] ∧ Arv Z h a2 kb .byte (4 : Int32) [(.int (nar .byte (c0.toInt8.toInt32))), (.int (nar .byte (c1.toInt8.toInt32))), (.int (nar .byte (c2.toInt8.toInt32))), (.int (nar .byte (c3.toInt8.toInt32)))] (.int (0 : Int32)) ∧ ¬ ((255 : Int32) < c0) ∧ ¬ ((255 : Int32) < c1) ∧ ¬ ((255 : Int32) < c2) ∧ ¬ ((255 : Int32) < c3))
set_option maxRecDepth 65536 in
set_option maxHeartbeats 40000000 in
theorem rm17_s4 (l : Launch) (Z : State) (ag : Array Value) (hw : ∀ d ∈ tables_1, d.before ag Z = true) (ws : List Jvm.Cond) (a0 : Addr) (a2 : Addr) (kc : ClassId) (c0 : Int32) (c1 : Int32) (c2 : Int32) (c3 : Int32) (kb : ClassId) (h0 : Heap) (n0 : Nat) (Z0 : n0 ≤ h0.size) (V_a0 : Arv Z h0 a0 kc .char (4 : Int32) [(.int c0), (.int c1), (.int c2), (.int c3)] (.int (0 : Int32))) (hr_c0 : 0 ≤ c0.toInt ∧ c0.toInt < 65536) (hr_c1 : 0 ≤ c1.toInt ∧ c1.toInt < 65536) (hr_c2 : 0 ≤ c2.toInt ∧ c2.toInt < 65536) (hr_c3 : 0 ≤ c3.toInt ∧ c3.toInt < 65536) (V_a2 : Arv Z h0 a2 kb .byte (4 : Int32) [(.int (0 : Int32)), (.int (0 : Int32)), (.int (0 : Int32)), (.int (0 : Int32))] (.int (0 : Int32))) (ge_a2 : n0 ≤ a2) (ne_a0_a2 : a0 ≠ a2) :
    MetFree l (⟨"java/lang/StringUTF16", "compress", "([CI[BII)I"⟩ : MethodName) (head1 (Jvm.Cond.code (⟨"java/lang/StringUTF16", "compress", "([CI[BII)I"⟩ : MethodName) jdk_52_method_21_code 7 (some .int) :: ws) ({ frames := 0, cells := 0, slots := 0, locals := 0 } : Room)) (fun a U => a = #[(.ref a0), (.int (0 : Int32)), (.ref a2), (.int (0 : Int32)), (.int (4 : Int32))] ∧ Z.Warmed39 U.vm ∧ U.heap = h0) (fun _ _ _ _ _ => True) (fun _ U o U' => ∃ v L, o = .returned v ∧ Q17_s4 Z a0 a2 kc c0 c1 c2 c3 kb h0 n0 v U'.heap L ∧ FrameEnd U o U' L ({ frames := 0, cells := 0, slots := 0, locals := 0 } : Room).cells ({ frames := 0, cells := 0, slots := 0, locals := 0 } : Room).slots) := by
  refine MetFree.of_bodySF (plainFor_of_name pn_6) hisR ?_
  intro p e s m args below meth c s₁ Bd hml0 hP hK
  obtain ⟨rfl, hZ, hh⟩ := hP
  have hx := Bd.exec
  have hby := Bd.bytes
  have hml : c.maxLocals = 7 := hml0
  have hown : s.vm.findClass "java/lang/StringUTF16" = some m.cls := findClass_of_methodNamed Bd.named
  have hnm := (name_of_methodNamed Bd.named Bd.method).1
  have X0 : Stand p l e ({ frames := 0, cells := 0, slots := 0, locals := 0 } : Room) s m #[(.ref a0), (.int (0 : Int32)), (.ref a2), (.int (0 : Int32)), (.int (4 : Int32))] below meth c s₁ [] 0 0 := Stand.of_body Bd
  have e0 : s₁.heap = h0 := by rw [← hh, Bd.state]; rfl
  have N0 := Fr.nil n0
  have pre0 : ∀ t, Steps p.tables e below (s₁.setTop (mkF m 0 #[.val (.ref a0), .val (.int 0), .val (.ref a2), .val (.int 0), .val (.int 4), .unset, .unset] [])) t → Steps p.tables e below (s₁.setTop (entryFrame m #[(.ref a0), (.int (0 : Int32)), (.ref a2), (.int (0 : Int32)), (.int (4 : Int32))] 7)) t := fun t k => castTop (ef_17_v0v04 m a0 a2) k
  obtain ⟨cl521, Ar521, q521, S521, M521, H521, G521⟩ := id V_a0
  have hin521 : ¬ ((0 : Int32) < 0 ∨ cl521.slots.size ≤ ((0 : Int32)).toNatClampNeg) := inb_of S521 ⟨(by decide : ¬ (0 : Int32) < 0), (by decide : (0 : Int32) < (4 : Int32))⟩
  have hat521 : cl521.slots[((0 : Int32)).toNatClampNeg]? = some (.int c0) := Has.at H521 hin521 rfl
  have ld521 := X0.caload hx (j := (0 : Int32)) (v := (.int c0)) (by rw [e0]; exact Ar521.1) (State.isArrayOf_alike hZ.alike Ar521.2.1) Ar521.2.2 hin521 hat521 (g := (mkF m 12 (own_loc28 a0 a2) [.int 0, (.ref a0)])) rfl rfl (hb hby d17_12)
  have cp523 : ∀ target, own_S p e below s₁ (mkF m 20 (own_loc29 a0 a2 c0) [.int 255, (.int c0)]) target → own_S p e below s₁ (mkF m 0 #[.val (.ref a0), .val (.int 0), .val (.ref a2), .val (.int 0), .val (.int 4), .unset, .unset] []) target := by
    intro target kt
    show own_S p e below s₁ (mkF m 0 #[.val (.ref a0), .val (.int 0), .val (.ref a2), .val (.int 0), .val (.int 4), .unset, .unset] []) _
    refine XS.iconst X0.here hx rfl (hb hby d17_0) ?_
    refine XS.istore X0.here hx rfl (hb hby d17_1) rfl (l' := (own_loc28 a0 a2)) rfl ?_
    show own_S p e below s₁ (mkF m 3 (own_loc28 a0 a2) []) _
    refine XS.iload X0.here hx rfl (hb hby d17_3) rfl ?_
    refine XS.iload X0.here hx rfl (hb hby d17_5) rfl ?_
    refine XS.icmpNo X0.here hx rfl (hb hby d17_7) rfl (tlt (by decide : (0 : Int32) < (4 : Int32))).2.1 ?_
    show own_S p e below s₁ (mkF m 10 (own_loc28 a0 a2) []) _
    refine XS.aloadN X0.here hx rfl (hb hby d17_10) rfl rfl ?_
    refine XS.iloadN X0.here hx rfl (hb hby d17_11) rfl ?_
    show own_S p e below s₁ (mkF m 12 (own_loc28 a0 a2) [.int 0, (.ref a0)]) _
    refine ld521 _ ?_
    show own_S p e below s₁ (mkF m 13 (own_loc28 a0 a2) [(.int c0)]) _
    refine XS.istore X0.here hx rfl (hb hby d17_13) rfl (l' := (own_loc29 a0 a2 c0)) rfl ?_
    show own_S p e below s₁ (mkF m 15 (own_loc29 a0 a2 c0) []) _
    refine XS.iload X0.here hx rfl (hb hby d17_15) rfl ?_
    refine XS.sipush X0.here hx rfl (hb hby d17_17) ?_
    exact kt
  by_cases hc522 : (255 : Int32) < c0
  · obtain ⟨fs, hr, hrun, hended, hW, hsame⟩ := X0.leave (v := some (.int (0 : Int32))) (fun h => by rw [Bd.returns] at h; cases h)
    refine ⟨_, _, pre0 _ ?_, hrun, hended, _, _, rfl, ?_, ⟨_, rfl⟩, hW, hsame.mono (by decide) (by decide)⟩
    · show own_S p e below s₁ (mkF m 0 #[.val (.ref a0), .val (.int 0), .val (.ref a2), .val (.int 0), .val (.int 4), .unset, .unset] []) _
      refine cp523 _ ?_
      show own_S p e below s₁ (mkF m 20 (own_loc29 a0 a2 c0) [.int 255, (.int c0)]) _
      refine XS.icmpNo X0.here hx rfl (hb hby d17_20) rfl (tlt hc522).2.2.2 ?_
      show own_S p e below s₁ (mkF m 23 (own_loc29 a0 a2 c0) []) _
      refine XS.iload X0.here hx rfl (hb hby d17_23) rfl ?_
      show own_S p e below s₁ (mkF m 25 (own_loc29 a0 a2 c0) [.int 0]) _
      exact retI X0 hx Bd.returns (hb hby d17_25) hr
    · show Q17_s4 Z a0 a2 kc c0 c1 c2 c3 kb h0 n0 _ s₁.heap _
      rw [e0]
      exact Or.inl ⟨rfl, N0, (Keep.refl h0 [a2]), hc522⟩
  · obtain ⟨cl524, Ar524, q524, S524, M524, H524, G524⟩ := id V_a2
    have hin524 : ¬ ((0 : Int32) < 0 ∨ cl524.slots.size ≤ ((0 : Int32)).toNatClampNeg) := inb_of S524 ⟨(by decide : ¬ (0 : Int32) < 0), (by decide : (0 : Int32) < (4 : Int32))⟩
    obtain ⟨T524, h524, X524, e524, W524, st524⟩ := stB X0 hx hZ e0 Ar524 (j := (0 : Int32)) hin524 (g := (mkF m 31 (own_loc29 a0 a2 c0) [(.int (c0.toInt8.toInt32)), .int 0, (.ref a2)])) rfl rfl (hb hby d17_31)
    have V524 : Arv Z h524 a2 kb .byte (4 : Int32) [(.int (nar .byte (c0.toInt8.toInt32))), (.int (0 : Int32)), (.int (0 : Int32)), (.int (0 : Int32))] (.int (0 : Int32)) := Arv.set Ar524 q524 S524 M524 H524 G524 (fits_nar_byte _) W524 0 rfl (Nat.le_of_ble_eq_true rfl)
    have x525 := V_a0.other W524 ne_a0_a2
    have sz526 : n0 ≤ h524.size := Nat.le_trans Z0 (Keep.of_wr W524).1
    have kp527 : Keep h0 h524 [a2] := (Keep.refl h0 [a2]).wr W524 (Or.inl (List.mem_of_getElem? (i := 0) rfl))
    have N524 := Fr.snoc X524 N0 ge_a2
    obtain ⟨cl528, Ar528, q528, S528, M528, H528, G528⟩ := id x525
    have hin528 : ¬ ((1 : Int32) < 0 ∨ cl528.slots.size ≤ ((1 : Int32)).toNatClampNeg) := inb_of S528 ⟨(by decide : ¬ (1 : Int32) < 0), (by decide : (1 : Int32) < (4 : Int32))⟩
    have hat528 : cl528.slots[((1 : Int32)).toNatClampNeg]? = some (.int c1) := Has.at H528 hin528 rfl
    have ld528 := X524.caload hx (j := (1 : Int32)) (v := (.int c1)) (by rw [e524]; exact Ar528.1) (State.isArrayOf_alike hZ.alike Ar528.2.1) Ar528.2.2 hin528 hat528 (g := (mkF m 12 (own_loc32 a0 a2 c0) [.int 1, (.ref a0)])) rfl rfl (hb hby d17_12)
    have cp530 : ∀ target, own_S p e below T524 (mkF m 20 (own_loc33 a0 a2 c1) [.int 255, (.int c1)]) target → own_S p e below s₁ (mkF m 0 #[.val (.ref a0), .val (.int 0), .val (.ref a2), .val (.int 0), .val (.int 4), .unset, .unset] []) target := by
      intro target kt
      show own_S p e below s₁ (mkF m 0 #[.val (.ref a0), .val (.int 0), .val (.ref a2), .val (.int 0), .val (.int 4), .unset, .unset] []) _
      refine cp523 _ ?_
      show own_S p e below s₁ (mkF m 20 (own_loc29 a0 a2 c0) [.int 255, (.int c0)]) _
      refine XS.icmpYes X0.here hx rfl (pc0 := 20) (pc' := 26) rfl (hb hby d17_20) rfl (flt hc522).2.2.2 (by decide) (by decide) ?_
      show own_S p e below s₁ (mkF m 26 (own_loc29 a0 a2 c0) []) _
      refine XS.aloadN X0.here hx rfl (hb hby d17_26) rfl rfl ?_
      refine XS.iloadN X0.here hx rfl (hb hby d17_27) rfl ?_
      refine XS.iload X0.here hx rfl (hb hby d17_28) rfl ?_
      refine XS.i2b X0.here hx rfl (hb hby d17_30) rfl ?_
      show own_S p e below s₁ (mkF m 31 (own_loc29 a0 a2 c0) [(.int (c0.toInt8.toInt32)), .int 0, (.ref a2)]) _
      refine st524 _ ?_
      show own_S p e below T524 (mkF m 32 (own_loc29 a0 a2 c0) []) _
      refine XS.iinc X524.here hx rfl (hb hby d17_32) rfl (l' := (own_loc30 a0 a2 c0)) rfl ?_
      show own_S p e below T524 (mkF m 35 (own_loc30 a0 a2 c0) []) _
      refine XS.iinc X524.here hx rfl (hb hby d17_35) rfl (l' := (own_loc31 a0 a2 c0)) rfl ?_
      show own_S p e below T524 (mkF m 38 (own_loc31 a0 a2 c0) []) _
      refine XS.iinc X524.here hx rfl (hb hby d17_38) rfl (l' := (own_loc32 a0 a2 c0)) rfl ?_
      show own_S p e below T524 (mkF m 41 (own_loc32 a0 a2 c0) []) _
      refine XS.goto X524.here hx rfl (pc0 := 41) (pc' := 3) rfl (hb hby d17_41) (by decide) (by decide) ?_
      show own_S p e below T524 (mkF m 3 (own_loc32 a0 a2 c0) []) _
      refine XS.iload X524.here hx rfl (hb hby d17_3) rfl ?_
      refine XS.iload X524.here hx rfl (hb hby d17_5) rfl ?_
      refine XS.icmpNo X524.here hx rfl (hb hby d17_7) rfl (tlt (by decide : (1 : Int32) < (4 : Int32))).2.1 ?_
      show own_S p e below T524 (mkF m 10 (own_loc32 a0 a2 c0) []) _
      refine XS.aloadN X524.here hx rfl (hb hby d17_10) rfl rfl ?_
      refine XS.iloadN X524.here hx rfl (hb hby d17_11) rfl ?_
      show own_S p e below T524 (mkF m 12 (own_loc32 a0 a2 c0) [.int 1, (.ref a0)]) _
      refine ld528 _ ?_
      show own_S p e below T524 (mkF m 13 (own_loc32 a0 a2 c0) [(.int c1)]) _
      refine XS.istore X524.here hx rfl (hb hby d17_13) rfl (l' := (own_loc33 a0 a2 c1)) rfl ?_
      show own_S p e below T524 (mkF m 15 (own_loc33 a0 a2 c1) []) _
      refine XS.iload X524.here hx rfl (hb hby d17_15) rfl ?_
      refine XS.sipush X524.here hx rfl (hb hby d17_17) ?_
      exact kt
    by_cases hc529 : (255 : Int32) < c1
    · obtain ⟨fs, hr, hrun, hended, hW, hsame⟩ := X524.leave (v := some (.int (1 : Int32))) (fun h => by rw [Bd.returns] at h; cases h)
      refine ⟨_, _, pre0 _ ?_, hrun, hended, _, _, rfl, ?_, ⟨_, rfl⟩, hW, hsame.mono (by decide) (by decide)⟩
      · show own_S p e below s₁ (mkF m 0 #[.val (.ref a0), .val (.int 0), .val (.ref a2), .val (.int 0), .val (.int 4), .unset, .unset] []) _
        refine cp530 _ ?_
        show own_S p e below T524 (mkF m 20 (own_loc33 a0 a2 c1) [.int 255, (.int c1)]) _
        refine XS.icmpNo X524.here hx rfl (hb hby d17_20) rfl (tlt hc529).2.2.2 ?_
        show own_S p e below T524 (mkF m 23 (own_loc33 a0 a2 c1) []) _
        refine XS.iload X524.here hx rfl (hb hby d17_23) rfl ?_
        show own_S p e below T524 (mkF m 25 (own_loc33 a0 a2 c1) [.int 1]) _
        exact retI X524 hx Bd.returns (hb hby d17_25) hr
      · show Q17_s4 Z a0 a2 kc c0 c1 c2 c3 kb h0 n0 _ T524.heap _
        rw [e524]
        exact Or.inr (Or.inl ⟨rfl, N524, kp527, hc529⟩)
    · obtain ⟨cl531, Ar531, q531, S531, M531, H531, G531⟩ := id V524
      have hin531 : ¬ ((1 : Int32) < 0 ∨ cl531.slots.size ≤ ((1 : Int32)).toNatClampNeg) := inb_of S531 ⟨(by decide : ¬ (1 : Int32) < 0), (by decide : (1 : Int32) < (4 : Int32))⟩
      obtain ⟨T531, h531, X531, e531, W531, st531⟩ := stB X524 hx hZ e524 Ar531 (j := (1 : Int32)) hin531 (g := (mkF m 31 (own_loc33 a0 a2 c1) [(.int (c1.toInt8.toInt32)), .int 1, (.ref a2)])) rfl rfl (hb hby d17_31)
      have V531 : Arv Z h531 a2 kb .byte (4 : Int32) [(.int (nar .byte (c0.toInt8.toInt32))), (.int (nar .byte (c1.toInt8.toInt32))), (.int (0 : Int32)), (.int (0 : Int32))] (.int (0 : Int32)) := Arv.set Ar531 q531 S531 M531 H531 G531 (fits_nar_byte _) W531 1 rfl (Nat.le_of_ble_eq_true rfl)
      have x532 := x525.other W531 ne_a0_a2
      have sz533 : n0 ≤ h531.size := Nat.le_trans sz526 (Keep.of_wr W531).1
      have kp534 : Keep h0 h531 [a2] := kp527.wr W531 (Or.inl (List.mem_of_getElem? (i := 0) rfl))
      have N531 := Fr.snoc X531 N524 ge_a2
      obtain ⟨cl535, Ar535, q535, S535, M535, H535, G535⟩ := id x532
      have hin535 : ¬ ((2 : Int32) < 0 ∨ cl535.slots.size ≤ ((2 : Int32)).toNatClampNeg) := inb_of S535 ⟨(by decide : ¬ (2 : Int32) < 0), (by decide : (2 : Int32) < (4 : Int32))⟩
      have hat535 : cl535.slots[((2 : Int32)).toNatClampNeg]? = some (.int c2) := Has.at H535 hin535 rfl
      have ld535 := X531.caload hx (j := (2 : Int32)) (v := (.int c2)) (by rw [e531]; exact Ar535.1) (State.isArrayOf_alike hZ.alike Ar535.2.1) Ar535.2.2 hin535 hat535 (g := (mkF m 12 (own_loc36 a0 a2 c1) [.int 2, (.ref a0)])) rfl rfl (hb hby d17_12)
      have cp537 : ∀ target, own_S p e below T531 (mkF m 20 (own_loc37 a0 a2 c2) [.int 255, (.int c2)]) target → own_S p e below s₁ (mkF m 0 #[.val (.ref a0), .val (.int 0), .val (.ref a2), .val (.int 0), .val (.int 4), .unset, .unset] []) target := by
        intro target kt
        show own_S p e below s₁ (mkF m 0 #[.val (.ref a0), .val (.int 0), .val (.ref a2), .val (.int 0), .val (.int 4), .unset, .unset] []) _
        refine cp530 _ ?_
        show own_S p e below T524 (mkF m 20 (own_loc33 a0 a2 c1) [.int 255, (.int c1)]) _
        refine XS.icmpYes X524.here hx rfl (pc0 := 20) (pc' := 26) rfl (hb hby d17_20) rfl (flt hc529).2.2.2 (by decide) (by decide) ?_
        show own_S p e below T524 (mkF m 26 (own_loc33 a0 a2 c1) []) _
        refine XS.aloadN X524.here hx rfl (hb hby d17_26) rfl rfl ?_
        refine XS.iloadN X524.here hx rfl (hb hby d17_27) rfl ?_
        refine XS.iload X524.here hx rfl (hb hby d17_28) rfl ?_
        refine XS.i2b X524.here hx rfl (hb hby d17_30) rfl ?_
        show own_S p e below T524 (mkF m 31 (own_loc33 a0 a2 c1) [(.int (c1.toInt8.toInt32)), .int 1, (.ref a2)]) _
        refine st531 _ ?_
        show own_S p e below T531 (mkF m 32 (own_loc33 a0 a2 c1) []) _
        refine XS.iinc X531.here hx rfl (hb hby d17_32) rfl (l' := (own_loc34 a0 a2 c1)) rfl ?_
        show own_S p e below T531 (mkF m 35 (own_loc34 a0 a2 c1) []) _
        refine XS.iinc X531.here hx rfl (hb hby d17_35) rfl (l' := (own_loc35 a0 a2 c1)) rfl ?_
        show own_S p e below T531 (mkF m 38 (own_loc35 a0 a2 c1) []) _
        refine XS.iinc X531.here hx rfl (hb hby d17_38) rfl (l' := (own_loc36 a0 a2 c1)) rfl ?_
        show own_S p e below T531 (mkF m 41 (own_loc36 a0 a2 c1) []) _
        refine XS.goto X531.here hx rfl (pc0 := 41) (pc' := 3) rfl (hb hby d17_41) (by decide) (by decide) ?_
        show own_S p e below T531 (mkF m 3 (own_loc36 a0 a2 c1) []) _
        refine XS.iload X531.here hx rfl (hb hby d17_3) rfl ?_
        refine XS.iload X531.here hx rfl (hb hby d17_5) rfl ?_
        refine XS.icmpNo X531.here hx rfl (hb hby d17_7) rfl (tlt (by decide : (2 : Int32) < (4 : Int32))).2.1 ?_
        show own_S p e below T531 (mkF m 10 (own_loc36 a0 a2 c1) []) _
        refine XS.aloadN X531.here hx rfl (hb hby d17_10) rfl rfl ?_
        refine XS.iloadN X531.here hx rfl (hb hby d17_11) rfl ?_
        show own_S p e below T531 (mkF m 12 (own_loc36 a0 a2 c1) [.int 2, (.ref a0)]) _
        refine ld535 _ ?_
        show own_S p e below T531 (mkF m 13 (own_loc36 a0 a2 c1) [(.int c2)]) _
        refine XS.istore X531.here hx rfl (hb hby d17_13) rfl (l' := (own_loc37 a0 a2 c2)) rfl ?_
        show own_S p e below T531 (mkF m 15 (own_loc37 a0 a2 c2) []) _
        refine XS.iload X531.here hx rfl (hb hby d17_15) rfl ?_
        refine XS.sipush X531.here hx rfl (hb hby d17_17) ?_
        exact kt
      by_cases hc536 : (255 : Int32) < c2
      · obtain ⟨fs, hr, hrun, hended, hW, hsame⟩ := X531.leave (v := some (.int (2 : Int32))) (fun h => by rw [Bd.returns] at h; cases h)
        refine ⟨_, _, pre0 _ ?_, hrun, hended, _, _, rfl, ?_, ⟨_, rfl⟩, hW, hsame.mono (by decide) (by decide)⟩
        · show own_S p e below s₁ (mkF m 0 #[.val (.ref a0), .val (.int 0), .val (.ref a2), .val (.int 0), .val (.int 4), .unset, .unset] []) _
          refine cp537 _ ?_
          show own_S p e below T531 (mkF m 20 (own_loc37 a0 a2 c2) [.int 255, (.int c2)]) _
          refine XS.icmpNo X531.here hx rfl (hb hby d17_20) rfl (tlt hc536).2.2.2 ?_
          show own_S p e below T531 (mkF m 23 (own_loc37 a0 a2 c2) []) _
          refine XS.iload X531.here hx rfl (hb hby d17_23) rfl ?_
          show own_S p e below T531 (mkF m 25 (own_loc37 a0 a2 c2) [.int 2]) _
          exact retI X531 hx Bd.returns (hb hby d17_25) hr
        · show Q17_s4 Z a0 a2 kc c0 c1 c2 c3 kb h0 n0 _ T531.heap _
          rw [e531]
          exact Or.inr (Or.inr (Or.inl ⟨rfl, N531, kp534, hc536⟩))
      · obtain ⟨cl538, Ar538, q538, S538, M538, H538, G538⟩ := id V531
        have hin538 : ¬ ((2 : Int32) < 0 ∨ cl538.slots.size ≤ ((2 : Int32)).toNatClampNeg) := inb_of S538 ⟨(by decide : ¬ (2 : Int32) < 0), (by decide : (2 : Int32) < (4 : Int32))⟩
        obtain ⟨T538, h538, X538, e538, W538, st538⟩ := stB X531 hx hZ e531 Ar538 (j := (2 : Int32)) hin538 (g := (mkF m 31 (own_loc37 a0 a2 c2) [(.int (c2.toInt8.toInt32)), .int 2, (.ref a2)])) rfl rfl (hb hby d17_31)
        have V538 : Arv Z h538 a2 kb .byte (4 : Int32) [(.int (nar .byte (c0.toInt8.toInt32))), (.int (nar .byte (c1.toInt8.toInt32))), (.int (nar .byte (c2.toInt8.toInt32))), (.int (0 : Int32))] (.int (0 : Int32)) := Arv.set Ar538 q538 S538 M538 H538 G538 (fits_nar_byte _) W538 2 rfl (Nat.le_of_ble_eq_true rfl)
        have x539 := x532.other W538 ne_a0_a2
        have sz540 : n0 ≤ h538.size := Nat.le_trans sz533 (Keep.of_wr W538).1
        have kp541 : Keep h0 h538 [a2] := kp534.wr W538 (Or.inl (List.mem_of_getElem? (i := 0) rfl))
        have N538 := Fr.snoc X538 N531 ge_a2
        obtain ⟨cl542, Ar542, q542, S542, M542, H542, G542⟩ := id x539
        have hin542 : ¬ ((3 : Int32) < 0 ∨ cl542.slots.size ≤ ((3 : Int32)).toNatClampNeg) := inb_of S542 ⟨(by decide : ¬ (3 : Int32) < 0), (by decide : (3 : Int32) < (4 : Int32))⟩
        have hat542 : cl542.slots[((3 : Int32)).toNatClampNeg]? = some (.int c3) := Has.at H542 hin542 rfl
        have ld542 := X538.caload hx (j := (3 : Int32)) (v := (.int c3)) (by rw [e538]; exact Ar542.1) (State.isArrayOf_alike hZ.alike Ar542.2.1) Ar542.2.2 hin542 hat542 (g := (mkF m 12 (own_loc40 a0 a2 c2) [.int 3, (.ref a0)])) rfl rfl (hb hby d17_12)
        have cp544 : ∀ target, own_S p e below T538 (mkF m 20 (own_loc41 a0 a2 c3) [.int 255, (.int c3)]) target → own_S p e below s₁ (mkF m 0 #[.val (.ref a0), .val (.int 0), .val (.ref a2), .val (.int 0), .val (.int 4), .unset, .unset] []) target := by
          intro target kt
          show own_S p e below s₁ (mkF m 0 #[.val (.ref a0), .val (.int 0), .val (.ref a2), .val (.int 0), .val (.int 4), .unset, .unset] []) _
          refine cp537 _ ?_
          show own_S p e below T531 (mkF m 20 (own_loc37 a0 a2 c2) [.int 255, (.int c2)]) _
          refine XS.icmpYes X531.here hx rfl (pc0 := 20) (pc' := 26) rfl (hb hby d17_20) rfl (flt hc536).2.2.2 (by decide) (by decide) ?_
          show own_S p e below T531 (mkF m 26 (own_loc37 a0 a2 c2) []) _
          refine XS.aloadN X531.here hx rfl (hb hby d17_26) rfl rfl ?_
          refine XS.iloadN X531.here hx rfl (hb hby d17_27) rfl ?_
          refine XS.iload X531.here hx rfl (hb hby d17_28) rfl ?_
          refine XS.i2b X531.here hx rfl (hb hby d17_30) rfl ?_
          show own_S p e below T531 (mkF m 31 (own_loc37 a0 a2 c2) [(.int (c2.toInt8.toInt32)), .int 2, (.ref a2)]) _
          refine st538 _ ?_
          show own_S p e below T538 (mkF m 32 (own_loc37 a0 a2 c2) []) _
          refine XS.iinc X538.here hx rfl (hb hby d17_32) rfl (l' := (own_loc38 a0 a2 c2)) rfl ?_
          show own_S p e below T538 (mkF m 35 (own_loc38 a0 a2 c2) []) _
          refine XS.iinc X538.here hx rfl (hb hby d17_35) rfl (l' := (own_loc39 a0 a2 c2)) rfl ?_
          show own_S p e below T538 (mkF m 38 (own_loc39 a0 a2 c2) []) _
          refine XS.iinc X538.here hx rfl (hb hby d17_38) rfl (l' := (own_loc40 a0 a2 c2)) rfl ?_
          show own_S p e below T538 (mkF m 41 (own_loc40 a0 a2 c2) []) _
          refine XS.goto X538.here hx rfl (pc0 := 41) (pc' := 3) rfl (hb hby d17_41) (by decide) (by decide) ?_
          show own_S p e below T538 (mkF m 3 (own_loc40 a0 a2 c2) []) _
          refine XS.iload X538.here hx rfl (hb hby d17_3) rfl ?_
          refine XS.iload X538.here hx rfl (hb hby d17_5) rfl ?_
          refine XS.icmpNo X538.here hx rfl (hb hby d17_7) rfl (tlt (by decide : (3 : Int32) < (4 : Int32))).2.1 ?_
          show own_S p e below T538 (mkF m 10 (own_loc40 a0 a2 c2) []) _
          refine XS.aloadN X538.here hx rfl (hb hby d17_10) rfl rfl ?_
          refine XS.iloadN X538.here hx rfl (hb hby d17_11) rfl ?_
          show own_S p e below T538 (mkF m 12 (own_loc40 a0 a2 c2) [.int 3, (.ref a0)]) _
          refine ld542 _ ?_
          show own_S p e below T538 (mkF m 13 (own_loc40 a0 a2 c2) [(.int c3)]) _
          refine XS.istore X538.here hx rfl (hb hby d17_13) rfl (l' := (own_loc41 a0 a2 c3)) rfl ?_
          show own_S p e below T538 (mkF m 15 (own_loc41 a0 a2 c3) []) _
          refine XS.iload X538.here hx rfl (hb hby d17_15) rfl ?_
          refine XS.sipush X538.here hx rfl (hb hby d17_17) ?_
          exact kt
        by_cases hc543 : (255 : Int32) < c3
        · obtain ⟨fs, hr, hrun, hended, hW, hsame⟩ := X538.leave (v := some (.int (3 : Int32))) (fun h => by rw [Bd.returns] at h; cases h)
          refine ⟨_, _, pre0 _ ?_, hrun, hended, _, _, rfl, ?_, ⟨_, rfl⟩, hW, hsame.mono (by decide) (by decide)⟩
          · show own_S p e below s₁ (mkF m 0 #[.val (.ref a0), .val (.int 0), .val (.ref a2), .val (.int 0), .val (.int 4), .unset, .unset] []) _
            refine cp544 _ ?_
            show own_S p e below T538 (mkF m 20 (own_loc41 a0 a2 c3) [.int 255, (.int c3)]) _
            refine XS.icmpNo X538.here hx rfl (hb hby d17_20) rfl (tlt hc543).2.2.2 ?_
            show own_S p e below T538 (mkF m 23 (own_loc41 a0 a2 c3) []) _
            refine XS.iload X538.here hx rfl (hb hby d17_23) rfl ?_
            show own_S p e below T538 (mkF m 25 (own_loc41 a0 a2 c3) [.int 3]) _
            exact retI X538 hx Bd.returns (hb hby d17_25) hr
          · show Q17_s4 Z a0 a2 kc c0 c1 c2 c3 kb h0 n0 _ T538.heap _
            rw [e538]
            exact Or.inr (Or.inr (Or.inr (Or.inl ⟨rfl, N538, kp541, hc543⟩)))
        · obtain ⟨cl545, Ar545, q545, S545, M545, H545, G545⟩ := id V538
          have hin545 : ¬ ((3 : Int32) < 0 ∨ cl545.slots.size ≤ ((3 : Int32)).toNatClampNeg) := inb_of S545 ⟨(by decide : ¬ (3 : Int32) < 0), (by decide : (3 : Int32) < (4 : Int32))⟩
          obtain ⟨T545, h545, X545, e545, W545, st545⟩ := stB X538 hx hZ e538 Ar545 (j := (3 : Int32)) hin545 (g := (mkF m 31 (own_loc41 a0 a2 c3) [(.int (c3.toInt8.toInt32)), .int 3, (.ref a2)])) rfl rfl (hb hby d17_31)
          have V545 : Arv Z h545 a2 kb .byte (4 : Int32) [(.int (nar .byte (c0.toInt8.toInt32))), (.int (nar .byte (c1.toInt8.toInt32))), (.int (nar .byte (c2.toInt8.toInt32))), (.int (nar .byte (c3.toInt8.toInt32)))] (.int (0 : Int32)) := Arv.set Ar545 q545 S545 M545 H545 G545 (fits_nar_byte _) W545 3 rfl (Nat.le_of_ble_eq_true rfl)
          have x546 := x539.other W545 ne_a0_a2
          have sz547 : n0 ≤ h545.size := Nat.le_trans sz540 (Keep.of_wr W545).1
          have kp548 : Keep h0 h545 [a2] := kp541.wr W545 (Or.inl (List.mem_of_getElem? (i := 0) rfl))
          have N545 := Fr.snoc X545 N538 ge_a2
          obtain ⟨fs, hr, hrun, hended, hW, hsame⟩ := X545.leave (v := some (.int (4 : Int32))) (fun h => by rw [Bd.returns] at h; cases h)
          refine ⟨_, _, pre0 _ ?_, hrun, hended, _, _, rfl, ?_, ⟨_, rfl⟩, hW, hsame.mono (by decide) (by decide)⟩
          · show own_S p e below s₁ (mkF m 0 #[.val (.ref a0), .val (.int 0), .val (.ref a2), .val (.int 0), .val (.int 4), .unset, .unset] []) _
            refine cp544 _ ?_
            show own_S p e below T538 (mkF m 20 (own_loc41 a0 a2 c3) [.int 255, (.int c3)]) _
            refine XS.icmpYes X538.here hx rfl (pc0 := 20) (pc' := 26) rfl (hb hby d17_20) rfl (flt hc543).2.2.2 (by decide) (by decide) ?_
            show own_S p e below T538 (mkF m 26 (own_loc41 a0 a2 c3) []) _
            refine XS.aloadN X538.here hx rfl (hb hby d17_26) rfl rfl ?_
            refine XS.iloadN X538.here hx rfl (hb hby d17_27) rfl ?_
            refine XS.iload X538.here hx rfl (hb hby d17_28) rfl ?_
            refine XS.i2b X538.here hx rfl (hb hby d17_30) rfl ?_
            show own_S p e below T538 (mkF m 31 (own_loc41 a0 a2 c3) [(.int (c3.toInt8.toInt32)), .int 3, (.ref a2)]) _
            refine st545 _ ?_
            show own_S p e below T545 (mkF m 32 (own_loc41 a0 a2 c3) []) _
            refine XS.iinc X545.here hx rfl (hb hby d17_32) rfl (l' := (own_loc42 a0 a2 c3)) rfl ?_
            show own_S p e below T545 (mkF m 35 (own_loc42 a0 a2 c3) []) _
            refine XS.iinc X545.here hx rfl (hb hby d17_35) rfl (l' := (own_loc43 a0 a2 c3)) rfl ?_
            show own_S p e below T545 (mkF m 38 (own_loc43 a0 a2 c3) []) _
            refine XS.iinc X545.here hx rfl (hb hby d17_38) rfl (l' := (own_loc44 a0 a2 c3)) rfl ?_
            show own_S p e below T545 (mkF m 41 (own_loc44 a0 a2 c3) []) _
            refine XS.goto X545.here hx rfl (pc0 := 41) (pc' := 3) rfl (hb hby d17_41) (by decide) (by decide) ?_
            show own_S p e below T545 (mkF m 3 (own_loc44 a0 a2 c3) []) _
            refine XS.iload X545.here hx rfl (hb hby d17_3) rfl ?_
            refine XS.iload X545.here hx rfl (hb hby d17_5) rfl ?_
            refine XS.icmpYes X545.here hx rfl (pc0 := 7) (pc' := 44) rfl (hb hby d17_7) rfl (flt (by decide : ¬ ((4 : Int32) < (4 : Int32)))).2.1 (by decide) (by decide) ?_
            show own_S p e below T545 (mkF m 44 (own_loc44 a0 a2 c3) []) _
            refine XS.iload X545.here hx rfl (hb hby d17_44) rfl ?_
            show own_S p e below T545 (mkF m 46 (own_loc44 a0 a2 c3) [.int 4]) _
            exact retI X545 hx Bd.returns (hb hby d17_46) hr
          · show Q17_s4 Z a0 a2 kc c0 c1 c2 c3 kb h0 n0 _ T545.heap _
            rw [e545]
            exact Or.inr (Or.inr (Or.inr (Or.inr (⟨rfl, N545, kp548, V545, hc522, hc529, hc536, hc543⟩))))
theorem ef_16_v04 (m : MethodId) (a0 : Addr) : entryFrame m #[(.ref a0), (.int (0 : Int32)), (.int (4 : Int32))] 6 = mkF m 0 #[.val (.ref a0), .val (.int 0), .val (.int 4), .unset, .unset, .unset] [] := by first | (simp [entryFrame, mkF, argsToLocals, Value.category]; done) | rfl
def Q16_s4 (Z : State) (a0 : Addr) (kc : ClassId) (c0 : Int32) (c1 : Int32) (c2 : Int32) (c3 : Int32) (h0 : Heap) (n0 : Nat) (v : Option Value) (h : Heap) (L : List Loc) : Prop := ∃ (r : Addr) (kb : ClassId) (nb : Int32) (vs : List Value), v = some (.ref r) ∧ Fr n0 L ∧ Keep h0 h [] ∧ n0 ≤ r ∧ h0.size ≤ r ∧ Arv Z h r kb .byte nb vs (.int (0 : Int32)) ∧ ((nb = (4 : Int32) ∧ vs = [(.int (nar .byte (c0.toInt8.toInt32))), (.int (nar .byte (c1.toInt8.toInt32))), (.int (nar .byte (c2.toInt8.toInt32))), (.int (nar .byte (c3.toInt8.toInt32)))] ∧ ¬ ((255 : Int32) < c0) ∧ ¬ ((255 : Int32) < c1) ∧ ¬ ((255 : Int32) < c2) ∧ ¬ ((255 : Int32) < c3)) ∨ (nb = (8 : Int32) ∧ vs = [(.int (nar .byte ((c0 >>> ((0 : Int32) &&& 31)).toInt8.toInt32))), (.int (nar .byte ((c0 >>> ((8 : Int32) &&& 31)).toInt8.toInt32))), (.int (nar .byte ((c1 >>> ((0 : Int32) &&& 31)).toInt8.toInt32))), (.int (nar .byte ((c1 >>> ((8 : Int32) &&& 31)).toInt8.toInt32))), (.int (nar .byte ((c2 >>> ((0 : Int32) &&& 31)).toInt8.toInt32))), (.int (nar .byte ((c2 >>> ((8 : Int32) &&& 31)).toInt8.toInt32))), (.int (nar .byte ((c3 >>> ((0 : Int32) &&& 31)).toInt8.toInt32))), (.int (nar .byte ((c3 >>> ((8 : Int32) &&& 31)).toInt8.toInt32)))]))
set_option maxRecDepth 65536 in
set_option maxHeartbeats 40000000 in
theorem rm16_s4 (l : Launch) (Z : State) (ag : Array Value) (hw : ∀ d ∈ tables_1, d.before ag Z = true) (ws : List Jvm.Cond) (a0 : Addr) (kc : ClassId) (c0 : Int32) (c1 : Int32) (c2 : Int32) (c3 : Int32) (h0 : Heap) (n0 : Nat) (Z0 : n0 ≤ h0.size) (V_a0 : Arv Z h0 a0 kc .char (4 : Int32) [(.int c0), (.int c1), (.int c2), (.int c3)] (.int (0 : Int32))) (hr_c0 : 0 ≤ c0.toInt ∧ c0.toInt < 65536) (hr_c1 : 0 ≤ c1.toInt ∧ c1.toInt < 65536) (hr_c2 : 0 ≤ c2.toInt ∧ c2.toInt < 65536) (hr_c3 : 0 ≤ c3.toInt ∧ c3.toInt < 65536) (O_ : Old Z n0 h0) (S_ad : Sta Z Z.heap "java/lang/StringUTF16" "$assertionsDisabled" "Z" (.int (1 : Int32))) (S_hi : Sta Z Z.heap "java/lang/StringUTF16" "HI_BYTE_SHIFT" "I" (.int (0 : Int32))) (S_lo : Sta Z Z.heap "java/lang/StringUTF16" "LO_BYTE_SHIFT" "I" (.int (8 : Int32))) :
    MetFree l (⟨"java/lang/StringUTF16", "compress", "([CII)[B"⟩ : MethodName) (head1 (Jvm.Cond.code (⟨"java/lang/StringUTF16", "compress", "([CII)[B"⟩ : MethodName) jdk_52_method_16_code 6 (some (.array .byte)) :: ws) ({ frames := 3, cells := 2, slots := 12, locals := 40 } : Room)) (fun a U => a = #[(.ref a0), (.int (0 : Int32)), (.int (4 : Int32))] ∧ Z.Warmed39 U.vm ∧ U.heap = h0) (fun _ _ _ _ _ => True) (fun _ U o U' => ∃ v L, o = .returned v ∧ Q16_s4 Z a0 kc c0 c1 c2 c3 h0 n0 v U'.heap L ∧ FrameEnd U o U' L ({ frames := 3, cells := 2, slots := 12, locals := 40 } : Room).cells ({ frames := 3, cells := 2, slots := 12, locals := 40 } : Room).slots) := by
  refine MetFree.of_bodySF (plainFor_of_name pn_6) hisR ?_
  intro p e s m args below meth c s₁ Bd hml0 hP hK
  obtain ⟨rfl, hZ, hh⟩ := hP
  have hx := Bd.exec
  have hby := Bd.bytes
  have hml : c.maxLocals = 6 := hml0
  have hown : s.vm.findClass "java/lang/StringUTF16" = some m.cls := findClass_of_methodNamed Bd.named
  have hnm := (name_of_methodNamed Bd.named Bd.method).1
  have X0 : Stand p l e ({ frames := 3, cells := 2, slots := 12, locals := 40 } : Room) s m #[(.ref a0), (.int (0 : Int32)), (.int (4 : Int32))] below meth c s₁ [] 0 0 := Stand.of_body Bd
  have e0 : s₁.heap = h0 := by rw [← hh, Bd.state]; rfl
  have N0 := Fr.nil n0
  have pre0 : ∀ t, Steps p.tables e below (s₁.setTop (mkF m 0 #[.val (.ref a0), .val (.int 0), .val (.int 4), .unset, .unset, .unset] [])) t → Steps p.tables e below (s₁.setTop (entryFrame m #[(.ref a0), (.int (0 : Int32)), (.int (4 : Int32))] 6)) t := fun t k => castTop (ef_16_v04 m a0) k
  obtain ⟨T549, h549, k549, X549, e549, E549, A549, st549⟩ := newP X0 hx hZ (own_wk hw 7 rfl) e0 (g := (mkF m 1 #[.val (.ref a0), .val (.int 0), .val (.int 4), .unset, .unset, .unset] [.int 4])) rfl (hb hby d16_1) rfl (by decide) (cap := 4) (by decide) (by decide) (by decide) (by decide)
  obtain ⟨b549, g549⟩ : ∃ z, z = h0.size := ⟨_, rfl⟩
  have ne550 : a0 ≠ b549 := Nat.ne_of_lt (Nat.lt_of_lt_of_le V_a0.lt (Nat.le_of_eq g549.symm))
  have ge_b549 : n0 ≤ b549 := Nat.le_trans Z0 (Nat.le_of_eq g549.symm)
  have gs_b549 : h0.size ≤ b549 := Nat.le_trans (Keep.refl h0 []).1 (Nat.le_of_eq g549.symm)
  rw [← g549] at A549 st549
  have x551 := V_a0.ext E549
  have x552 := O_.ext E549
  have sz553 : n0 ≤ h549.size := Nat.le_trans Z0 E549.1
  have kp554 : Keep h0 h549 [] := (Keep.refl h0 []).ext E549
  have V549 : Arv Z h549 b549 k549 .byte (4 : Int32) [(.int (0 : Int32)), (.int (0 : Int32)), (.int (0 : Int32)), (.int (0 : Int32))] (.int (0 : Int32)) := (Arv.new A549 (by decide)).pad (pad_rep [] (.int (0 : Int32)) 4)
  obtain ⟨_, _, ⟨T555, L555, k555, n555⟩, -, X555, ⟨Lc555, hQ555, l555, y555, z555⟩, st555⟩ := Jvm.LawKit.callS X549 hx (y := (⟨"java/lang/StringUTF16", "compress", "([CI[BII)I"⟩ : MethodName)) hown (mvT hZ (own_wk hw 79 rfl)) (mvT hZ (own_wk hw 80 rfl)) (mvT hZ (own_wk hw 77 rfl)) (mvT hZ (own_wk hw 81 rfl)) (by decide) (backOf (W := 0) (rm17_s4 l Z ag hw [] a0 b549 kc c0 c1 c2 c3 k549 h549 n0 sz553 x551 hr_c0 hr_c1 hr_c2 hr_c3 V549 ge_b549 ne550) hZ (own_wk hw 81 rfl) (own_wk hw 77 rfl) (by decide) (by decide)) (g := (mkF m 9 #[.val (.ref a0), .val (.int 0), .val (.int 4), .val (.ref b549), .unset, .unset] [.int 4, .int 0, (.ref b549), .int 0, (.ref a0)])) rfl (by rw [hml]; rfl) (argsL := [(.ref a0), (.int (0 : Int32)), (.ref b549), (.int (0 : Int32)), (.int (4 : Int32))]) (rest := []) (lenOf pd_25 rfl) rfl (by show 2 * 0 + _ ≤ _; exact Nat.le_of_eq rfl) (hb hby d16_9) (fun _ _ => ⟨rfl, e549, (by decide : 1 + 0 ≤ _), (by decide : 4 + 0 ≤ _)⟩)
  dsimp only [Pt.U, Pt.locs, Pt.cells, Pt.slots] at X555 l555 y555 z555 st555 hQ555
  subst l555 y555 z555
  rcases hQ555 with q555 | q555 | q555 | q555 | q555
  · obtain ⟨rfl, N555q, K555, hbig555⟩ := q555
    have N555 := Fr.app N0 N555q
    have x556 := x551.keep K555 (ninS ne550 nin0)
    have x557 := x552.keep K555 (allS ge_b549 all0)
    have sz558 : n0 ≤ T555.heap.size := Nat.le_trans sz553 K555.1
    have kp559 : Keep h0 T555.heap [] := kp554.trans K555 (allS (Or.inr gs_b549) all0)
    obtain ⟨_, _, ⟨T560, L560, k560, n560⟩, -, X560, ⟨Lc560, hQ560, l560, y560, z560⟩, st560⟩ := Jvm.LawKit.callS X555 hx (y := (⟨"java/lang/StringUTF16", "toBytes", "([CII)[B"⟩ : MethodName)) hown (mvT hZ (own_wk hw 117 rfl)) (mvT hZ (own_wk hw 118 rfl)) (mvT hZ (own_wk hw 77 rfl)) (mvT hZ (own_wk hw 119 rfl)) (by decide) (backOf (W := 0) (rm27_s4 l Z ag hw [] a0 kc c0 c1 c2 c3 T555.heap n0 sz558 x556 hr_c0 hr_c1 hr_c2 hr_c3 x557 S_ad S_hi S_lo) hZ (own_wk hw 119 rfl) (own_wk hw 77 rfl) (by decide) (by decide)) (g := (mkF m 23 #[.val (.ref a0), .val (.int 0), .val (.int 4), .val (.ref b549), .val (.int 0), .unset] [.int 4, .int 0, (.ref a0)])) rfl (by rw [hml]; rfl) (argsL := [(.ref a0), (.int (0 : Int32)), (.int (4 : Int32))]) (rest := []) (lenOf pd_23 rfl) rfl (by show 2 * 0 + _ ≤ _; exact Nat.le_of_eq rfl) (hb hby d16_23) (fun _ _ => ⟨rfl, rfl, (by decide : 1 + 1 ≤ _), (by decide : 4 + 8 ≤ _)⟩)
    dsimp only [Pt.U, Pt.locs, Pt.cells, Pt.slots] at X560 l560 y560 z560 st560 hQ560
    subst l560 y560 z560
    obtain ⟨r560, kr560, rfl, N560q, K560, ge_r560, gq_r560, Vr560⟩ := hQ560
    have N560 := Fr.app N555 N560q
    have ne561 : a0 ≠ r560 := Nat.ne_of_lt (Nat.lt_of_lt_of_le x556.lt gq_r560)
    have gs_r560 : h0.size ≤ r560 := Nat.le_trans kp559.1 gq_r560
    have x562 := x556.keep K560 nin0
    have x563 := x557.keep K560 all0
    have sz564 : n0 ≤ T560.heap.size := Nat.le_trans sz558 K560.1
    have kp565 : Keep h0 T560.heap [] := kp559.trans K560 all0
    have cp566 : ∀ target, own_S p e below T560 (mkF m 32 #[.val (.ref a0), .val (.int 0), .val (.int 4), .val (.ref b549), .val (.int 0), .val (.ref r560)] [.int 0, (.ref r560)]) target → own_S p e below s₁ (mkF m 0 #[.val (.ref a0), .val (.int 0), .val (.int 4), .unset, .unset, .unset] []) target := by
      intro target kt
      show own_S p e below s₁ (mkF m 0 #[.val (.ref a0), .val (.int 0), .val (.int 4), .unset, .unset, .unset] []) _
      refine XS.iloadN X0.here hx rfl (hb hby d16_0) rfl ?_
      show own_S p e below s₁ (mkF m 1 #[.val (.ref a0), .val (.int 0), .val (.int 4), .unset, .unset, .unset] [.int 4]) _
      refine st549 _ ?_
      show own_S p e below T549 (mkF m 3 #[.val (.ref a0), .val (.int 0), .val (.int 4), .unset, .unset, .unset] [(.ref b549)]) _
      refine XS.astoreN X549.here hx rfl (hb hby d16_3) rfl rfl (l' := #[.val (.ref a0), .val (.int 0), .val (.int 4), .val (.ref b549), .unset, .unset]) rfl ?_
      show own_S p e below T549 (mkF m 4 #[.val (.ref a0), .val (.int 0), .val (.int 4), .val (.ref b549), .unset, .unset] []) _
      refine XS.aloadN X549.here hx rfl (hb hby d16_4) rfl rfl ?_
      refine XS.iloadN X549.here hx rfl (hb hby d16_5) rfl ?_
      refine XS.aloadN X549.here hx rfl (hb hby d16_6) rfl rfl ?_
      refine XS.iconst X549.here hx rfl (hb hby d16_7) ?_
      refine XS.iloadN X549.here hx rfl (hb hby d16_8) rfl ?_
      show own_S p e below T549 (mkF m 9 #[.val (.ref a0), .val (.int 0), .val (.int 4), .val (.ref b549), .unset, .unset] [.int 4, .int 0, (.ref b549), .int 0, (.ref a0)]) _
      refine st555 _ ?_
      show own_S p e below T555 (mkF m 12 #[.val (.ref a0), .val (.int 0), .val (.int 4), .val (.ref b549), .unset, .unset] [.int 0]) _
      refine XS.istore X555.here hx rfl (hb hby d16_12) rfl (l' := #[.val (.ref a0), .val (.int 0), .val (.int 4), .val (.ref b549), .val (.int 0), .unset]) rfl ?_
      show own_S p e below T555 (mkF m 14 #[.val (.ref a0), .val (.int 0), .val (.int 4), .val (.ref b549), .val (.int 0), .unset] []) _
      refine XS.iload X555.here hx rfl (hb hby d16_14) rfl ?_
      refine XS.iloadN X555.here hx rfl (hb hby d16_16) rfl ?_
      refine XS.icmpNo X555.here hx rfl (hb hby d16_17) rfl (feq (by decide : ¬ ((0 : Int32) = (4 : Int32)))).1 ?_
      show own_S p e below T555 (mkF m 20 #[.val (.ref a0), .val (.int 0), .val (.int 4), .val (.ref b549), .val (.int 0), .unset] []) _
      refine XS.aloadN X555.here hx rfl (hb hby d16_20) rfl rfl ?_
      refine XS.iloadN X555.here hx rfl (hb hby d16_21) rfl ?_
      refine XS.iloadN X555.here hx rfl (hb hby d16_22) rfl ?_
      show own_S p e below T555 (mkF m 23 #[.val (.ref a0), .val (.int 0), .val (.int 4), .val (.ref b549), .val (.int 0), .unset] [.int 4, .int 0, (.ref a0)]) _
      refine st560 _ ?_
      show own_S p e below T560 (mkF m 26 #[.val (.ref a0), .val (.int 0), .val (.int 4), .val (.ref b549), .val (.int 0), .unset] [(.ref r560)]) _
      refine XS.astore X560.here hx rfl (hb hby d16_26) rfl rfl (l' := #[.val (.ref a0), .val (.int 0), .val (.int 4), .val (.ref b549), .val (.int 0), .val (.ref r560)]) rfl ?_
      show own_S p e below T560 (mkF m 28 #[.val (.ref a0), .val (.int 0), .val (.int 4), .val (.ref b549), .val (.int 0), .val (.ref r560)] []) _
      refine XS.aload X560.here hx rfl (hb hby d16_28) rfl rfl ?_
      refine XS.iload X560.here hx rfl (hb hby d16_30) rfl ?_
      exact kt
    obtain ⟨_, _, ⟨T567, L567, k567, n567⟩, -, X567, ⟨Lc567, hQ567, l567, y567, z567⟩, st567⟩ := Jvm.LawKit.callS X560 hx (y := (⟨"java/lang/StringUTF16", "getChar", "([BI)C"⟩ : MethodName)) hown (mvT hZ (own_wk hw 133 rfl)) (mvT hZ (own_wk hw 134 rfl)) (mvT hZ (own_wk hw 77 rfl)) (mvT hZ (own_wk hw 135 rfl)) (by decide) (backOf (W := 0) (rm31 l Z ag hw [] r560 (0 : Int32) kr560 (8 : Int32) [(.int (nar .byte ((c0 >>> ((0 : Int32) &&& 31)).toInt8.toInt32))), (.int (nar .byte ((c0 >>> ((8 : Int32) &&& 31)).toInt8.toInt32))), (.int (nar .byte ((c1 >>> ((0 : Int32) &&& 31)).toInt8.toInt32))), (.int (nar .byte ((c1 >>> ((8 : Int32) &&& 31)).toInt8.toInt32))), (.int (nar .byte ((c2 >>> ((0 : Int32) &&& 31)).toInt8.toInt32))), (.int (nar .byte ((c2 >>> ((8 : Int32) &&& 31)).toInt8.toInt32))), (.int (nar .byte ((c3 >>> ((0 : Int32) &&& 31)).toInt8.toInt32))), (.int (nar .byte ((c3 >>> ((8 : Int32) &&& 31)).toInt8.toInt32)))] (nar .byte ((c0 >>> ((0 : Int32) &&& 31)).toInt8.toInt32)) (nar .byte ((c0 >>> ((8 : Int32) &&& 31)).toInt8.toInt32)) T560.heap n0 sz564 Vr560 (by decide) (by decide) rfl rfl x563 S_ad S_hi S_lo) hZ (own_wk hw 135 rfl) (own_wk hw 77 rfl) (by decide) (by decide)) (g := (mkF m 32 #[.val (.ref a0), .val (.int 0), .val (.int 4), .val (.ref b549), .val (.int 0), .val (.ref r560)] [.int 0, (.ref r560)])) rfl (by rw [hml]; rfl) (argsL := [(.ref r560), (.int (0 : Int32))]) (rest := []) (lenOf pd_19 rfl) rfl (by show 2 * 0 + _ ≤ _; exact Nat.le_of_eq rfl) (hb hby d16_32) (fun _ _ => ⟨rfl, rfl, (by decide : 2 + 0 ≤ _), (by decide : 12 + 0 ≤ _)⟩)
    dsimp only [Pt.U, Pt.locs, Pt.cells, Pt.slots] at X567 l567 y567 z567 st567 hQ567
    subst l567 y567 z567
    obtain ⟨rfl, N567q, e567⟩ := hQ567
    have N567 := Fr.app N560 N567q
    obtain ⟨fs, hr, hrun, hended, hW, hsame⟩ := X567.leave (v := some (.ref r560)) (fun h => by rw [Bd.returns] at h; cases h)
    refine ⟨_, _, pre0 _ ?_, hrun, hended, _, _, rfl, ?_, ⟨_, rfl⟩, hW, hsame.mono (by decide) (by decide)⟩
    · show own_S p e below s₁ (mkF m 0 #[.val (.ref a0), .val (.int 0), .val (.int 4), .unset, .unset, .unset] []) _
      refine cp566 _ ?_
      show own_S p e below T560 (mkF m 32 #[.val (.ref a0), .val (.int 0), .val (.int 4), .val (.ref b549), .val (.int 0), .val (.ref r560)] [.int 0, (.ref r560)]) _
      refine st567 _ ?_
      show own_S p e below T567 (mkF m 35 #[.val (.ref a0), .val (.int 0), .val (.int 4), .val (.ref b549), .val (.int 0), .val (.ref r560)] [(.int (own_gc (nar .byte ((c0 >>> ((0 : Int32) &&& 31)).toInt8.toInt32)) (nar .byte ((c0 >>> ((8 : Int32) &&& 31)).toInt8.toInt32))))]) _
      refine XS.sipush X567.here hx rfl (hb hby d16_35) ?_
      refine XS.icmpYes X567.here hx rfl (pc0 := 38) (pc' := 54) rfl (hb hby d16_38) rfl (tlt (show (255 : Int32) < (own_gc (nar .byte ((c0 >>> ((0 : Int32) &&& 31)).toInt8.toInt32)) (nar .byte ((c0 >>> ((8 : Int32) &&& 31)).toInt8.toInt32))) from (by rw [own_gc_back c0 hr_c0]; exact hbig555))).2.2.1 (by decide) (by decide) ?_
      show own_S p e below T567 (mkF m 54 #[.val (.ref a0), .val (.int 0), .val (.int 4), .val (.ref b549), .val (.int 0), .val (.ref r560)] []) _
      refine XS.aload X567.here hx rfl (hb hby d16_54) rfl rfl ?_
      show own_S p e below T567 (mkF m 56 #[.val (.ref a0), .val (.int 0), .val (.int 4), .val (.ref b549), .val (.int 0), .val (.ref r560)] [(.ref r560)]) _
      exact Jvm.RoadKit.retOut X567 hx Bd.returns rfl (Or.inr (Or.inr (Or.inr (Or.inr ⟨rfl, rfl, rfl⟩)))) (hb hby d16_56) hr
    · show Q16_s4 Z a0 kc c0 c1 c2 c3 h0 n0 _ T567.heap _
      rw [e567]
      exact ⟨r560, kr560, (8 : Int32), _, rfl, N567, kp565, ge_r560, gs_r560, Vr560, Or.inr ⟨rfl, rfl⟩⟩
  · obtain ⟨rfl, N555q, K555, hbig555⟩ := q555
    have N555 := Fr.app N0 N555q
    have x568 := x551.keep K555 (ninS ne550 nin0)
    have x569 := x552.keep K555 (allS ge_b549 all0)
    have sz570 : n0 ≤ T555.heap.size := Nat.le_trans sz553 K555.1
    have kp571 : Keep h0 T555.heap [] := kp554.trans K555 (allS (Or.inr gs_b549) all0)
    obtain ⟨_, _, ⟨T572, L572, k572, n572⟩, -, X572, ⟨Lc572, hQ572, l572, y572, z572⟩, st572⟩ := Jvm.LawKit.callS X555 hx (y := (⟨"java/lang/StringUTF16", "toBytes", "([CII)[B"⟩ : MethodName)) hown (mvT hZ (own_wk hw 117 rfl)) (mvT hZ (own_wk hw 118 rfl)) (mvT hZ (own_wk hw 77 rfl)) (mvT hZ (own_wk hw 119 rfl)) (by decide) (backOf (W := 0) (rm27_s4 l Z ag hw [] a0 kc c0 c1 c2 c3 T555.heap n0 sz570 x568 hr_c0 hr_c1 hr_c2 hr_c3 x569 S_ad S_hi S_lo) hZ (own_wk hw 119 rfl) (own_wk hw 77 rfl) (by decide) (by decide)) (g := (mkF m 23 #[.val (.ref a0), .val (.int 0), .val (.int 4), .val (.ref b549), .val (.int 1), .unset] [.int 4, .int 0, (.ref a0)])) rfl (by rw [hml]; rfl) (argsL := [(.ref a0), (.int (0 : Int32)), (.int (4 : Int32))]) (rest := []) (lenOf pd_23 rfl) rfl (by show 2 * 0 + _ ≤ _; exact Nat.le_of_eq rfl) (hb hby d16_23) (fun _ _ => ⟨rfl, rfl, (by decide : 1 + 1 ≤ _), (by decide : 4 + 8 ≤ _)⟩)
    dsimp only [Pt.U, Pt.locs, Pt.cells, Pt.slots] at X572 l572 y572 z572 st572 hQ572
    subst l572 y572 z572
    obtain ⟨r572, kr572, rfl, N572q, K572, ge_r572, gq_r572, Vr572⟩ := hQ572
    have N572 := Fr.app N555 N572q
    have ne573 : a0 ≠ r572 := Nat.ne_of_lt (Nat.lt_of_lt_of_le x568.lt gq_r572)
    have gs_r572 : h0.size ≤ r572 := Nat.le_trans kp571.1 gq_r572
    have x574 := x568.keep K572 nin0
    have x575 := x569.keep K572 all0
    have sz576 : n0 ≤ T572.heap.size := Nat.le_trans sz570 K572.1
    have kp577 : Keep h0 T572.heap [] := kp571.trans K572 all0
    have cp578 : ∀ target, own_S p e below T572 (mkF m 32 #[.val (.ref a0), .val (.int 0), .val (.int 4), .val (.ref b549), .val (.int 1), .val (.ref r572)] [.int 1, (.ref r572)]) target → own_S p e below s₁ (mkF m 0 #[.val (.ref a0), .val (.int 0), .val (.int 4), .unset, .unset, .unset] []) target := by
      intro target kt
      show own_S p e below s₁ (mkF m 0 #[.val (.ref a0), .val (.int 0), .val (.int 4), .unset, .unset, .unset] []) _
      refine XS.iloadN X0.here hx rfl (hb hby d16_0) rfl ?_
      show own_S p e below s₁ (mkF m 1 #[.val (.ref a0), .val (.int 0), .val (.int 4), .unset, .unset, .unset] [.int 4]) _
      refine st549 _ ?_
      show own_S p e below T549 (mkF m 3 #[.val (.ref a0), .val (.int 0), .val (.int 4), .unset, .unset, .unset] [(.ref b549)]) _
      refine XS.astoreN X549.here hx rfl (hb hby d16_3) rfl rfl (l' := #[.val (.ref a0), .val (.int 0), .val (.int 4), .val (.ref b549), .unset, .unset]) rfl ?_
      show own_S p e below T549 (mkF m 4 #[.val (.ref a0), .val (.int 0), .val (.int 4), .val (.ref b549), .unset, .unset] []) _
      refine XS.aloadN X549.here hx rfl (hb hby d16_4) rfl rfl ?_
      refine XS.iloadN X549.here hx rfl (hb hby d16_5) rfl ?_
      refine XS.aloadN X549.here hx rfl (hb hby d16_6) rfl rfl ?_
      refine XS.iconst X549.here hx rfl (hb hby d16_7) ?_
      refine XS.iloadN X549.here hx rfl (hb hby d16_8) rfl ?_
      show own_S p e below T549 (mkF m 9 #[.val (.ref a0), .val (.int 0), .val (.int 4), .val (.ref b549), .unset, .unset] [.int 4, .int 0, (.ref b549), .int 0, (.ref a0)]) _
      refine st555 _ ?_
      show own_S p e below T555 (mkF m 12 #[.val (.ref a0), .val (.int 0), .val (.int 4), .val (.ref b549), .unset, .unset] [.int 1]) _
      refine XS.istore X555.here hx rfl (hb hby d16_12) rfl (l' := #[.val (.ref a0), .val (.int 0), .val (.int 4), .val (.ref b549), .val (.int 1), .unset]) rfl ?_
      show own_S p e below T555 (mkF m 14 #[.val (.ref a0), .val (.int 0), .val (.int 4), .val (.ref b549), .val (.int 1), .unset] []) _
      refine XS.iload X555.here hx rfl (hb hby d16_14) rfl ?_
      refine XS.iloadN X555.here hx rfl (hb hby d16_16) rfl ?_
      refine XS.icmpNo X555.here hx rfl (hb hby d16_17) rfl (feq (by decide : ¬ ((1 : Int32) = (4 : Int32)))).1 ?_
      show own_S p e below T555 (mkF m 20 #[.val (.ref a0), .val (.int 0), .val (.int 4), .val (.ref b549), .val (.int 1), .unset] []) _
      refine XS.aloadN X555.here hx rfl (hb hby d16_20) rfl rfl ?_
      refine XS.iloadN X555.here hx rfl (hb hby d16_21) rfl ?_
      refine XS.iloadN X555.here hx rfl (hb hby d16_22) rfl ?_
      show own_S p e below T555 (mkF m 23 #[.val (.ref a0), .val (.int 0), .val (.int 4), .val (.ref b549), .val (.int 1), .unset] [.int 4, .int 0, (.ref a0)]) _
      refine st572 _ ?_
      show own_S p e below T572 (mkF m 26 #[.val (.ref a0), .val (.int 0), .val (.int 4), .val (.ref b549), .val (.int 1), .unset] [(.ref r572)]) _
      refine XS.astore X572.here hx rfl (hb hby d16_26) rfl rfl (l' := #[.val (.ref a0), .val (.int 0), .val (.int 4), .val (.ref b549), .val (.int 1), .val (.ref r572)]) rfl ?_
      show own_S p e below T572 (mkF m 28 #[.val (.ref a0), .val (.int 0), .val (.int 4), .val (.ref b549), .val (.int 1), .val (.ref r572)] []) _
      refine XS.aload X572.here hx rfl (hb hby d16_28) rfl rfl ?_
      refine XS.iload X572.here hx rfl (hb hby d16_30) rfl ?_
      exact kt
    obtain ⟨_, _, ⟨T579, L579, k579, n579⟩, -, X579, ⟨Lc579, hQ579, l579, y579, z579⟩, st579⟩ := Jvm.LawKit.callS X572 hx (y := (⟨"java/lang/StringUTF16", "getChar", "([BI)C"⟩ : MethodName)) hown (mvT hZ (own_wk hw 133 rfl)) (mvT hZ (own_wk hw 134 rfl)) (mvT hZ (own_wk hw 77 rfl)) (mvT hZ (own_wk hw 135 rfl)) (by decide) (backOf (W := 0) (rm31 l Z ag hw [] r572 (1 : Int32) kr572 (8 : Int32) [(.int (nar .byte ((c0 >>> ((0 : Int32) &&& 31)).toInt8.toInt32))), (.int (nar .byte ((c0 >>> ((8 : Int32) &&& 31)).toInt8.toInt32))), (.int (nar .byte ((c1 >>> ((0 : Int32) &&& 31)).toInt8.toInt32))), (.int (nar .byte ((c1 >>> ((8 : Int32) &&& 31)).toInt8.toInt32))), (.int (nar .byte ((c2 >>> ((0 : Int32) &&& 31)).toInt8.toInt32))), (.int (nar .byte ((c2 >>> ((8 : Int32) &&& 31)).toInt8.toInt32))), (.int (nar .byte ((c3 >>> ((0 : Int32) &&& 31)).toInt8.toInt32))), (.int (nar .byte ((c3 >>> ((8 : Int32) &&& 31)).toInt8.toInt32)))] (nar .byte ((c1 >>> ((0 : Int32) &&& 31)).toInt8.toInt32)) (nar .byte ((c1 >>> ((8 : Int32) &&& 31)).toInt8.toInt32)) T572.heap n0 sz576 Vr572 (by decide) (by decide) rfl rfl x575 S_ad S_hi S_lo) hZ (own_wk hw 135 rfl) (own_wk hw 77 rfl) (by decide) (by decide)) (g := (mkF m 32 #[.val (.ref a0), .val (.int 0), .val (.int 4), .val (.ref b549), .val (.int 1), .val (.ref r572)] [.int 1, (.ref r572)])) rfl (by rw [hml]; rfl) (argsL := [(.ref r572), (.int (1 : Int32))]) (rest := []) (lenOf pd_19 rfl) rfl (by show 2 * 0 + _ ≤ _; exact Nat.le_of_eq rfl) (hb hby d16_32) (fun _ _ => ⟨rfl, rfl, (by decide : 2 + 0 ≤ _), (by decide : 12 + 0 ≤ _)⟩)
    dsimp only [Pt.U, Pt.locs, Pt.cells, Pt.slots] at X579 l579 y579 z579 st579 hQ579
    subst l579 y579 z579
    obtain ⟨rfl, N579q, e579⟩ := hQ579
    have N579 := Fr.app N572 N579q
    obtain ⟨fs, hr, hrun, hended, hW, hsame⟩ := X579.leave (v := some (.ref r572)) (fun h => by rw [Bd.returns] at h; cases h)
    refine ⟨_, _, pre0 _ ?_, hrun, hended, _, _, rfl, ?_, ⟨_, rfl⟩, hW, hsame.mono (by decide) (by decide)⟩
    · show own_S p e below s₁ (mkF m 0 #[.val (.ref a0), .val (.int 0), .val (.int 4), .unset, .unset, .unset] []) _
      refine cp578 _ ?_
      show own_S p e below T572 (mkF m 32 #[.val (.ref a0), .val (.int 0), .val (.int 4), .val (.ref b549), .val (.int 1), .val (.ref r572)] [.int 1, (.ref r572)]) _
      refine st579 _ ?_
      show own_S p e below T579 (mkF m 35 #[.val (.ref a0), .val (.int 0), .val (.int 4), .val (.ref b549), .val (.int 1), .val (.ref r572)] [(.int (own_gc (nar .byte ((c1 >>> ((0 : Int32) &&& 31)).toInt8.toInt32)) (nar .byte ((c1 >>> ((8 : Int32) &&& 31)).toInt8.toInt32))))]) _
      refine XS.sipush X579.here hx rfl (hb hby d16_35) ?_
      refine XS.icmpYes X579.here hx rfl (pc0 := 38) (pc' := 54) rfl (hb hby d16_38) rfl (tlt (show (255 : Int32) < (own_gc (nar .byte ((c1 >>> ((0 : Int32) &&& 31)).toInt8.toInt32)) (nar .byte ((c1 >>> ((8 : Int32) &&& 31)).toInt8.toInt32))) from (by rw [own_gc_back c1 hr_c1]; exact hbig555))).2.2.1 (by decide) (by decide) ?_
      show own_S p e below T579 (mkF m 54 #[.val (.ref a0), .val (.int 0), .val (.int 4), .val (.ref b549), .val (.int 1), .val (.ref r572)] []) _
      refine XS.aload X579.here hx rfl (hb hby d16_54) rfl rfl ?_
      show own_S p e below T579 (mkF m 56 #[.val (.ref a0), .val (.int 0), .val (.int 4), .val (.ref b549), .val (.int 1), .val (.ref r572)] [(.ref r572)]) _
      exact Jvm.RoadKit.retOut X579 hx Bd.returns rfl (Or.inr (Or.inr (Or.inr (Or.inr ⟨rfl, rfl, rfl⟩)))) (hb hby d16_56) hr
    · show Q16_s4 Z a0 kc c0 c1 c2 c3 h0 n0 _ T579.heap _
      rw [e579]
      exact ⟨r572, kr572, (8 : Int32), _, rfl, N579, kp577, ge_r572, gs_r572, Vr572, Or.inr ⟨rfl, rfl⟩⟩
  · obtain ⟨rfl, N555q, K555, hbig555⟩ := q555
    have N555 := Fr.app N0 N555q
    have x580 := x551.keep K555 (ninS ne550 nin0)
    have x581 := x552.keep K555 (allS ge_b549 all0)
    have sz582 : n0 ≤ T555.heap.size := Nat.le_trans sz553 K555.1
    have kp583 : Keep h0 T555.heap [] := kp554.trans K555 (allS (Or.inr gs_b549) all0)
    obtain ⟨_, _, ⟨T584, L584, k584, n584⟩, -, X584, ⟨Lc584, hQ584, l584, y584, z584⟩, st584⟩ := Jvm.LawKit.callS X555 hx (y := (⟨"java/lang/StringUTF16", "toBytes", "([CII)[B"⟩ : MethodName)) hown (mvT hZ (own_wk hw 117 rfl)) (mvT hZ (own_wk hw 118 rfl)) (mvT hZ (own_wk hw 77 rfl)) (mvT hZ (own_wk hw 119 rfl)) (by decide) (backOf (W := 0) (rm27_s4 l Z ag hw [] a0 kc c0 c1 c2 c3 T555.heap n0 sz582 x580 hr_c0 hr_c1 hr_c2 hr_c3 x581 S_ad S_hi S_lo) hZ (own_wk hw 119 rfl) (own_wk hw 77 rfl) (by decide) (by decide)) (g := (mkF m 23 #[.val (.ref a0), .val (.int 0), .val (.int 4), .val (.ref b549), .val (.int 2), .unset] [.int 4, .int 0, (.ref a0)])) rfl (by rw [hml]; rfl) (argsL := [(.ref a0), (.int (0 : Int32)), (.int (4 : Int32))]) (rest := []) (lenOf pd_23 rfl) rfl (by show 2 * 0 + _ ≤ _; exact Nat.le_of_eq rfl) (hb hby d16_23) (fun _ _ => ⟨rfl, rfl, (by decide : 1 + 1 ≤ _), (by decide : 4 + 8 ≤ _)⟩)
    dsimp only [Pt.U, Pt.locs, Pt.cells, Pt.slots] at X584 l584 y584 z584 st584 hQ584
    subst l584 y584 z584
    obtain ⟨r584, kr584, rfl, N584q, K584, ge_r584, gq_r584, Vr584⟩ := hQ584
    have N584 := Fr.app N555 N584q
    have ne585 : a0 ≠ r584 := Nat.ne_of_lt (Nat.lt_of_lt_of_le x580.lt gq_r584)
    have gs_r584 : h0.size ≤ r584 := Nat.le_trans kp583.1 gq_r584
    have x586 := x580.keep K584 nin0
    have x587 := x581.keep K584 all0
    have sz588 : n0 ≤ T584.heap.size := Nat.le_trans sz582 K584.1
    have kp589 : Keep h0 T584.heap [] := kp583.trans K584 all0
    have cp590 : ∀ target, own_S p e below T584 (mkF m 32 #[.val (.ref a0), .val (.int 0), .val (.int 4), .val (.ref b549), .val (.int 2), .val (.ref r584)] [.int 2, (.ref r584)]) target → own_S p e below s₁ (mkF m 0 #[.val (.ref a0), .val (.int 0), .val (.int 4), .unset, .unset, .unset] []) target := by
      intro target kt
      show own_S p e below s₁ (mkF m 0 #[.val (.ref a0), .val (.int 0), .val (.int 4), .unset, .unset, .unset] []) _
      refine XS.iloadN X0.here hx rfl (hb hby d16_0) rfl ?_
      show own_S p e below s₁ (mkF m 1 #[.val (.ref a0), .val (.int 0), .val (.int 4), .unset, .unset, .unset] [.int 4]) _
      refine st549 _ ?_
      show own_S p e below T549 (mkF m 3 #[.val (.ref a0), .val (.int 0), .val (.int 4), .unset, .unset, .unset] [(.ref b549)]) _
      refine XS.astoreN X549.here hx rfl (hb hby d16_3) rfl rfl (l' := #[.val (.ref a0), .val (.int 0), .val (.int 4), .val (.ref b549), .unset, .unset]) rfl ?_
      show own_S p e below T549 (mkF m 4 #[.val (.ref a0), .val (.int 0), .val (.int 4), .val (.ref b549), .unset, .unset] []) _
      refine XS.aloadN X549.here hx rfl (hb hby d16_4) rfl rfl ?_
      refine XS.iloadN X549.here hx rfl (hb hby d16_5) rfl ?_
      refine XS.aloadN X549.here hx rfl (hb hby d16_6) rfl rfl ?_
      refine XS.iconst X549.here hx rfl (hb hby d16_7) ?_
      refine XS.iloadN X549.here hx rfl (hb hby d16_8) rfl ?_
      show own_S p e below T549 (mkF m 9 #[.val (.ref a0), .val (.int 0), .val (.int 4), .val (.ref b549), .unset, .unset] [.int 4, .int 0, (.ref b549), .int 0, (.ref a0)]) _
      refine st555 _ ?_
      show own_S p e below T555 (mkF m 12 #[.val (.ref a0), .val (.int 0), .val (.int 4), .val (.ref b549), .unset, .unset] [.int 2]) _
      refine XS.istore X555.here hx rfl (hb hby d16_12) rfl (l' := #[.val (.ref a0), .val (.int 0), .val (.int 4), .val (.ref b549), .val (.int 2), .unset]) rfl ?_
      show own_S p e below T555 (mkF m 14 #[.val (.ref a0), .val (.int 0), .val (.int 4), .val (.ref b549), .val (.int 2), .unset] []) _
      refine XS.iload X555.here hx rfl (hb hby d16_14) rfl ?_
      refine XS.iloadN X555.here hx rfl (hb hby d16_16) rfl ?_
      refine XS.icmpNo X555.here hx rfl (hb hby d16_17) rfl (feq (by decide : ¬ ((2 : Int32) = (4 : Int32)))).1 ?_
      show own_S p e below T555 (mkF m 20 #[.val (.ref a0), .val (.int 0), .val (.int 4), .val (.ref b549), .val (.int 2), .unset] []) _
      refine XS.aloadN X555.here hx rfl (hb hby d16_20) rfl rfl ?_
      refine XS.iloadN X555.here hx rfl (hb hby d16_21) rfl ?_
      refine XS.iloadN X555.here hx rfl (hb hby d16_22) rfl ?_
      show own_S p e below T555 (mkF m 23 #[.val (.ref a0), .val (.int 0), .val (.int 4), .val (.ref b549), .val (.int 2), .unset] [.int 4, .int 0, (.ref a0)]) _
      refine st584 _ ?_
      show own_S p e below T584 (mkF m 26 #[.val (.ref a0), .val (.int 0), .val (.int 4), .val (.ref b549), .val (.int 2), .unset] [(.ref r584)]) _
      refine XS.astore X584.here hx rfl (hb hby d16_26) rfl rfl (l' := #[.val (.ref a0), .val (.int 0), .val (.int 4), .val (.ref b549), .val (.int 2), .val (.ref r584)]) rfl ?_
      show own_S p e below T584 (mkF m 28 #[.val (.ref a0), .val (.int 0), .val (.int 4), .val (.ref b549), .val (.int 2), .val (.ref r584)] []) _
      refine XS.aload X584.here hx rfl (hb hby d16_28) rfl rfl ?_
      refine XS.iload X584.here hx rfl (hb hby d16_30) rfl ?_
      exact kt
    obtain ⟨_, _, ⟨T591, L591, k591, n591⟩, -, X591, ⟨Lc591, hQ591, l591, y591, z591⟩, st591⟩ := Jvm.LawKit.callS X584 hx (y := (⟨"java/lang/StringUTF16", "getChar", "([BI)C"⟩ : MethodName)) hown (mvT hZ (own_wk hw 133 rfl)) (mvT hZ (own_wk hw 134 rfl)) (mvT hZ (own_wk hw 77 rfl)) (mvT hZ (own_wk hw 135 rfl)) (by decide) (backOf (W := 0) (rm31 l Z ag hw [] r584 (2 : Int32) kr584 (8 : Int32) [(.int (nar .byte ((c0 >>> ((0 : Int32) &&& 31)).toInt8.toInt32))), (.int (nar .byte ((c0 >>> ((8 : Int32) &&& 31)).toInt8.toInt32))), (.int (nar .byte ((c1 >>> ((0 : Int32) &&& 31)).toInt8.toInt32))), (.int (nar .byte ((c1 >>> ((8 : Int32) &&& 31)).toInt8.toInt32))), (.int (nar .byte ((c2 >>> ((0 : Int32) &&& 31)).toInt8.toInt32))), (.int (nar .byte ((c2 >>> ((8 : Int32) &&& 31)).toInt8.toInt32))), (.int (nar .byte ((c3 >>> ((0 : Int32) &&& 31)).toInt8.toInt32))), (.int (nar .byte ((c3 >>> ((8 : Int32) &&& 31)).toInt8.toInt32)))] (nar .byte ((c2 >>> ((0 : Int32) &&& 31)).toInt8.toInt32)) (nar .byte ((c2 >>> ((8 : Int32) &&& 31)).toInt8.toInt32)) T584.heap n0 sz588 Vr584 (by decide) (by decide) rfl rfl x587 S_ad S_hi S_lo) hZ (own_wk hw 135 rfl) (own_wk hw 77 rfl) (by decide) (by decide)) (g := (mkF m 32 #[.val (.ref a0), .val (.int 0), .val (.int 4), .val (.ref b549), .val (.int 2), .val (.ref r584)] [.int 2, (.ref r584)])) rfl (by rw [hml]; rfl) (argsL := [(.ref r584), (.int (2 : Int32))]) (rest := []) (lenOf pd_19 rfl) rfl (by show 2 * 0 + _ ≤ _; exact Nat.le_of_eq rfl) (hb hby d16_32) (fun _ _ => ⟨rfl, rfl, (by decide : 2 + 0 ≤ _), (by decide : 12 + 0 ≤ _)⟩)
    dsimp only [Pt.U, Pt.locs, Pt.cells, Pt.slots] at X591 l591 y591 z591 st591 hQ591
    subst l591 y591 z591
    obtain ⟨rfl, N591q, e591⟩ := hQ591
    have N591 := Fr.app N584 N591q
    obtain ⟨fs, hr, hrun, hended, hW, hsame⟩ := X591.leave (v := some (.ref r584)) (fun h => by rw [Bd.returns] at h; cases h)
    refine ⟨_, _, pre0 _ ?_, hrun, hended, _, _, rfl, ?_, ⟨_, rfl⟩, hW, hsame.mono (by decide) (by decide)⟩
    · show own_S p e below s₁ (mkF m 0 #[.val (.ref a0), .val (.int 0), .val (.int 4), .unset, .unset, .unset] []) _
      refine cp590 _ ?_
      show own_S p e below T584 (mkF m 32 #[.val (.ref a0), .val (.int 0), .val (.int 4), .val (.ref b549), .val (.int 2), .val (.ref r584)] [.int 2, (.ref r584)]) _
      refine st591 _ ?_
      show own_S p e below T591 (mkF m 35 #[.val (.ref a0), .val (.int 0), .val (.int 4), .val (.ref b549), .val (.int 2), .val (.ref r584)] [(.int (own_gc (nar .byte ((c2 >>> ((0 : Int32) &&& 31)).toInt8.toInt32)) (nar .byte ((c2 >>> ((8 : Int32) &&& 31)).toInt8.toInt32))))]) _
      refine XS.sipush X591.here hx rfl (hb hby d16_35) ?_
      refine XS.icmpYes X591.here hx rfl (pc0 := 38) (pc' := 54) rfl (hb hby d16_38) rfl (tlt (show (255 : Int32) < (own_gc (nar .byte ((c2 >>> ((0 : Int32) &&& 31)).toInt8.toInt32)) (nar .byte ((c2 >>> ((8 : Int32) &&& 31)).toInt8.toInt32))) from (by rw [own_gc_back c2 hr_c2]; exact hbig555))).2.2.1 (by decide) (by decide) ?_
      show own_S p e below T591 (mkF m 54 #[.val (.ref a0), .val (.int 0), .val (.int 4), .val (.ref b549), .val (.int 2), .val (.ref r584)] []) _
      refine XS.aload X591.here hx rfl (hb hby d16_54) rfl rfl ?_
      show own_S p e below T591 (mkF m 56 #[.val (.ref a0), .val (.int 0), .val (.int 4), .val (.ref b549), .val (.int 2), .val (.ref r584)] [(.ref r584)]) _
      exact Jvm.RoadKit.retOut X591 hx Bd.returns rfl (Or.inr (Or.inr (Or.inr (Or.inr ⟨rfl, rfl, rfl⟩)))) (hb hby d16_56) hr
    · show Q16_s4 Z a0 kc c0 c1 c2 c3 h0 n0 _ T591.heap _
      rw [e591]
      exact ⟨r584, kr584, (8 : Int32), _, rfl, N591, kp589, ge_r584, gs_r584, Vr584, Or.inr ⟨rfl, rfl⟩⟩
  · obtain ⟨rfl, N555q, K555, hbig555⟩ := q555
    have N555 := Fr.app N0 N555q
    have x592 := x551.keep K555 (ninS ne550 nin0)
    have x593 := x552.keep K555 (allS ge_b549 all0)
    have sz594 : n0 ≤ T555.heap.size := Nat.le_trans sz553 K555.1
    have kp595 : Keep h0 T555.heap [] := kp554.trans K555 (allS (Or.inr gs_b549) all0)
    obtain ⟨_, _, ⟨T596, L596, k596, n596⟩, -, X596, ⟨Lc596, hQ596, l596, y596, z596⟩, st596⟩ := Jvm.LawKit.callS X555 hx (y := (⟨"java/lang/StringUTF16", "toBytes", "([CII)[B"⟩ : MethodName)) hown (mvT hZ (own_wk hw 117 rfl)) (mvT hZ (own_wk hw 118 rfl)) (mvT hZ (own_wk hw 77 rfl)) (mvT hZ (own_wk hw 119 rfl)) (by decide) (backOf (W := 0) (rm27_s4 l Z ag hw [] a0 kc c0 c1 c2 c3 T555.heap n0 sz594 x592 hr_c0 hr_c1 hr_c2 hr_c3 x593 S_ad S_hi S_lo) hZ (own_wk hw 119 rfl) (own_wk hw 77 rfl) (by decide) (by decide)) (g := (mkF m 23 #[.val (.ref a0), .val (.int 0), .val (.int 4), .val (.ref b549), .val (.int 3), .unset] [.int 4, .int 0, (.ref a0)])) rfl (by rw [hml]; rfl) (argsL := [(.ref a0), (.int (0 : Int32)), (.int (4 : Int32))]) (rest := []) (lenOf pd_23 rfl) rfl (by show 2 * 0 + _ ≤ _; exact Nat.le_of_eq rfl) (hb hby d16_23) (fun _ _ => ⟨rfl, rfl, (by decide : 1 + 1 ≤ _), (by decide : 4 + 8 ≤ _)⟩)
    dsimp only [Pt.U, Pt.locs, Pt.cells, Pt.slots] at X596 l596 y596 z596 st596 hQ596
    subst l596 y596 z596
    obtain ⟨r596, kr596, rfl, N596q, K596, ge_r596, gq_r596, Vr596⟩ := hQ596
    have N596 := Fr.app N555 N596q
    have ne597 : a0 ≠ r596 := Nat.ne_of_lt (Nat.lt_of_lt_of_le x592.lt gq_r596)
    have gs_r596 : h0.size ≤ r596 := Nat.le_trans kp595.1 gq_r596
    have x598 := x592.keep K596 nin0
    have x599 := x593.keep K596 all0
    have sz600 : n0 ≤ T596.heap.size := Nat.le_trans sz594 K596.1
    have kp601 : Keep h0 T596.heap [] := kp595.trans K596 all0
    have cp602 : ∀ target, own_S p e below T596 (mkF m 32 #[.val (.ref a0), .val (.int 0), .val (.int 4), .val (.ref b549), .val (.int 3), .val (.ref r596)] [.int 3, (.ref r596)]) target → own_S p e below s₁ (mkF m 0 #[.val (.ref a0), .val (.int 0), .val (.int 4), .unset, .unset, .unset] []) target := by
      intro target kt
      show own_S p e below s₁ (mkF m 0 #[.val (.ref a0), .val (.int 0), .val (.int 4), .unset, .unset, .unset] []) _
      refine XS.iloadN X0.here hx rfl (hb hby d16_0) rfl ?_
      show own_S p e below s₁ (mkF m 1 #[.val (.ref a0), .val (.int 0), .val (.int 4), .unset, .unset, .unset] [.int 4]) _
      refine st549 _ ?_
      show own_S p e below T549 (mkF m 3 #[.val (.ref a0), .val (.int 0), .val (.int 4), .unset, .unset, .unset] [(.ref b549)]) _
      refine XS.astoreN X549.here hx rfl (hb hby d16_3) rfl rfl (l' := #[.val (.ref a0), .val (.int 0), .val (.int 4), .val (.ref b549), .unset, .unset]) rfl ?_
      show own_S p e below T549 (mkF m 4 #[.val (.ref a0), .val (.int 0), .val (.int 4), .val (.ref b549), .unset, .unset] []) _
      refine XS.aloadN X549.here hx rfl (hb hby d16_4) rfl rfl ?_
      refine XS.iloadN X549.here hx rfl (hb hby d16_5) rfl ?_
      refine XS.aloadN X549.here hx rfl (hb hby d16_6) rfl rfl ?_
      refine XS.iconst X549.here hx rfl (hb hby d16_7) ?_
      refine XS.iloadN X549.here hx rfl (hb hby d16_8) rfl ?_
      show own_S p e below T549 (mkF m 9 #[.val (.ref a0), .val (.int 0), .val (.int 4), .val (.ref b549), .unset, .unset] [.int 4, .int 0, (.ref b549), .int 0, (.ref a0)]) _
      refine st555 _ ?_
      show own_S p e below T555 (mkF m 12 #[.val (.ref a0), .val (.int 0), .val (.int 4), .val (.ref b549), .unset, .unset] [.int 3]) _
      refine XS.istore X555.here hx rfl (hb hby d16_12) rfl (l' := #[.val (.ref a0), .val (.int 0), .val (.int 4), .val (.ref b549), .val (.int 3), .unset]) rfl ?_
      show own_S p e below T555 (mkF m 14 #[.val (.ref a0), .val (.int 0), .val (.int 4), .val (.ref b549), .val (.int 3), .unset] []) _
      refine XS.iload X555.here hx rfl (hb hby d16_14) rfl ?_
      refine XS.iloadN X555.here hx rfl (hb hby d16_16) rfl ?_
      refine XS.icmpNo X555.here hx rfl (hb hby d16_17) rfl (feq (by decide : ¬ ((3 : Int32) = (4 : Int32)))).1 ?_
      show own_S p e below T555 (mkF m 20 #[.val (.ref a0), .val (.int 0), .val (.int 4), .val (.ref b549), .val (.int 3), .unset] []) _
      refine XS.aloadN X555.here hx rfl (hb hby d16_20) rfl rfl ?_
      refine XS.iloadN X555.here hx rfl (hb hby d16_21) rfl ?_
      refine XS.iloadN X555.here hx rfl (hb hby d16_22) rfl ?_
      show own_S p e below T555 (mkF m 23 #[.val (.ref a0), .val (.int 0), .val (.int 4), .val (.ref b549), .val (.int 3), .unset] [.int 4, .int 0, (.ref a0)]) _
      refine st596 _ ?_
      show own_S p e below T596 (mkF m 26 #[.val (.ref a0), .val (.int 0), .val (.int 4), .val (.ref b549), .val (.int 3), .unset] [(.ref r596)]) _
      refine XS.astore X596.here hx rfl (hb hby d16_26) rfl rfl (l' := #[.val (.ref a0), .val (.int 0), .val (.int 4), .val (.ref b549), .val (.int 3), .val (.ref r596)]) rfl ?_
      show own_S p e below T596 (mkF m 28 #[.val (.ref a0), .val (.int 0), .val (.int 4), .val (.ref b549), .val (.int 3), .val (.ref r596)] []) _
      refine XS.aload X596.here hx rfl (hb hby d16_28) rfl rfl ?_
      refine XS.iload X596.here hx rfl (hb hby d16_30) rfl ?_
      exact kt
    obtain ⟨_, _, ⟨T603, L603, k603, n603⟩, -, X603, ⟨Lc603, hQ603, l603, y603, z603⟩, st603⟩ := Jvm.LawKit.callS X596 hx (y := (⟨"java/lang/StringUTF16", "getChar", "([BI)C"⟩ : MethodName)) hown (mvT hZ (own_wk hw 133 rfl)) (mvT hZ (own_wk hw 134 rfl)) (mvT hZ (own_wk hw 77 rfl)) (mvT hZ (own_wk hw 135 rfl)) (by decide) (backOf (W := 0) (rm31 l Z ag hw [] r596 (3 : Int32) kr596 (8 : Int32) [(.int (nar .byte ((c0 >>> ((0 : Int32) &&& 31)).toInt8.toInt32))), (.int (nar .byte ((c0 >>> ((8 : Int32) &&& 31)).toInt8.toInt32))), (.int (nar .byte ((c1 >>> ((0 : Int32) &&& 31)).toInt8.toInt32))), (.int (nar .byte ((c1 >>> ((8 : Int32) &&& 31)).toInt8.toInt32))), (.int (nar .byte ((c2 >>> ((0 : Int32) &&& 31)).toInt8.toInt32))), (.int (nar .byte ((c2 >>> ((8 : Int32) &&& 31)).toInt8.toInt32))), (.int (nar .byte ((c3 >>> ((0 : Int32) &&& 31)).toInt8.toInt32))), (.int (nar .byte ((c3 >>> ((8 : Int32) &&& 31)).toInt8.toInt32)))] (nar .byte ((c3 >>> ((0 : Int32) &&& 31)).toInt8.toInt32)) (nar .byte ((c3 >>> ((8 : Int32) &&& 31)).toInt8.toInt32)) T596.heap n0 sz600 Vr596 (by decide) (by decide) rfl rfl x599 S_ad S_hi S_lo) hZ (own_wk hw 135 rfl) (own_wk hw 77 rfl) (by decide) (by decide)) (g := (mkF m 32 #[.val (.ref a0), .val (.int 0), .val (.int 4), .val (.ref b549), .val (.int 3), .val (.ref r596)] [.int 3, (.ref r596)])) rfl (by rw [hml]; rfl) (argsL := [(.ref r596), (.int (3 : Int32))]) (rest := []) (lenOf pd_19 rfl) rfl (by show 2 * 0 + _ ≤ _; exact Nat.le_of_eq rfl) (hb hby d16_32) (fun _ _ => ⟨rfl, rfl, (by decide : 2 + 0 ≤ _), (by decide : 12 + 0 ≤ _)⟩)
    dsimp only [Pt.U, Pt.locs, Pt.cells, Pt.slots] at X603 l603 y603 z603 st603 hQ603
    subst l603 y603 z603
    obtain ⟨rfl, N603q, e603⟩ := hQ603
    have N603 := Fr.app N596 N603q
    obtain ⟨fs, hr, hrun, hended, hW, hsame⟩ := X603.leave (v := some (.ref r596)) (fun h => by rw [Bd.returns] at h; cases h)
    refine ⟨_, _, pre0 _ ?_, hrun, hended, _, _, rfl, ?_, ⟨_, rfl⟩, hW, hsame.mono (by decide) (by decide)⟩
    · show own_S p e below s₁ (mkF m 0 #[.val (.ref a0), .val (.int 0), .val (.int 4), .unset, .unset, .unset] []) _
      refine cp602 _ ?_
      show own_S p e below T596 (mkF m 32 #[.val (.ref a0), .val (.int 0), .val (.int 4), .val (.ref b549), .val (.int 3), .val (.ref r596)] [.int 3, (.ref r596)]) _
      refine st603 _ ?_
      show own_S p e below T603 (mkF m 35 #[.val (.ref a0), .val (.int 0), .val (.int 4), .val (.ref b549), .val (.int 3), .val (.ref r596)] [(.int (own_gc (nar .byte ((c3 >>> ((0 : Int32) &&& 31)).toInt8.toInt32)) (nar .byte ((c3 >>> ((8 : Int32) &&& 31)).toInt8.toInt32))))]) _
      refine XS.sipush X603.here hx rfl (hb hby d16_35) ?_
      refine XS.icmpYes X603.here hx rfl (pc0 := 38) (pc' := 54) rfl (hb hby d16_38) rfl (tlt (show (255 : Int32) < (own_gc (nar .byte ((c3 >>> ((0 : Int32) &&& 31)).toInt8.toInt32)) (nar .byte ((c3 >>> ((8 : Int32) &&& 31)).toInt8.toInt32))) from (by rw [own_gc_back c3 hr_c3]; exact hbig555))).2.2.1 (by decide) (by decide) ?_
      show own_S p e below T603 (mkF m 54 #[.val (.ref a0), .val (.int 0), .val (.int 4), .val (.ref b549), .val (.int 3), .val (.ref r596)] []) _
      refine XS.aload X603.here hx rfl (hb hby d16_54) rfl rfl ?_
      show own_S p e below T603 (mkF m 56 #[.val (.ref a0), .val (.int 0), .val (.int 4), .val (.ref b549), .val (.int 3), .val (.ref r596)] [(.ref r596)]) _
      exact Jvm.RoadKit.retOut X603 hx Bd.returns rfl (Or.inr (Or.inr (Or.inr (Or.inr ⟨rfl, rfl, rfl⟩)))) (hb hby d16_56) hr
    · show Q16_s4 Z a0 kc c0 c1 c2 c3 h0 n0 _ T603.heap _
      rw [e603]
      exact ⟨r596, kr596, (8 : Int32), _, rfl, N603, kp601, ge_r596, gs_r596, Vr596, Or.inr ⟨rfl, rfl⟩⟩
  · obtain ⟨rfl, N555q, K555, Vb555, hl555_0, hl555_1, hl555_2, hl555_3⟩ := q555
    have N555 := Fr.app N0 N555q
    have x604 := x551.keep K555 (ninS ne550 nin0)
    have x605 := x552.keep K555 (allS ge_b549 all0)
    have sz606 : n0 ≤ T555.heap.size := Nat.le_trans sz553 K555.1
    have kp607 : Keep h0 T555.heap [] := kp554.trans K555 (allS (Or.inr gs_b549) all0)
    obtain ⟨fs, hr, hrun, hended, hW, hsame⟩ := X555.leave (v := some (.ref b549)) (fun h => by rw [Bd.returns] at h; cases h)
    refine ⟨_, _, pre0 _ ?_, hrun, hended, _, _, rfl, ?_, ⟨_, rfl⟩, hW, hsame.mono (by decide) (by decide)⟩
    · show own_S p e below s₁ (mkF m 0 #[.val (.ref a0), .val (.int 0), .val (.int 4), .unset, .unset, .unset] []) _
      refine XS.iloadN X0.here hx rfl (hb hby d16_0) rfl ?_
      show own_S p e below s₁ (mkF m 1 #[.val (.ref a0), .val (.int 0), .val (.int 4), .unset, .unset, .unset] [.int 4]) _
      refine st549 _ ?_
      show own_S p e below T549 (mkF m 3 #[.val (.ref a0), .val (.int 0), .val (.int 4), .unset, .unset, .unset] [(.ref b549)]) _
      refine XS.astoreN X549.here hx rfl (hb hby d16_3) rfl rfl (l' := #[.val (.ref a0), .val (.int 0), .val (.int 4), .val (.ref b549), .unset, .unset]) rfl ?_
      show own_S p e below T549 (mkF m 4 #[.val (.ref a0), .val (.int 0), .val (.int 4), .val (.ref b549), .unset, .unset] []) _
      refine XS.aloadN X549.here hx rfl (hb hby d16_4) rfl rfl ?_
      refine XS.iloadN X549.here hx rfl (hb hby d16_5) rfl ?_
      refine XS.aloadN X549.here hx rfl (hb hby d16_6) rfl rfl ?_
      refine XS.iconst X549.here hx rfl (hb hby d16_7) ?_
      refine XS.iloadN X549.here hx rfl (hb hby d16_8) rfl ?_
      show own_S p e below T549 (mkF m 9 #[.val (.ref a0), .val (.int 0), .val (.int 4), .val (.ref b549), .unset, .unset] [.int 4, .int 0, (.ref b549), .int 0, (.ref a0)]) _
      refine st555 _ ?_
      show own_S p e below T555 (mkF m 12 #[.val (.ref a0), .val (.int 0), .val (.int 4), .val (.ref b549), .unset, .unset] [.int 4]) _
      refine XS.istore X555.here hx rfl (hb hby d16_12) rfl (l' := #[.val (.ref a0), .val (.int 0), .val (.int 4), .val (.ref b549), .val (.int 4), .unset]) rfl ?_
      show own_S p e below T555 (mkF m 14 #[.val (.ref a0), .val (.int 0), .val (.int 4), .val (.ref b549), .val (.int 4), .unset] []) _
      refine XS.iload X555.here hx rfl (hb hby d16_14) rfl ?_
      refine XS.iloadN X555.here hx rfl (hb hby d16_16) rfl ?_
      refine XS.icmpYes X555.here hx rfl (pc0 := 17) (pc' := 57) rfl (hb hby d16_17) rfl (teq (by decide : (4 : Int32) = (4 : Int32))).1 (by decide) (by decide) ?_
      show own_S p e below T555 (mkF m 57 #[.val (.ref a0), .val (.int 0), .val (.int 4), .val (.ref b549), .val (.int 4), .unset] []) _
      refine XS.aloadN X555.here hx rfl (hb hby d16_57) rfl rfl ?_
      show own_S p e below T555 (mkF m 58 #[.val (.ref a0), .val (.int 0), .val (.int 4), .val (.ref b549), .val (.int 4), .unset] [(.ref b549)]) _
      exact Jvm.RoadKit.retOut X555 hx Bd.returns rfl (Or.inr (Or.inr (Or.inr (Or.inr ⟨rfl, rfl, rfl⟩)))) (hb hby d16_58) hr
    · show Q16_s4 Z a0 kc c0 c1 c2 c3 h0 n0 _ T555.heap _
      exact ⟨b549, k549, (4 : Int32), _, rfl, N555, kp607, ge_b549, gs_b549, Vb555, Or.inl ⟨rfl, rfl, hl555_0, hl555_1, hl555_2, hl555_3⟩⟩
theorem ef_9_vv04n (m : MethodId) (a0 : Addr) (a1 : Addr) : entryFrame m #[(.ref a0), (.ref a1), (.int (0 : Int32)), (.int (4 : Int32)), .null] 6 = mkF m 0 #[.val (.ref a0), .val (.ref a1), .val (.int 0), .val (.int 4), .val .null, .unset] [] := by first | (simp [entryFrame, mkF, argsToLocals, Value.category]; done) | rfl
def Q9_s4 (Z : State) (a0 : Addr) (a1 : Addr) (kc : ClassId) (c0 : Int32) (c1 : Int32) (c2 : Int32) (c3 : Int32) (cs : Int32) (h0 : Heap) (n0 : Nat) (v : Option Value) (h : Heap) (L : List Loc) : Prop := v = none ∧ Fr n0 L ∧ Keep h0 h [a0] ∧ own_str Z h a0 [c0, c1, c2, c3]
set_option maxRecDepth 65536 in
set_option maxHeartbeats 40000000 in
theorem rm9_s4 (l : Launch) (Z : State) (ag : Array Value) (hw : ∀ d ∈ tables_1, d.before ag Z = true) (ws : List Jvm.Cond) (a0 : Addr) (a1 : Addr) (kc : ClassId) (c0 : Int32) (c1 : Int32) (c2 : Int32) (c3 : Int32) (cs : Int32) (h0 : Heap) (n0 : Nat) (Z0 : n0 ≤ h0.size) (E_a0 : Exa Z h0 a0 "java/lang/String") (F_value_a0 : Fld Z h0 a0 "java/lang/String" "value" "[B" .null) (F_coder_a0 : Fld Z h0 a0 "java/lang/String" "coder" "B" (.int (0 : Int32))) (ge_a0 : n0 ≤ a0) (ne_a0_a1 : a0 ≠ a1) (O_ : Old Z n0 h0) (S_cs : Sta Z Z.heap "java/lang/String" "COMPACT_STRINGS" "Z" (.int cs)) (hcs : ¬ cs = (0 : Int32)) (S_ad : Sta Z Z.heap "java/lang/StringUTF16" "$assertionsDisabled" "Z" (.int (1 : Int32))) (S_hi : Sta Z Z.heap "java/lang/StringUTF16" "HI_BYTE_SHIFT" "I" (.int (0 : Int32))) (S_lo : Sta Z Z.heap "java/lang/StringUTF16" "LO_BYTE_SHIFT" "I" (.int (8 : Int32))) (V_a1 : Arv Z h0 a1 kc .char (4 : Int32) [(.int c0), (.int c1), (.int c2), (.int c3)] (.int (0 : Int32))) (hr_c0 : 0 ≤ c0.toInt ∧ c0.toInt < 65536) (hr_c1 : 0 ≤ c1.toInt ∧ c1.toInt < 65536) (hr_c2 : 0 ≤ c2.toInt ∧ c2.toInt < 65536) (hr_c3 : 0 ≤ c3.toInt ∧ c3.toInt < 65536) :
    MetFree l (⟨"java/lang/String", "<init>", "([CIILjava/lang/Void;)V"⟩ : MethodName) (head1 (Jvm.Cond.code (⟨"java/lang/String", "<init>", "([CIILjava/lang/Void;)V"⟩ : MethodName) jdk_42_method_149_code 6 none :: ws) ({ frames := 4, cells := 2, slots := 12, locals := 57 } : Room)) (fun a U => a = #[(.ref a0), (.ref a1), (.int (0 : Int32)), (.int (4 : Int32)), .null] ∧ Z.Warmed39 U.vm ∧ U.heap = h0) (fun _ _ _ _ _ => True) (fun _ U o U' => ∃ v L, o = .returned v ∧ Q9_s4 Z a0 a1 kc c0 c1 c2 c3 cs h0 n0 v U'.heap L ∧ FrameEnd U o U' L ({ frames := 4, cells := 2, slots := 12, locals := 57 } : Room).cells ({ frames := 4, cells := 2, slots := 12, locals := 57 } : Room).slots) := by
  refine MetFree.of_bodySF (plainFor_of_name pn_4) hisR ?_
  intro p e s m args below meth c s₁ Bd hml0 hP hK
  obtain ⟨rfl, hZ, hh⟩ := hP
  have hx := Bd.exec
  have hby := Bd.bytes
  have hml : c.maxLocals = 6 := hml0
  have hown : s.vm.findClass "java/lang/String" = some m.cls := findClass_of_methodNamed Bd.named
  have hnm := (name_of_methodNamed Bd.named Bd.method).1
  have X0 : Stand p l e ({ frames := 4, cells := 2, slots := 12, locals := 57 } : Room) s m #[(.ref a0), (.ref a1), (.int (0 : Int32)), (.int (4 : Int32)), .null] below meth c s₁ [] 0 0 := Stand.of_body Bd
  have e0 : s₁.heap = h0 := by rw [← hh, Bd.state]; rfl
  have N0 := Fr.nil n0
  have pre0 : ∀ t, Steps p.tables e below (s₁.setTop (mkF m 0 #[.val (.ref a0), .val (.ref a1), .val (.int 0), .val (.int 4), .val .null, .unset] [])) t → Steps p.tables e below (s₁.setTop (entryFrame m #[(.ref a0), (.ref a1), (.int (0 : Int32)), (.int (4 : Int32)), .null] 6)) t := fun t k => castTop (ef_9_vv04n m a0 a1) k
  obtain ⟨T608, X608, e608, st608⟩ := initO X0 hx hZ hown (own_wk hw 49 rfl) (own_wk hw 50 rfl) (own_wk hw 51 rfl) e0 (g := (mkF m 1 #[.val (.ref a0), .val (.ref a1), .val (.int 0), .val (.int 4), .val .null, .unset] [(.ref a0)])) rfl (by rw [hml]; rfl) rfl (hb hby d9_1) (by decide) (W := 0) (by show 2 * 0 + _ ≤ _; exact Nat.le_of_eq rfl) (by decide)
  obtain ⟨T609, X609, e609, st609⟩ := getS2 X608 hx hZ hown (host := "") (Or.inl (own_wk hw 22 rfl)) Via.refl e608 (Sta.ext O_.2 S_cs) (g := (mkF m 27 #[.val (.ref a0), .val (.ref a1), .val (.int 0), .val (.int 4), .val .null, .unset] [])) rfl (hb hby d9_27)
  obtain ⟨_, _, ⟨T610, L610, k610, n610⟩, -, X610, ⟨Lc610, hQ610, l610, y610, z610⟩, st610⟩ := Jvm.LawKit.callS X609 hx (y := (⟨"java/lang/StringUTF16", "compress", "([CII)[B"⟩ : MethodName)) hown (mvT hZ (own_wk hw 75 rfl)) (mvT hZ (own_wk hw 76 rfl)) (mvT hZ (own_wk hw 77 rfl)) (mvT hZ (own_wk hw 78 rfl)) (by decide) (backOf (W := 0) (rm16_s4 l Z ag hw [] a1 kc c0 c1 c2 c3 h0 n0 Z0 V_a1 hr_c0 hr_c1 hr_c2 hr_c3 O_ S_ad S_hi S_lo) hZ (own_wk hw 78 rfl) (own_wk hw 77 rfl) (by decide) (by decide)) (g := (mkF m 36 #[.val (.ref a0), .val (.ref a1), .val (.int 0), .val (.int 4), .val .null, .unset] [.int 4, .int 0, (.ref a1)])) rfl (by rw [hml]; rfl) (argsL := [(.ref a1), (.int (0 : Int32)), (.int (4 : Int32))]) (rest := []) (lenOf pd_23 rfl) rfl (by show 2 * 0 + _ ≤ _; exact Nat.le_of_eq rfl) (hb hby d9_36) (fun _ _ => ⟨rfl, e609, (by decide : 0 + 2 ≤ _), (by decide : 0 + 12 ≤ _)⟩)
  dsimp only [Pt.U, Pt.locs, Pt.cells, Pt.slots] at X610 l610 y610 z610 st610 hQ610
  subst l610 y610 z610
  obtain ⟨r610, kr610, nb610, vs610, rfl, N610q, K610, ge_r610, gq_r610, Vr610, hQ610⟩ := hQ610
  rcases hQ610 with q610 | q610
  · obtain ⟨rfl, rfl, hl610_0, hl610_1, hl610_2, hl610_3⟩ := q610
    have N610 := Fr.app N0 N610q
    have ne611 : a0 ≠ r610 := Nat.ne_of_lt (Nat.lt_of_lt_of_le E_a0.lt gq_r610)
    have ne612 : a1 ≠ r610 := Nat.ne_of_lt (Nat.lt_of_lt_of_le V_a1.lt gq_r610)
    have gs_r610 : h0.size ≤ r610 := Nat.le_trans (Keep.refl h0 [a0]).1 gq_r610
    have x613 := E_a0.keep K610
    have x614 := F_value_a0.keep K610 nin0
    have x615 := F_coder_a0.keep K610 nin0
    have x616 := O_.keep K610 all0
    have x617 := V_a1.keep K610 nin0
    have sz618 : n0 ≤ T610.heap.size := Nat.le_trans Z0 K610.1
    have kp619 : Keep h0 T610.heap [a0] := (Keep.refl h0 [a0]).trans K610 all0
    obtain ⟨_, _, ⟨T620, L620, k620, n620⟩, -, X620, ⟨Lc620, hQ620, l620, y620, z620⟩, st620⟩ := Jvm.LawKit.callS X610 hx (y := (⟨"java/lang/StringUTF16", "coderFromArrayLen", "([BI)B"⟩ : MethodName)) hown (mvT hZ (own_wk hw 82 rfl)) (mvT hZ (own_wk hw 83 rfl)) (mvT hZ (own_wk hw 77 rfl)) (mvT hZ (own_wk hw 84 rfl)) (by decide) (backOf (W := 1) (rm18 l Z ag hw [] r610 (4 : Int32) kr610 (4 : Int32) [(.int (nar .byte (c0.toInt8.toInt32))), (.int (nar .byte (c1.toInt8.toInt32))), (.int (nar .byte (c2.toInt8.toInt32))), (.int (nar .byte (c3.toInt8.toInt32)))] (0 : Int32) T610.heap n0 sz618 Vr610 (by decide)) hZ (own_wk hw 84 rfl) (own_wk hw 77 rfl) (by decide) (by decide)) (g := (mkF m 45 #[.val (.ref a0), .val (.ref a1), .val (.int 0), .val (.int 4), .val .null, .val (.ref r610)] [.int 4, (.ref r610), (.ref a0)])) rfl (by rw [hml]; rfl) (argsL := [(.ref r610), (.int (4 : Int32))]) (rest := [(.ref a0)]) (lenOf pd_18 rfl) rfl (by show 2 * 0 + _ ≤ _; exact Nat.le_of_eq rfl) (hb hby d9_45) (fun _ _ => ⟨rfl, rfl, (by decide : 2 + 0 ≤ _), (by decide : 12 + 0 ≤ _)⟩)
    dsimp only [Pt.U, Pt.locs, Pt.cells, Pt.slots] at X620 l620 y620 z620 st620 hQ620
    subst l620 y620 z620
    obtain ⟨rfl, N620q, e620⟩ := hQ620
    have N620 := Fr.app N610 N620q
    obtain ⟨T621, h621, X621, e621, W621, st621⟩ := putFN X620 hx hZ hown (own_wk hw 23 rfl) Via.refl e620 x615 x613 (Or.inr ⟨(own_wk hw 9 rfl), rfl, hnm⟩) (own_wk hw 6 rfl) (ty := .byte) (v' := (.int (0 : Int32))) (by decide) rfl (fits_nar_byte (0 : Int32)) (g := (mkF m 48 #[.val (.ref a0), .val (.ref a1), .val (.int 0), .val (.int 4), .val .null, .val (.ref r610)] [.int 0, (.ref a0)])) rfl rfl (hb hby d9_48)
    have Fw621 := x615.same W621
    have x622 := x613.wr W621
    have x623 := x614.other W621 (Or.inr (slot_ne (Or.inr (own_wk hw 8 rfl)) (Or.inr (own_wk hw 9 rfl)) (by decide) (t := (.array .byte)) (t' := .byte) (by decide) (by decide)))
    have x624 := x616.wr W621 ge_a0
    have x625 := x617.other W621 (Ne.symm ne_a0_a1)
    have x626 := Vr610.other W621 (Ne.symm ne611)
    have sz627 : n0 ≤ h621.size := Nat.le_trans sz618 (Keep.of_wr W621).1
    have kp628 : Keep h0 h621 [a0] := kp619.wr W621 (Or.inl (List.mem_of_getElem? (i := 0) rfl))
    have N621 := Fr.snoc X621 N620 ge_a0
    obtain ⟨T629, h629, X629, e629, W629, st629⟩ := putF X621 hx hZ hown (host := "") (Or.inl (own_wk hw 24 rfl)) Via.refl e621 x623 x622 (Or.inr ⟨(own_wk hw 8 rfl), rfl, hnm⟩) (own_wk hw 6 rfl) (ty := (.array .byte)) (by decide) rfl rfl (g := (mkF m 54 #[.val (.ref a0), .val (.ref a1), .val (.int 0), .val (.int 4), .val .null, .val (.ref r610)] [(.ref r610), (.ref a0)])) rfl rfl (hb hby d9_54)
    have Fw629 := x623.same W629
    have x630 := x622.wr W629
    have x631 := x624.wr W629 ge_a0
    have x632 := x625.other W629 (Ne.symm ne_a0_a1)
    have x633 := x626.other W629 (Ne.symm ne611)
    have x634 := Fw621.other W629 (Or.inr (slot_ne (Or.inr (own_wk hw 9 rfl)) (Or.inr (own_wk hw 8 rfl)) (by decide) (t := .byte) (t' := (.array .byte)) (by decide) (by decide)))
    have sz635 : n0 ≤ h629.size := Nat.le_trans sz627 (Keep.of_wr W629).1
    have kp636 : Keep h0 h629 [a0] := kp628.wr W629 (Or.inl (List.mem_of_getElem? (i := 0) rfl))
    have N629 := Fr.snoc X629 N621 ge_a0
    obtain ⟨fs, hr, hrun, hended, hW, hsame⟩ := X629.leave (v := none) (fun _ => rfl)
    refine ⟨_, _, pre0 _ ?_, hrun, hended, _, _, rfl, ?_, ⟨_, rfl⟩, hW, hsame.mono (by decide) (by decide)⟩
    · show own_S p e below s₁ (mkF m 0 #[.val (.ref a0), .val (.ref a1), .val (.int 0), .val (.int 4), .val .null, .unset] []) _
      refine XS.aloadN X0.here hx rfl (hb hby d9_0) rfl rfl ?_
      show own_S p e below s₁ (mkF m 1 #[.val (.ref a0), .val (.ref a1), .val (.int 0), .val (.int 4), .val .null, .unset] [(.ref a0)]) _
      refine st608 _ ?_
      show own_S p e below T608 (mkF m 4 #[.val (.ref a0), .val (.ref a1), .val (.int 0), .val (.int 4), .val .null, .unset] []) _
      refine XS.iloadN X608.here hx rfl (hb hby d9_4) rfl ?_
      refine XS.ifYes X608.here hx rfl (pc0 := 5) (pc' := 27) rfl (hb hby d9_5) rfl ((if0 _ _).trans (feq (by decide : ¬ ((4 : Int32) = (0 : Int32)))).2) (by decide) (by decide) ?_
      show own_S p e below T608 (mkF m 27 #[.val (.ref a0), .val (.ref a1), .val (.int 0), .val (.int 4), .val .null, .unset] []) _
      refine st609 _ ?_
      show own_S p e below T609 (mkF m 30 #[.val (.ref a0), .val (.ref a1), .val (.int 0), .val (.int 4), .val .null, .unset] [(.int cs)]) _
      refine XS.ifNo X609.here hx rfl (hb hby d9_30) rfl ((if0 _ _).trans (feq (show ¬ (cs = (0 : Int32)) from hcs)).1) ?_
      show own_S p e below T609 (mkF m 33 #[.val (.ref a0), .val (.ref a1), .val (.int 0), .val (.int 4), .val .null, .unset] []) _
      refine XS.aloadN X609.here hx rfl (hb hby d9_33) rfl rfl ?_
      refine XS.iloadN X609.here hx rfl (hb hby d9_34) rfl ?_
      refine XS.iloadN X609.here hx rfl (hb hby d9_35) rfl ?_
      show own_S p e below T609 (mkF m 36 #[.val (.ref a0), .val (.ref a1), .val (.int 0), .val (.int 4), .val .null, .unset] [.int 4, .int 0, (.ref a1)]) _
      refine st610 _ ?_
      show own_S p e below T610 (mkF m 39 #[.val (.ref a0), .val (.ref a1), .val (.int 0), .val (.int 4), .val .null, .unset] [(.ref r610)]) _
      refine XS.astore X610.here hx rfl (hb hby d9_39) rfl rfl (l' := #[.val (.ref a0), .val (.ref a1), .val (.int 0), .val (.int 4), .val .null, .val (.ref r610)]) rfl ?_
      show own_S p e below T610 (mkF m 41 #[.val (.ref a0), .val (.ref a1), .val (.int 0), .val (.int 4), .val .null, .val (.ref r610)] []) _
      refine XS.aloadN X610.here hx rfl (hb hby d9_41) rfl rfl ?_
      refine XS.aload X610.here hx rfl (hb hby d9_42) rfl rfl ?_
      refine XS.iloadN X610.here hx rfl (hb hby d9_44) rfl ?_
      show own_S p e below T610 (mkF m 45 #[.val (.ref a0), .val (.ref a1), .val (.int 0), .val (.int 4), .val .null, .val (.ref r610)] [.int 4, (.ref r610), (.ref a0)]) _
      refine st620 _ ?_
      show own_S p e below T620 (mkF m 48 #[.val (.ref a0), .val (.ref a1), .val (.int 0), .val (.int 4), .val .null, .val (.ref r610)] [.int 0, (.ref a0)]) _
      refine st621 _ ?_
      show own_S p e below T621 (mkF m 51 #[.val (.ref a0), .val (.ref a1), .val (.int 0), .val (.int 4), .val .null, .val (.ref r610)] []) _
      refine XS.aloadN X621.here hx rfl (hb hby d9_51) rfl rfl ?_
      refine XS.aload X621.here hx rfl (hb hby d9_52) rfl rfl ?_
      show own_S p e below T621 (mkF m 54 #[.val (.ref a0), .val (.ref a1), .val (.int 0), .val (.int 4), .val .null, .val (.ref r610)] [(.ref r610), (.ref a0)]) _
      refine st629 _ ?_
      show own_S p e below T629 (mkF m 57 #[.val (.ref a0), .val (.ref a1), .val (.int 0), .val (.int 4), .val .null, .val (.ref r610)] []) _
      exact X629.returnOut hx Bd.returns (hb hby d9_57) hr
    · show Q9_s4 Z a0 a1 kc c0 c1 c2 c3 cs h0 n0 _ T629.heap _
      rw [e629]
      exact ⟨rfl, N629, kp636, ⟨x630, (by decide : 4 ≤ 4), r610, kr610, (4 : Int32), (0 : Int32), _, Fw629, x634, x633, Or.inl ⟨rfl, rfl, own_lat_of4 hr_c0 hr_c1 hr_c2 hr_c3 hl610_0 hl610_1 hl610_2 hl610_3⟩⟩⟩
  · obtain ⟨rfl, rfl⟩ := q610
    have N610 := Fr.app N0 N610q
    have ne637 : a0 ≠ r610 := Nat.ne_of_lt (Nat.lt_of_lt_of_le E_a0.lt gq_r610)
    have ne638 : a1 ≠ r610 := Nat.ne_of_lt (Nat.lt_of_lt_of_le V_a1.lt gq_r610)
    have gs_r610 : h0.size ≤ r610 := Nat.le_trans (Keep.refl h0 [a0]).1 gq_r610
    have x639 := E_a0.keep K610
    have x640 := F_value_a0.keep K610 nin0
    have x641 := F_coder_a0.keep K610 nin0
    have x642 := O_.keep K610 all0
    have x643 := V_a1.keep K610 nin0
    have sz644 : n0 ≤ T610.heap.size := Nat.le_trans Z0 K610.1
    have kp645 : Keep h0 T610.heap [a0] := (Keep.refl h0 [a0]).trans K610 all0
    obtain ⟨_, _, ⟨T646, L646, k646, n646⟩, -, X646, ⟨Lc646, hQ646, l646, y646, z646⟩, st646⟩ := Jvm.LawKit.callS X610 hx (y := (⟨"java/lang/StringUTF16", "coderFromArrayLen", "([BI)B"⟩ : MethodName)) hown (mvT hZ (own_wk hw 82 rfl)) (mvT hZ (own_wk hw 83 rfl)) (mvT hZ (own_wk hw 77 rfl)) (mvT hZ (own_wk hw 84 rfl)) (by decide) (backOf (W := 1) (rm18 l Z ag hw [] r610 (4 : Int32) kr610 (8 : Int32) [(.int (nar .byte ((c0 >>> ((0 : Int32) &&& 31)).toInt8.toInt32))), (.int (nar .byte ((c0 >>> ((8 : Int32) &&& 31)).toInt8.toInt32))), (.int (nar .byte ((c1 >>> ((0 : Int32) &&& 31)).toInt8.toInt32))), (.int (nar .byte ((c1 >>> ((8 : Int32) &&& 31)).toInt8.toInt32))), (.int (nar .byte ((c2 >>> ((0 : Int32) &&& 31)).toInt8.toInt32))), (.int (nar .byte ((c2 >>> ((8 : Int32) &&& 31)).toInt8.toInt32))), (.int (nar .byte ((c3 >>> ((0 : Int32) &&& 31)).toInt8.toInt32))), (.int (nar .byte ((c3 >>> ((8 : Int32) &&& 31)).toInt8.toInt32)))] (1 : Int32) T610.heap n0 sz644 Vr610 (by decide)) hZ (own_wk hw 84 rfl) (own_wk hw 77 rfl) (by decide) (by decide)) (g := (mkF m 45 #[.val (.ref a0), .val (.ref a1), .val (.int 0), .val (.int 4), .val .null, .val (.ref r610)] [.int 4, (.ref r610), (.ref a0)])) rfl (by rw [hml]; rfl) (argsL := [(.ref r610), (.int (4 : Int32))]) (rest := [(.ref a0)]) (lenOf pd_18 rfl) rfl (by show 2 * 0 + _ ≤ _; exact Nat.le_of_eq rfl) (hb hby d9_45) (fun _ _ => ⟨rfl, rfl, (by decide : 2 + 0 ≤ _), (by decide : 12 + 0 ≤ _)⟩)
    dsimp only [Pt.U, Pt.locs, Pt.cells, Pt.slots] at X646 l646 y646 z646 st646 hQ646
    subst l646 y646 z646
    obtain ⟨rfl, N646q, e646⟩ := hQ646
    have N646 := Fr.app N610 N646q
    obtain ⟨T647, h647, X647, e647, W647, st647⟩ := putFN X646 hx hZ hown (own_wk hw 23 rfl) Via.refl e646 x641 x639 (Or.inr ⟨(own_wk hw 9 rfl), rfl, hnm⟩) (own_wk hw 6 rfl) (ty := .byte) (v' := (.int (1 : Int32))) (by decide) rfl (fits_nar_byte (1 : Int32)) (g := (mkF m 48 #[.val (.ref a0), .val (.ref a1), .val (.int 0), .val (.int 4), .val .null, .val (.ref r610)] [.int 1, (.ref a0)])) rfl rfl (hb hby d9_48)
    have Fw647 := x641.same W647
    have x648 := x639.wr W647
    have x649 := x640.other W647 (Or.inr (slot_ne (Or.inr (own_wk hw 8 rfl)) (Or.inr (own_wk hw 9 rfl)) (by decide) (t := (.array .byte)) (t' := .byte) (by decide) (by decide)))
    have x650 := x642.wr W647 ge_a0
    have x651 := x643.other W647 (Ne.symm ne_a0_a1)
    have x652 := Vr610.other W647 (Ne.symm ne637)
    have sz653 : n0 ≤ h647.size := Nat.le_trans sz644 (Keep.of_wr W647).1
    have kp654 : Keep h0 h647 [a0] := kp645.wr W647 (Or.inl (List.mem_of_getElem? (i := 0) rfl))
    have N647 := Fr.snoc X647 N646 ge_a0
    obtain ⟨T655, h655, X655, e655, W655, st655⟩ := putF X647 hx hZ hown (host := "") (Or.inl (own_wk hw 24 rfl)) Via.refl e647 x649 x648 (Or.inr ⟨(own_wk hw 8 rfl), rfl, hnm⟩) (own_wk hw 6 rfl) (ty := (.array .byte)) (by decide) rfl rfl (g := (mkF m 54 #[.val (.ref a0), .val (.ref a1), .val (.int 0), .val (.int 4), .val .null, .val (.ref r610)] [(.ref r610), (.ref a0)])) rfl rfl (hb hby d9_54)
    have Fw655 := x649.same W655
    have x656 := x648.wr W655
    have x657 := x650.wr W655 ge_a0
    have x658 := x651.other W655 (Ne.symm ne_a0_a1)
    have x659 := x652.other W655 (Ne.symm ne637)
    have x660 := Fw647.other W655 (Or.inr (slot_ne (Or.inr (own_wk hw 9 rfl)) (Or.inr (own_wk hw 8 rfl)) (by decide) (t := .byte) (t' := (.array .byte)) (by decide) (by decide)))
    have sz661 : n0 ≤ h655.size := Nat.le_trans sz653 (Keep.of_wr W655).1
    have kp662 : Keep h0 h655 [a0] := kp654.wr W655 (Or.inl (List.mem_of_getElem? (i := 0) rfl))
    have N655 := Fr.snoc X655 N647 ge_a0
    obtain ⟨fs, hr, hrun, hended, hW, hsame⟩ := X655.leave (v := none) (fun _ => rfl)
    refine ⟨_, _, pre0 _ ?_, hrun, hended, _, _, rfl, ?_, ⟨_, rfl⟩, hW, hsame.mono (by decide) (by decide)⟩
    · show own_S p e below s₁ (mkF m 0 #[.val (.ref a0), .val (.ref a1), .val (.int 0), .val (.int 4), .val .null, .unset] []) _
      refine XS.aloadN X0.here hx rfl (hb hby d9_0) rfl rfl ?_
      show own_S p e below s₁ (mkF m 1 #[.val (.ref a0), .val (.ref a1), .val (.int 0), .val (.int 4), .val .null, .unset] [(.ref a0)]) _
      refine st608 _ ?_
      show own_S p e below T608 (mkF m 4 #[.val (.ref a0), .val (.ref a1), .val (.int 0), .val (.int 4), .val .null, .unset] []) _
      refine XS.iloadN X608.here hx rfl (hb hby d9_4) rfl ?_
      refine XS.ifYes X608.here hx rfl (pc0 := 5) (pc' := 27) rfl (hb hby d9_5) rfl ((if0 _ _).trans (feq (by decide : ¬ ((4 : Int32) = (0 : Int32)))).2) (by decide) (by decide) ?_
      show own_S p e below T608 (mkF m 27 #[.val (.ref a0), .val (.ref a1), .val (.int 0), .val (.int 4), .val .null, .unset] []) _
      refine st609 _ ?_
      show own_S p e below T609 (mkF m 30 #[.val (.ref a0), .val (.ref a1), .val (.int 0), .val (.int 4), .val .null, .unset] [(.int cs)]) _
      refine XS.ifNo X609.here hx rfl (hb hby d9_30) rfl ((if0 _ _).trans (feq (show ¬ (cs = (0 : Int32)) from hcs)).1) ?_
      show own_S p e below T609 (mkF m 33 #[.val (.ref a0), .val (.ref a1), .val (.int 0), .val (.int 4), .val .null, .unset] []) _
      refine XS.aloadN X609.here hx rfl (hb hby d9_33) rfl rfl ?_
      refine XS.iloadN X609.here hx rfl (hb hby d9_34) rfl ?_
      refine XS.iloadN X609.here hx rfl (hb hby d9_35) rfl ?_
      show own_S p e below T609 (mkF m 36 #[.val (.ref a0), .val (.ref a1), .val (.int 0), .val (.int 4), .val .null, .unset] [.int 4, .int 0, (.ref a1)]) _
      refine st610 _ ?_
      show own_S p e below T610 (mkF m 39 #[.val (.ref a0), .val (.ref a1), .val (.int 0), .val (.int 4), .val .null, .unset] [(.ref r610)]) _
      refine XS.astore X610.here hx rfl (hb hby d9_39) rfl rfl (l' := #[.val (.ref a0), .val (.ref a1), .val (.int 0), .val (.int 4), .val .null, .val (.ref r610)]) rfl ?_
      show own_S p e below T610 (mkF m 41 #[.val (.ref a0), .val (.ref a1), .val (.int 0), .val (.int 4), .val .null, .val (.ref r610)] []) _
      refine XS.aloadN X610.here hx rfl (hb hby d9_41) rfl rfl ?_
      refine XS.aload X610.here hx rfl (hb hby d9_42) rfl rfl ?_
      refine XS.iloadN X610.here hx rfl (hb hby d9_44) rfl ?_
      show own_S p e below T610 (mkF m 45 #[.val (.ref a0), .val (.ref a1), .val (.int 0), .val (.int 4), .val .null, .val (.ref r610)] [.int 4, (.ref r610), (.ref a0)]) _
      refine st646 _ ?_
      show own_S p e below T646 (mkF m 48 #[.val (.ref a0), .val (.ref a1), .val (.int 0), .val (.int 4), .val .null, .val (.ref r610)] [.int 1, (.ref a0)]) _
      refine st647 _ ?_
      show own_S p e below T647 (mkF m 51 #[.val (.ref a0), .val (.ref a1), .val (.int 0), .val (.int 4), .val .null, .val (.ref r610)] []) _
      refine XS.aloadN X647.here hx rfl (hb hby d9_51) rfl rfl ?_
      refine XS.aload X647.here hx rfl (hb hby d9_52) rfl rfl ?_
      show own_S p e below T647 (mkF m 54 #[.val (.ref a0), .val (.ref a1), .val (.int 0), .val (.int 4), .val .null, .val (.ref r610)] [(.ref r610), (.ref a0)]) _
      refine st655 _ ?_
      show own_S p e below T655 (mkF m 57 #[.val (.ref a0), .val (.ref a1), .val (.int 0), .val (.int 4), .val .null, .val (.ref r610)] []) _
      exact X655.returnOut hx Bd.returns (hb hby d9_57) hr
    · show Q9_s4 Z a0 a1 kc c0 c1 c2 c3 cs h0 n0 _ T655.heap _
      rw [e655]
      exact ⟨rfl, N655, kp662, ⟨x656, (by decide : 4 ≤ 4), r610, kr610, (8 : Int32), (1 : Int32), _, Fw655, x660, x659, Or.inr ⟨rfl, rfl, own_u16_of4 hr_c0 hr_c1 hr_c2 hr_c3⟩⟩⟩
def Q8_s4 (Z : State) (a0 : Addr) (a1 : Addr) (kc : ClassId) (c0 : Int32) (c1 : Int32) (c2 : Int32) (c3 : Int32) (cs : Int32) (h0 : Heap) (n0 : Nat) (v : Option Value) (h : Heap) (L : List Loc) : Prop := v = none ∧ Fr n0 L ∧ Keep h0 h [a0] ∧ own_str Z h a0 [c0, c1, c2, c3]
set_option maxRecDepth 65536 in
set_option maxHeartbeats 40000000 in
theorem rm8_s4 (l : Launch) (Z : State) (ag : Array Value) (hw : ∀ d ∈ tables_1, d.before ag Z = true) (ws : List Jvm.Cond) (a0 : Addr) (a1 : Addr) (kc : ClassId) (c0 : Int32) (c1 : Int32) (c2 : Int32) (c3 : Int32) (cs : Int32) (h0 : Heap) (n0 : Nat) (Z0 : n0 ≤ h0.size) (E_a0 : Exa Z h0 a0 "java/lang/String") (F_value_a0 : Fld Z h0 a0 "java/lang/String" "value" "[B" .null) (F_coder_a0 : Fld Z h0 a0 "java/lang/String" "coder" "B" (.int (0 : Int32))) (ge_a0 : n0 ≤ a0) (ne_a0_a1 : a0 ≠ a1) (O_ : Old Z n0 h0) (S_cs : Sta Z Z.heap "java/lang/String" "COMPACT_STRINGS" "Z" (.int cs)) (hcs : ¬ cs = (0 : Int32)) (S_ad : Sta Z Z.heap "java/lang/StringUTF16" "$assertionsDisabled" "Z" (.int (1 : Int32))) (S_hi : Sta Z Z.heap "java/lang/StringUTF16" "HI_BYTE_SHIFT" "I" (.int (0 : Int32))) (S_lo : Sta Z Z.heap "java/lang/StringUTF16" "LO_BYTE_SHIFT" "I" (.int (8 : Int32))) (V_a1 : Arv Z h0 a1 kc .char (4 : Int32) [(.int c0), (.int c1), (.int c2), (.int c3)] (.int (0 : Int32))) (hr_c0 : 0 ≤ c0.toInt ∧ c0.toInt < 65536) (hr_c1 : 0 ≤ c1.toInt ∧ c1.toInt < 65536) (hr_c2 : 0 ≤ c2.toInt ∧ c2.toInt < 65536) (hr_c3 : 0 ≤ c3.toInt ∧ c3.toInt < 65536) :
    MetFree l (⟨"java/lang/String", "<init>", "([C)V"⟩ : MethodName) (head1 (Jvm.Cond.code (⟨"java/lang/String", "<init>", "([C)V"⟩ : MethodName) jdk_42_method_3_code 2 none :: ws) ({ frames := 5, cells := 4, slots := 40, locals := 110 } : Room)) (fun a U => a = #[(.ref a0), (.ref a1)] ∧ Z.Warmed39 U.vm ∧ U.heap = h0 ∧ CHv Z own_EL U.vm h0) (fun _ _ _ _ _ => True) (fun _ U o U' => ∃ v L, o = .returned v ∧ Q8_s4 Z a0 a1 kc c0 c1 c2 c3 cs h0 n0 v U'.heap L ∧ CHr Z own_EL U.vm U.heap U'.vm U'.heap ∧ ReturnedEndW U o U' L ({ frames := 5, cells := 4, slots := 40, locals := 110 } : Room).cells ({ frames := 5, cells := 4, slots := 40, locals := 110 } : Room).slots) := by
  refine MetFree.of_bodySF (plainFor_of_name pn_4) hisR ?_
  intro p e s m args below meth c s₁ Bd hml0 hP hK
  obtain ⟨rfl, hZ, hh, hI⟩ := hP
  have hx := Bd.exec
  have hby := Bd.bytes
  have hml : c.maxLocals = 2 := hml0
  have hown : s.vm.findClass "java/lang/String" = some m.cls := findClass_of_methodNamed Bd.named
  have hnm := (name_of_methodNamed Bd.named Bd.method).1
  have X0 : Stand p l e ({ frames := 5, cells := 4, slots := 40, locals := 110 } : Room) s m #[(.ref a0), (.ref a1)] below meth c s₁ [] 0 0 := Stand.of_body Bd
  have e0 : s₁.heap = h0 := by rw [← hh, Bd.state]; rfl
  have N0 := Fr.nil n0
  have pre0 : ∀ t, Steps p.tables e below (s₁.setTop (mkF m 0 #[.val (.ref a0), .val (.ref a1)] [])) t → Steps p.tables e below (s₁.setTop (entryFrame m #[(.ref a0), (.ref a1)] 2)) t := fun t k => castTop (ef_8 m a0 a1) k
  have X0 : Stand p l e ({ frames := 5, cells := 4, slots := 40, locals := 110 } : Room) (s.setVm s.vm) m #[(.ref a0), (.ref a1)] below meth c s₁ [] 0 0 := X0
  have hS : s.Since s.vm 0 := (State.WarmedH.refl s).since 0
  have hkS : 0 ≤ h0.size := Nat.zero_le _
  have hC : CHr Z own_EL s.vm h0 s.vm h0 := CHr.refl hI
  have hEL : EW Z ag own_EL := own_ew hw
  have hwS : ∀ d ∈ Bundle.stringAtoms, d.before ag Z = true := fun d hd => hw d ((by decide +kernel : ∀ d ∈ Bundle.stringAtoms, d ∈ tables_1) d hd)
  have sf_a0 := own_safe_str hC hZ.alike E_a0 F_value_a0 (own_wk hw 6 rfl)
  obtain ⟨cl663, Ar663, -, S663, M663, -, -⟩ := id V_a1
  have ld663 := X0.arraylength hx (by rw [e0]; exact Ar663.1) (State.isArrayOf_alike hZ.alike Ar663.2.1) (g := (mkF m 4 #[.val (.ref a0), .val (.ref a1)] [(.ref a1), .int 0, (.ref a1), (.ref a0)])) rfl rfl (hb hby d8_4)
  obtain ⟨_, _, ⟨T664, L664, k664, n664⟩, -, X664, ⟨Lc664, hQ664, l664, y664, z664⟩, st664⟩ := X0.specialBack hx (y := (⟨"java/lang/String", "<init>", "([CIILjava/lang/Void;)V"⟩ : MethodName)) rfl hown (mvT hZ (own_wk hw 45 rfl)) (mvT hZ (own_wk hw 46 rfl)) (mvT hZ (own_wk hw 48 rfl)) (by decide) (backOf (W := 0) (rm9_s4 l Z ag hw [] a0 a1 kc c0 c1 c2 c3 cs h0 n0 Z0 E_a0 F_value_a0 F_coder_a0 ge_a0 ne_a0_a1 O_ S_cs hcs S_ad S_hi S_lo V_a1 hr_c0 hr_c1 hr_c2 hr_c3) hZ (own_wk hw 48 rfl) (own_wk hw 5 rfl) (by decide) (by decide)) (g := (mkF m 6 #[.val (.ref a0), .val (.ref a1)] [.null, .int 4, .int 0, (.ref a1), (.ref a0)])) rfl (by rw [hml]; rfl) (Steps.refl _) (a := a0) (argsL := [(.ref a1), (.int (0 : Int32)), (.int (4 : Int32)), .null]) (rest := []) (lenOf pd_24 rfl) rfl (by show 2 * 0 + _ ≤ _; exact Nat.le_of_eq rfl) (hb hby d8_6) (fun _ _ => ⟨rfl, e0, (by decide : 0 + 2 ≤ _), (by decide : 0 + 12 ≤ _)⟩)
  dsimp only [Pt.U, Pt.locs, Pt.cells, Pt.slots] at X664 l664 y664 z664 st664 hQ664
  subst l664 y664 z664
  obtain ⟨rfl, N664q, K664, Ss664⟩ := hQ664
  have N664 := Fr.app N0 N664q
  have x665 := E_a0.keep K664
  have x666 := O_.keep K664 (allS ge_a0 all0)
  have x667 := V_a1.keep K664 (ninS (Ne.symm ne_a0_a1) nin0)
  have x668 := Safe.keep K664 (sfS sf_a0 sf0) hC.1 sf_a0
  have sz669 : n0 ≤ T664.heap.size := Nat.le_trans Z0 K664.1
  have hkS := Nat.le_trans hkS K664.1
  have hC := hC.trans (CHr.keep K664 (sfS sf_a0 sf0) hC.1)
  have kp670 : Keep h0 T664.heap [a0] := (Keep.refl h0 [a0]).trans K664 (allS (Or.inl (List.mem_of_getElem? (i := 0) rfl)) all0)
  obtain ⟨fs, hr, hrun, hended, hEnd⟩ := X664.leaveW hS hkS (v := none) (fun _ => rfl)
  refine ⟨_, _, pre0 _ ?_, hrun, hended, _, _, rfl, ?_, ?_, hEnd.1, hEnd.2.1, hEnd.2.2.1, hEnd.2.2.2.mono (by decide) (by decide)⟩
  · show own_S p e below s₁ (mkF m 0 #[.val (.ref a0), .val (.ref a1)] []) _
    refine XS.aloadN X0.here hx rfl (hb hby d8_0) rfl rfl ?_
    refine XS.aloadN X0.here hx rfl (hb hby d8_1) rfl rfl ?_
    refine XS.iconst X0.here hx rfl (hb hby d8_2) ?_
    refine XS.aloadN X0.here hx rfl (hb hby d8_3) rfl rfl ?_
    show own_S p e below s₁ (mkF m 4 #[.val (.ref a0), .val (.ref a1)] [(.ref a1), .int 0, (.ref a1), (.ref a0)]) _
    refine ld663 _ ?_
    rw [len_of S663 M663]
    show own_S p e below s₁ (mkF m 5 #[.val (.ref a0), .val (.ref a1)] [.int 4, .int 0, (.ref a1), (.ref a0)]) _
    refine XS.aconstNull X0.here hx rfl (hb hby d8_5) ?_
    show own_S p e below s₁ (mkF m 6 #[.val (.ref a0), .val (.ref a1)] [.null, .int 4, .int 0, (.ref a1), (.ref a0)]) _
    refine st664.trans ?_
    show own_S p e below T664 (mkF m 9 #[.val (.ref a0), .val (.ref a1)] []) _
    exact X664.returnOut hx Bd.returns (hb hby d8_9) hr
  · show Q8_s4 Z a0 a1 kc c0 c1 c2 c3 cs h0 n0 _ T664.heap _
    exact ⟨rfl, N664, kp670, Ss664⟩
  · show CHr Z own_EL s.vm s.heap T664.vm T664.heap
    rw [hh]
    exact hC.trans (CHv.at X664 hZ hEL hC.1)
def own_mv (n c0 c1 c2 c3 : Int32) : List Value := if n = (0 : Int32) then [] else if n = (1 : Int32) then [(.int c0)] else if n = (2 : Int32) then [(.int c0), (.int c1)] else if n = (3 : Int32) then [(.int c0), (.int c1), (.int c2)] else [(.int c0), (.int c1), (.int c2), (.int c3)]
def own_ml (n c0 c1 c2 c3 : Int32) : List Int32 := if n = (0 : Int32) then [] else if n = (1 : Int32) then [c0] else if n = (2 : Int32) then [c0, c1] else if n = (3 : Int32) then [c0, c1, c2] else [c0, c1, c2, c3]
theorem own_mv_0 (c0 c1 c2 c3 : Int32) : own_mv (0 : Int32) c0 c1 c2 c3 = [] := by unfold own_mv; rw [if_pos rfl]
theorem own_ml_0 (c0 c1 c2 c3 : Int32) : own_ml (0 : Int32) c0 c1 c2 c3 = [] := by unfold own_ml; rw [if_pos rfl]
theorem own_mv_1 (c0 c1 c2 c3 : Int32) : own_mv (1 : Int32) c0 c1 c2 c3 = [(.int c0)] := by unfold own_mv; rw [if_neg (by decide), if_pos rfl]
theorem own_ml_1 (c0 c1 c2 c3 : Int32) : own_ml (1 : Int32) c0 c1 c2 c3 = [c0] := by unfold own_ml; rw [if_neg (by decide), if_pos rfl]
theorem own_mv_2 (c0 c1 c2 c3 : Int32) : own_mv (2 : Int32) c0 c1 c2 c3 = [(.int c0), (.int c1)] := by unfold own_mv; rw [if_neg (by decide), if_neg (by decide), if_pos rfl]
theorem own_ml_2 (c0 c1 c2 c3 : Int32) : own_ml (2 : Int32) c0 c1 c2 c3 = [c0, c1] := by unfold own_ml; rw [if_neg (by decide), if_neg (by decide), if_pos rfl]
theorem own_mv_3 (c0 c1 c2 c3 : Int32) : own_mv (3 : Int32) c0 c1 c2 c3 = [(.int c0), (.int c1), (.int c2)] := by unfold own_mv; rw [if_neg (by decide), if_neg (by decide), if_neg (by decide), if_pos rfl]
theorem own_ml_3 (c0 c1 c2 c3 : Int32) : own_ml (3 : Int32) c0 c1 c2 c3 = [c0, c1, c2] := by unfold own_ml; rw [if_neg (by decide), if_neg (by decide), if_neg (by decide), if_pos rfl]
theorem own_mv_4 (c0 c1 c2 c3 : Int32) : own_mv (4 : Int32) c0 c1 c2 c3 = [(.int c0), (.int c1), (.int c2), (.int c3)] := by unfold own_mv; rw [if_neg (by decide), if_neg (by decide), if_neg (by decide), if_neg (by decide)]
theorem own_ml_4 (c0 c1 c2 c3 : Int32) : own_ml (4 : Int32) c0 c1 c2 c3 = [c0, c1, c2, c3] := by unfold own_ml; rw [if_neg (by decide), if_neg (by decide), if_neg (by decide), if_neg (by decide)]
theorem own_ml_len (n c0 c1 c2 c3 : Int32) : (own_ml n c0 c1 c2 c3).length ≤ 4 := by unfold own_ml; (repeat' split) <;> simp
def own_n5 (n : Int32) : Prop := n = 0 ∨ n = 1 ∨ n = 2 ∨ n = 3 ∨ n = 4
def own_Qs (us : List Int32) (Z : State) (a0 : Addr) (h0 : Heap) (n0 : Nat) (v : Option Value) (h : Heap) (L : List Loc) : Prop := v = none ∧ Fr n0 L ∧ Keep h0 h [a0] ∧ own_str Z h a0 us
theorem rm8 (l : Launch) (Z : State) (ag : Array Value) (hw : ∀ d ∈ tables_1, d.before ag Z = true) (ws : List Jvm.Cond) (a0 a1 : Addr) (kc : ClassId) (n c0 c1 c2 c3 : Int32) (cs : Int32) (h0 : Heap) (n0 : Nat) (Z0 : n0 ≤ h0.size) (hn : own_n5 n) (E_a0 : Exa Z h0 a0 "java/lang/String") (F_v : Fld Z h0 a0 "java/lang/String" "value" "[B" .null) (F_c : Fld Z h0 a0 "java/lang/String" "coder" "B" (.int (0 : Int32))) (ge_a0 : n0 ≤ a0) (ne_a0_a1 : a0 ≠ a1) (V_ : Arv Z h0 a1 kc .char n (own_mv n c0 c1 c2 c3) (.int (0 : Int32))) (hr_c0 : 0 ≤ c0.toInt ∧ c0.toInt < 65536) (hr_c1 : 0 ≤ c1.toInt ∧ c1.toInt < 65536) (hr_c2 : 0 ≤ c2.toInt ∧ c2.toInt < 65536) (hr_c3 : 0 ≤ c3.toInt ∧ c3.toInt < 65536) (O_ : Old Z n0 h0) (S_cs : Sta Z Z.heap "java/lang/String" "COMPACT_STRINGS" "Z" (.int cs)) (hcs : ¬ cs = (0 : Int32)) (S_ad : Sta Z Z.heap "java/lang/StringUTF16" "$assertionsDisabled" "Z" (.int (1 : Int32))) (S_hi : Sta Z Z.heap "java/lang/StringUTF16" "HI_BYTE_SHIFT" "I" (.int (0 : Int32))) (S_lo : Sta Z Z.heap "java/lang/StringUTF16" "LO_BYTE_SHIFT" "I" (.int (8 : Int32))) :
    MetFree l (⟨"java/lang/String", "<init>", "([C)V"⟩ : MethodName) (head1 (Jvm.Cond.code (⟨"java/lang/String", "<init>", "([C)V"⟩ : MethodName) jdk_42_method_3_code 2 none :: ws) ({ frames := 5, cells := 4, slots := 40, locals := 110 } : Room)) (fun a U => a = #[(.ref a0), (.ref a1)] ∧ Z.Warmed39 U.vm ∧ U.heap = h0 ∧ CHv Z own_EL U.vm h0) (fun _ _ _ _ _ => True) (fun _ U o U' => ∃ v L, o = .returned v ∧ own_Qs (own_ml n c0 c1 c2 c3) Z a0 h0 n0 v U'.heap L ∧ CHr Z own_EL U.vm U.heap U'.vm U'.heap ∧ ReturnedEndW U o U' L ({ frames := 5, cells := 4, slots := 40, locals := 110 } : Room).cells ({ frames := 5, cells := 4, slots := 40, locals := 110 } : Room).slots) := by
  rcases hn with rfl | rfl | rfl | rfl | rfl
  · rw [own_mv_0] at V_; rw [own_ml_0]; exact rm8_s0 l Z ag hw ws a0 a1 kc _ h0 n0 Z0 E_a0 F_v F_c ge_a0 V_
  · rw [own_mv_1] at V_; rw [own_ml_1]; exact rm8_s1 l Z ag hw ws a0 a1 kc c0 cs h0 n0 Z0 E_a0 F_v F_c ge_a0 ne_a0_a1 O_ S_cs hcs S_ad S_hi S_lo V_ hr_c0
  · rw [own_mv_2] at V_; rw [own_ml_2]; exact rm8_s2 l Z ag hw ws a0 a1 kc c0 c1 cs h0 n0 Z0 E_a0 F_v F_c ge_a0 ne_a0_a1 O_ S_cs hcs S_ad S_hi S_lo V_ hr_c0 hr_c1
  · rw [own_mv_3] at V_; rw [own_ml_3]; exact rm8_s3 l Z ag hw ws a0 a1 kc c0 c1 c2 cs h0 n0 Z0 E_a0 F_v F_c ge_a0 ne_a0_a1 O_ S_cs hcs S_ad S_hi S_lo V_ hr_c0 hr_c1 hr_c2
  · rw [own_mv_4] at V_; rw [own_ml_4]; exact rm8_s4 l Z ag hw ws a0 a1 kc c0 c1 c2 c3 cs h0 n0 Z0 E_a0 F_v F_c ge_a0 ne_a0_a1 O_ S_cs hcs S_ad S_hi S_lo V_ hr_c0 hr_c1 hr_c2 hr_c3
theorem pn_1 : plainName "com/example/citeloom/citeloom/references/FieldTextAfterSeparatorsPinLaw" = true := by first | (simp [plainName, overriddenIn]; done) | decide +kernel
theorem ef_25 (m : MethodId) (p0 : Int32) (p1 : Int32) (p2 : Int32) (p3 : Int32) (p4 : Int32) : entryFrame m #[(.int p0), (.int p1), (.int p2), (.int p3), (.int p4)] 5 = mkF m 0 #[.val (.int p0), .val (.int p1), .val (.int p2), .val (.int p3), .val (.int p4)] [] := by first | (simp [entryFrame, mkF, argsToLocals, Value.category]; done) | rfl
theorem d25_0 : decode method_5_code 0 = .ok (.iload_n 0, 1) := by decide +kernel
theorem d25_1 : decode method_5_code 1 = .ok (.ifCond .ne 5, 3) := by decide +kernel
theorem d25_4 : decode method_5_code 4 = .ok (.iload_n 1, 1) := by decide +kernel
theorem d25_6 : decode method_5_code 6 = .ok (.iload_n 0, 1) := by decide +kernel
theorem d25_7 : decode method_5_code 7 = .ok (.iconst 1, 1) := by decide +kernel
theorem d25_8 : decode method_5_code 8 = .ok (.if_icmp .ne 5, 3) := by decide +kernel
theorem d25_11 : decode method_5_code 11 = .ok (.iload_n 2, 1) := by decide +kernel
theorem d25_13 : decode method_5_code 13 = .ok (.iload_n 0, 1) := by decide +kernel
theorem d25_14 : decode method_5_code 14 = .ok (.iconst 2, 1) := by decide +kernel
theorem d25_15 : decode method_5_code 15 = .ok (.if_icmp .ne 5, 3) := by decide +kernel
theorem d25_18 : decode method_5_code 18 = .ok (.iload_n 3, 1) := by decide +kernel
theorem d25_20 : decode method_5_code 20 = .ok (.iload 4, 2) := by decide +kernel
def own_pick (p0 : Int32) (p1 : Int32) (p2 : Int32) (p3 : Int32) (p4 : Int32) : Int32 := (if p0 = (0 : Int32) then (nar .char p1) else (if p0 = (1 : Int32) then (nar .char p2) else (if p0 = (2 : Int32) then (nar .char p3) else (nar .char p4))))
def Q25 (Z : State) (p0 : Int32) (p1 : Int32) (p2 : Int32) (p3 : Int32) (p4 : Int32) (h0 : Heap) (n0 : Nat) (v : Option Value) (h : Heap) (L : List Loc) : Prop := v = some (.int (own_pick p0 p1 p2 p3 p4)) ∧ Fr n0 L ∧ h = h0
theorem d25_5 : decode method_5_code 5 = .ok (.ireturn, 1) := by decide +kernel
theorem d25_12 : decode method_5_code 12 = .ok (.ireturn, 1) := by decide +kernel
theorem d25_19 : decode method_5_code 19 = .ok (.ireturn, 1) := by decide +kernel
theorem d25_22 : decode method_5_code 22 = .ok (.ireturn, 1) := by decide +kernel
set_option maxRecDepth 65536 in
set_option maxHeartbeats 40000000 in
theorem rm25 (l : Launch) (Z : State) (ag : Array Value) (hw : ∀ d ∈ tables_1, d.before ag Z = true) (ws : List Jvm.Cond) (p0 : Int32) (p1 : Int32) (p2 : Int32) (p3 : Int32) (p4 : Int32) (h0 : Heap) (n0 : Nat) (Z0 : n0 ≤ h0.size) :
    MetFree l (⟨"com/example/citeloom/citeloom/references/FieldTextAfterSeparatorsPinLaw", "pick", "(ICCCC)C"⟩ : MethodName) (head1 (Jvm.Cond.code (⟨"com/example/citeloom/citeloom/references/FieldTextAfterSeparatorsPinLaw", "pick", "(ICCCC)C"⟩ : MethodName) method_5_code 5 (some .char) :: ws) ({ frames := 0, cells := 0, slots := 0, locals := 0 } : Room)) (fun a U => a = #[(.int p0), (.int p1), (.int p2), (.int p3), (.int p4)] ∧ Z.Warmed39 U.vm ∧ U.heap = h0) (fun _ _ _ _ _ => True) (fun _ U o U' => ∃ v L, o = .returned v ∧ Q25 Z p0 p1 p2 p3 p4 h0 n0 v U'.heap L ∧ FrameEnd U o U' L ({ frames := 0, cells := 0, slots := 0, locals := 0 } : Room).cells ({ frames := 0, cells := 0, slots := 0, locals := 0 } : Room).slots) := by
  refine MetFree.of_bodySF (plainFor_of_name pn_1) hisR ?_
  intro p e s m args below meth c s₁ Bd hml0 hP hK
  obtain ⟨rfl, hZ, hh⟩ := hP
  have hx := Bd.exec
  have hby := Bd.bytes
  have hml : c.maxLocals = 5 := hml0
  have hown : s.vm.findClass "com/example/citeloom/citeloom/references/FieldTextAfterSeparatorsPinLaw" = some m.cls := findClass_of_methodNamed Bd.named
  have hnm := (name_of_methodNamed Bd.named Bd.method).1
  have X0 : Stand p l e ({ frames := 0, cells := 0, slots := 0, locals := 0 } : Room) s m #[(.int p0), (.int p1), (.int p2), (.int p3), (.int p4)] below meth c s₁ [] 0 0 := Stand.of_body Bd
  have e0 : s₁.heap = h0 := by rw [← hh, Bd.state]; rfl
  have N0 := Fr.nil n0
  have pre0 : ∀ t, Steps p.tables e below (s₁.setTop (mkF m 0 #[.val (.int p0), .val (.int p1), .val (.int p2), .val (.int p3), .val (.int p4)] [])) t → Steps p.tables e below (s₁.setTop (entryFrame m #[(.int p0), (.int p1), (.int p2), (.int p3), (.int p4)] 5)) t := fun t k => castTop (ef_25 m p0 p1 p2 p3 p4) k
  obtain ⟨fs, hr, hrun, hended, hW, hsame⟩ := X0.leave (v := some (.int (own_pick p0 p1 p2 p3 p4))) (fun h => by rw [Bd.returns] at h; cases h)
  refine ⟨_, _, pre0 _ ?_, hrun, hended, _, _, rfl, ?_, ⟨_, rfl⟩, hW, hsame.mono (by decide) (by decide)⟩
  · show own_S p e below s₁ (mkF m 0 #[.val (.int p0), .val (.int p1), .val (.int p2), .val (.int p3), .val (.int p4)] []) _
    refine XS.iloadN X0.here hx rfl (hb hby d25_0) rfl ?_
    by_cases hc671 : p0 = (0 : Int32)
    · show own_S p e below s₁ (mkF m 1 #[.val (.int p0), .val (.int p1), .val (.int p2), .val (.int p3), .val (.int p4)] [(.int p0)]) _
      refine XS.ifNo X0.here hx rfl (hb hby d25_1) rfl ((if0 _ _).trans (teq hc671).2) ?_
      show own_S p e below s₁ (mkF m 4 #[.val (.int p0), .val (.int p1), .val (.int p2), .val (.int p3), .val (.int p4)] []) _
      refine XS.iloadN X0.here hx rfl (hb hby d25_4) rfl ?_
      show own_S p e below s₁ (mkF m 5 #[.val (.int p0), .val (.int p1), .val (.int p2), .val (.int p3), .val (.int p4)] [(.int p1)]) _
      have q : (own_pick p0 p1 p2 p3 p4) = (nar .char p1) := by unfold own_pick; rw [if_pos hc671]
      have hr := own_cast (P := fun z => ∀ (f : JFrame) (acts : List Action), f.method = m → f.locked = none → f.entered = [] → (doReturn e (s₁.setTop f) acts (some (.int z))).1 = s₁.setFrames fs) q hr
      exact retN X0 hx (t := .char) Bd.returns (by simp) (hb hby d25_5) hr
    · show own_S p e below s₁ (mkF m 1 #[.val (.int p0), .val (.int p1), .val (.int p2), .val (.int p3), .val (.int p4)] [(.int p0)]) _
      refine XS.ifYes X0.here hx rfl (pc0 := 1) (pc' := 6) rfl (hb hby d25_1) rfl ((if0 _ _).trans (feq hc671).2) (by decide) (by decide) ?_
      show own_S p e below s₁ (mkF m 6 #[.val (.int p0), .val (.int p1), .val (.int p2), .val (.int p3), .val (.int p4)] []) _
      refine XS.iloadN X0.here hx rfl (hb hby d25_6) rfl ?_
      refine XS.iconst X0.here hx rfl (hb hby d25_7) ?_
      by_cases hc672 : p0 = (1 : Int32)
      · show own_S p e below s₁ (mkF m 8 #[.val (.int p0), .val (.int p1), .val (.int p2), .val (.int p3), .val (.int p4)] [.int 1, (.int p0)]) _
        refine XS.icmpNo X0.here hx rfl (hb hby d25_8) rfl (teq hc672).2 ?_
        show own_S p e below s₁ (mkF m 11 #[.val (.int p0), .val (.int p1), .val (.int p2), .val (.int p3), .val (.int p4)] []) _
        refine XS.iloadN X0.here hx rfl (hb hby d25_11) rfl ?_
        show own_S p e below s₁ (mkF m 12 #[.val (.int p0), .val (.int p1), .val (.int p2), .val (.int p3), .val (.int p4)] [(.int p2)]) _
        have q : (own_pick p0 p1 p2 p3 p4) = (nar .char p2) := by unfold own_pick; rw [if_neg hc671, if_pos hc672]
        have hr := own_cast (P := fun z => ∀ (f : JFrame) (acts : List Action), f.method = m → f.locked = none → f.entered = [] → (doReturn e (s₁.setTop f) acts (some (.int z))).1 = s₁.setFrames fs) q hr
        exact retN X0 hx (t := .char) Bd.returns (by simp) (hb hby d25_12) hr
      · show own_S p e below s₁ (mkF m 8 #[.val (.int p0), .val (.int p1), .val (.int p2), .val (.int p3), .val (.int p4)] [.int 1, (.int p0)]) _
        refine XS.icmpYes X0.here hx rfl (pc0 := 8) (pc' := 13) rfl (hb hby d25_8) rfl (feq hc672).2 (by decide) (by decide) ?_
        show own_S p e below s₁ (mkF m 13 #[.val (.int p0), .val (.int p1), .val (.int p2), .val (.int p3), .val (.int p4)] []) _
        refine XS.iloadN X0.here hx rfl (hb hby d25_13) rfl ?_
        refine XS.iconst X0.here hx rfl (hb hby d25_14) ?_
        by_cases hc673 : p0 = (2 : Int32)
        · show own_S p e below s₁ (mkF m 15 #[.val (.int p0), .val (.int p1), .val (.int p2), .val (.int p3), .val (.int p4)] [.int 2, (.int p0)]) _
          refine XS.icmpNo X0.here hx rfl (hb hby d25_15) rfl (teq hc673).2 ?_
          show own_S p e below s₁ (mkF m 18 #[.val (.int p0), .val (.int p1), .val (.int p2), .val (.int p3), .val (.int p4)] []) _
          refine XS.iloadN X0.here hx rfl (hb hby d25_18) rfl ?_
          show own_S p e below s₁ (mkF m 19 #[.val (.int p0), .val (.int p1), .val (.int p2), .val (.int p3), .val (.int p4)] [(.int p3)]) _
          have q : (own_pick p0 p1 p2 p3 p4) = (nar .char p3) := by unfold own_pick; rw [if_neg hc671, if_neg hc672, if_pos hc673]
          have hr := own_cast (P := fun z => ∀ (f : JFrame) (acts : List Action), f.method = m → f.locked = none → f.entered = [] → (doReturn e (s₁.setTop f) acts (some (.int z))).1 = s₁.setFrames fs) q hr
          exact retN X0 hx (t := .char) Bd.returns (by simp) (hb hby d25_19) hr
        · show own_S p e below s₁ (mkF m 15 #[.val (.int p0), .val (.int p1), .val (.int p2), .val (.int p3), .val (.int p4)] [.int 2, (.int p0)]) _
          refine XS.icmpYes X0.here hx rfl (pc0 := 15) (pc' := 20) rfl (hb hby d25_15) rfl (feq hc673).2 (by decide) (by decide) ?_
          show own_S p e below s₁ (mkF m 20 #[.val (.int p0), .val (.int p1), .val (.int p2), .val (.int p3), .val (.int p4)] []) _
          refine XS.iload X0.here hx rfl (hb hby d25_20) rfl ?_
          show own_S p e below s₁ (mkF m 22 #[.val (.int p0), .val (.int p1), .val (.int p2), .val (.int p3), .val (.int p4)] [(.int p4)]) _
          have q : (own_pick p0 p1 p2 p3 p4) = (nar .char p4) := by unfold own_pick; rw [if_neg hc671, if_neg hc672, if_neg hc673]
          have hr := own_cast (P := fun z => ∀ (f : JFrame) (acts : List Action), f.method = m → f.locked = none → f.entered = [] → (doReturn e (s₁.setTop f) acts (some (.int z))).1 = s₁.setFrames fs) q hr
          exact retN X0 hx (t := .char) Bd.returns (by simp) (hb hby d25_22) hr
  · show Q25 Z p0 p1 p2 p3 p4 h0 n0 _ s₁.heap _
    rw [e0]
    exact ⟨rfl, N0, rfl⟩
theorem ef_26 (m : MethodId) (p0 : Int32) : entryFrame m #[(.int p0)] 1 = mkF m 0 #[.val (.int p0)] [] := by first | (simp [entryFrame, mkF, argsToLocals, Value.category]; done) | rfl
theorem d26_0 : decode method_2_code 0 = .ok (.iload_n 0, 1) := by decide +kernel
theorem d26_1 : decode method_2_code 1 = .ok (.bipush 46, 2) := by decide +kernel
theorem d26_3 : decode method_2_code 3 = .ok (.if_icmp .eq 33, 3) := by decide +kernel
theorem d26_36 : decode method_2_code 36 = .ok (.iconst 1, 1) := by decide +kernel
theorem d26_37 : decode method_2_code 37 = .ok (.goto 4, 3) := by decide +kernel
theorem d26_6 : decode method_2_code 6 = .ok (.iload_n 0, 1) := by decide +kernel
theorem d26_7 : decode method_2_code 7 = .ok (.bipush 44, 2) := by decide +kernel
theorem d26_9 : decode method_2_code 9 = .ok (.if_icmp .eq 27, 3) := by decide +kernel
theorem d26_12 : decode method_2_code 12 = .ok (.iload_n 0, 1) := by decide +kernel
theorem d26_13 : decode method_2_code 13 = .ok (.bipush 59, 2) := by decide +kernel
theorem d26_15 : decode method_2_code 15 = .ok (.if_icmp .eq 21, 3) := by decide +kernel
theorem d26_18 : decode method_2_code 18 = .ok (.iload_n 0, 1) := by decide +kernel
theorem d26_19 : decode method_2_code 19 = .ok (.bipush 58, 2) := by decide +kernel
theorem d26_21 : decode method_2_code 21 = .ok (.if_icmp .eq 15, 3) := by decide +kernel
theorem d26_24 : decode method_2_code 24 = .ok (.iload_n 0, 1) := by decide +kernel
theorem d26_25 : decode method_2_code 25 = .ok (.bipush 47, 2) := by decide +kernel
theorem d26_27 : decode method_2_code 27 = .ok (.if_icmp .eq 9, 3) := by decide +kernel
theorem d26_30 : decode method_2_code 30 = .ok (.iload_n 0, 1) := by decide +kernel
theorem d26_31 : decode method_2_code 31 = .ok (.bipush 32, 2) := by decide +kernel
theorem d26_33 : decode method_2_code 33 = .ok (.if_icmp .ne 7, 3) := by decide +kernel
theorem d26_40 : decode method_2_code 40 = .ok (.iconst 0, 1) := by decide +kernel
def own_is (p0 : Int32) : Int32 := (if p0 = (46 : Int32) then (1 : Int32) else (if p0 = (44 : Int32) then (1 : Int32) else (if p0 = (59 : Int32) then (1 : Int32) else (if p0 = (58 : Int32) then (1 : Int32) else (if p0 = (47 : Int32) then (1 : Int32) else (if p0 = (32 : Int32) then (1 : Int32) else (0 : Int32)))))))
def Q26 (Z : State) (p0 : Int32) (h0 : Heap) (n0 : Nat) (v : Option Value) (h : Heap) (L : List Loc) : Prop := v = some (.int (own_is p0)) ∧ Fr n0 L ∧ h = h0
theorem d26_41 : decode method_2_code 41 = .ok (.ireturn, 1) := by decide +kernel
set_option maxRecDepth 65536 in
set_option maxHeartbeats 40000000 in
theorem rm26 (l : Launch) (Z : State) (ag : Array Value) (hw : ∀ d ∈ tables_1, d.before ag Z = true) (ws : List Jvm.Cond) (p0 : Int32) (h0 : Heap) (n0 : Nat) (Z0 : n0 ≤ h0.size) :
    MetFree l (⟨"com/example/citeloom/citeloom/references/FieldTextAfterSeparatorsPinLaw", "isSep", "(C)Z"⟩ : MethodName) (head1 (Jvm.Cond.code (⟨"com/example/citeloom/citeloom/references/FieldTextAfterSeparatorsPinLaw", "isSep", "(C)Z"⟩ : MethodName) method_2_code 1 (some .boolean) :: ws) ({ frames := 0, cells := 0, slots := 0, locals := 0 } : Room)) (fun a U => a = #[(.int p0)] ∧ Z.Warmed39 U.vm ∧ U.heap = h0) (fun _ _ _ _ _ => True) (fun _ U o U' => ∃ v L, o = .returned v ∧ Q26 Z p0 h0 n0 v U'.heap L ∧ FrameEnd U o U' L ({ frames := 0, cells := 0, slots := 0, locals := 0 } : Room).cells ({ frames := 0, cells := 0, slots := 0, locals := 0 } : Room).slots) := by
  refine MetFree.of_bodySF (plainFor_of_name pn_1) hisR ?_
  intro p e s m args below meth c s₁ Bd hml0 hP hK
  obtain ⟨rfl, hZ, hh⟩ := hP
  have hx := Bd.exec
  have hby := Bd.bytes
  have hml : c.maxLocals = 1 := hml0
  have hown : s.vm.findClass "com/example/citeloom/citeloom/references/FieldTextAfterSeparatorsPinLaw" = some m.cls := findClass_of_methodNamed Bd.named
  have hnm := (name_of_methodNamed Bd.named Bd.method).1
  have X0 : Stand p l e ({ frames := 0, cells := 0, slots := 0, locals := 0 } : Room) s m #[(.int p0)] below meth c s₁ [] 0 0 := Stand.of_body Bd
  have e0 : s₁.heap = h0 := by rw [← hh, Bd.state]; rfl
  have N0 := Fr.nil n0
  have pre0 : ∀ t, Steps p.tables e below (s₁.setTop (mkF m 0 #[.val (.int p0)] [])) t → Steps p.tables e below (s₁.setTop (entryFrame m #[(.int p0)] 1)) t := fun t k => castTop (ef_26 m p0) k
  obtain ⟨fs, hr, hrun, hended, hW, hsame⟩ := X0.leave (v := some (.int (own_is p0))) (fun h => by rw [Bd.returns] at h; cases h)
  refine ⟨_, _, pre0 _ ?_, hrun, hended, _, _, rfl, ?_, ⟨_, rfl⟩, hW, hsame.mono (by decide) (by decide)⟩
  · show own_S p e below s₁ (mkF m 0 #[.val (.int p0)] []) _
    refine XS.iloadN X0.here hx rfl (hb hby d26_0) rfl ?_
    refine XS.bipush X0.here hx rfl (hb hby d26_1) ?_
    by_cases hc674 : p0 = (46 : Int32)
    · show own_S p e below s₁ (mkF m 3 #[.val (.int p0)] [.int 46, (.int p0)]) _
      refine XS.icmpYes X0.here hx rfl (pc0 := 3) (pc' := 36) rfl (hb hby d26_3) rfl (teq hc674).1 (by decide) (by decide) ?_
      show own_S p e below s₁ (mkF m 36 #[.val (.int p0)] []) _
      refine XS.iconst X0.here hx rfl (hb hby d26_36) ?_
      refine XS.goto X0.here hx rfl (pc0 := 37) (pc' := 41) rfl (hb hby d26_37) (by decide) (by decide) ?_
      show own_S p e below s₁ (mkF m 41 #[.val (.int p0)] [.int 1]) _
      have q : (own_is p0) = (1 : Int32) := by unfold own_is; rw [if_pos hc674]
      have hr := own_cast (P := fun z => ∀ (f : JFrame) (acts : List Action), f.method = m → f.locked = none → f.entered = [] → (doReturn e (s₁.setTop f) acts (some (.int z))).1 = s₁.setFrames fs) q hr
      exact retN X0 hx (t := .boolean) Bd.returns (by simp) (hb hby d26_41) hr
    · show own_S p e below s₁ (mkF m 3 #[.val (.int p0)] [.int 46, (.int p0)]) _
      refine XS.icmpNo X0.here hx rfl (hb hby d26_3) rfl (feq hc674).1 ?_
      show own_S p e below s₁ (mkF m 6 #[.val (.int p0)] []) _
      refine XS.iloadN X0.here hx rfl (hb hby d26_6) rfl ?_
      refine XS.bipush X0.here hx rfl (hb hby d26_7) ?_
      by_cases hc675 : p0 = (44 : Int32)
      · show own_S p e below s₁ (mkF m 9 #[.val (.int p0)] [.int 44, (.int p0)]) _
        refine XS.icmpYes X0.here hx rfl (pc0 := 9) (pc' := 36) rfl (hb hby d26_9) rfl (teq hc675).1 (by decide) (by decide) ?_
        show own_S p e below s₁ (mkF m 36 #[.val (.int p0)] []) _
        refine XS.iconst X0.here hx rfl (hb hby d26_36) ?_
        refine XS.goto X0.here hx rfl (pc0 := 37) (pc' := 41) rfl (hb hby d26_37) (by decide) (by decide) ?_
        show own_S p e below s₁ (mkF m 41 #[.val (.int p0)] [.int 1]) _
        have q : (own_is p0) = (1 : Int32) := by unfold own_is; rw [if_neg hc674, if_pos hc675]
        have hr := own_cast (P := fun z => ∀ (f : JFrame) (acts : List Action), f.method = m → f.locked = none → f.entered = [] → (doReturn e (s₁.setTop f) acts (some (.int z))).1 = s₁.setFrames fs) q hr
        exact retN X0 hx (t := .boolean) Bd.returns (by simp) (hb hby d26_41) hr
      · show own_S p e below s₁ (mkF m 9 #[.val (.int p0)] [.int 44, (.int p0)]) _
        refine XS.icmpNo X0.here hx rfl (hb hby d26_9) rfl (feq hc675).1 ?_
        show own_S p e below s₁ (mkF m 12 #[.val (.int p0)] []) _
        refine XS.iloadN X0.here hx rfl (hb hby d26_12) rfl ?_
        refine XS.bipush X0.here hx rfl (hb hby d26_13) ?_
        by_cases hc676 : p0 = (59 : Int32)
        · show own_S p e below s₁ (mkF m 15 #[.val (.int p0)] [.int 59, (.int p0)]) _
          refine XS.icmpYes X0.here hx rfl (pc0 := 15) (pc' := 36) rfl (hb hby d26_15) rfl (teq hc676).1 (by decide) (by decide) ?_
          show own_S p e below s₁ (mkF m 36 #[.val (.int p0)] []) _
          refine XS.iconst X0.here hx rfl (hb hby d26_36) ?_
          refine XS.goto X0.here hx rfl (pc0 := 37) (pc' := 41) rfl (hb hby d26_37) (by decide) (by decide) ?_
          show own_S p e below s₁ (mkF m 41 #[.val (.int p0)] [.int 1]) _
          have q : (own_is p0) = (1 : Int32) := by unfold own_is; rw [if_neg hc674, if_neg hc675, if_pos hc676]
          have hr := own_cast (P := fun z => ∀ (f : JFrame) (acts : List Action), f.method = m → f.locked = none → f.entered = [] → (doReturn e (s₁.setTop f) acts (some (.int z))).1 = s₁.setFrames fs) q hr
          exact retN X0 hx (t := .boolean) Bd.returns (by simp) (hb hby d26_41) hr
        · show own_S p e below s₁ (mkF m 15 #[.val (.int p0)] [.int 59, (.int p0)]) _
          refine XS.icmpNo X0.here hx rfl (hb hby d26_15) rfl (feq hc676).1 ?_
          show own_S p e below s₁ (mkF m 18 #[.val (.int p0)] []) _
          refine XS.iloadN X0.here hx rfl (hb hby d26_18) rfl ?_
          refine XS.bipush X0.here hx rfl (hb hby d26_19) ?_
          by_cases hc677 : p0 = (58 : Int32)
          · show own_S p e below s₁ (mkF m 21 #[.val (.int p0)] [.int 58, (.int p0)]) _
            refine XS.icmpYes X0.here hx rfl (pc0 := 21) (pc' := 36) rfl (hb hby d26_21) rfl (teq hc677).1 (by decide) (by decide) ?_
            show own_S p e below s₁ (mkF m 36 #[.val (.int p0)] []) _
            refine XS.iconst X0.here hx rfl (hb hby d26_36) ?_
            refine XS.goto X0.here hx rfl (pc0 := 37) (pc' := 41) rfl (hb hby d26_37) (by decide) (by decide) ?_
            show own_S p e below s₁ (mkF m 41 #[.val (.int p0)] [.int 1]) _
            have q : (own_is p0) = (1 : Int32) := by unfold own_is; rw [if_neg hc674, if_neg hc675, if_neg hc676, if_pos hc677]
            have hr := own_cast (P := fun z => ∀ (f : JFrame) (acts : List Action), f.method = m → f.locked = none → f.entered = [] → (doReturn e (s₁.setTop f) acts (some (.int z))).1 = s₁.setFrames fs) q hr
            exact retN X0 hx (t := .boolean) Bd.returns (by simp) (hb hby d26_41) hr
          · show own_S p e below s₁ (mkF m 21 #[.val (.int p0)] [.int 58, (.int p0)]) _
            refine XS.icmpNo X0.here hx rfl (hb hby d26_21) rfl (feq hc677).1 ?_
            show own_S p e below s₁ (mkF m 24 #[.val (.int p0)] []) _
            refine XS.iloadN X0.here hx rfl (hb hby d26_24) rfl ?_
            refine XS.bipush X0.here hx rfl (hb hby d26_25) ?_
            by_cases hc678 : p0 = (47 : Int32)
            · show own_S p e below s₁ (mkF m 27 #[.val (.int p0)] [.int 47, (.int p0)]) _
              refine XS.icmpYes X0.here hx rfl (pc0 := 27) (pc' := 36) rfl (hb hby d26_27) rfl (teq hc678).1 (by decide) (by decide) ?_
              show own_S p e below s₁ (mkF m 36 #[.val (.int p0)] []) _
              refine XS.iconst X0.here hx rfl (hb hby d26_36) ?_
              refine XS.goto X0.here hx rfl (pc0 := 37) (pc' := 41) rfl (hb hby d26_37) (by decide) (by decide) ?_
              show own_S p e below s₁ (mkF m 41 #[.val (.int p0)] [.int 1]) _
              have q : (own_is p0) = (1 : Int32) := by unfold own_is; rw [if_neg hc674, if_neg hc675, if_neg hc676, if_neg hc677, if_pos hc678]
              have hr := own_cast (P := fun z => ∀ (f : JFrame) (acts : List Action), f.method = m → f.locked = none → f.entered = [] → (doReturn e (s₁.setTop f) acts (some (.int z))).1 = s₁.setFrames fs) q hr
              exact retN X0 hx (t := .boolean) Bd.returns (by simp) (hb hby d26_41) hr
            · show own_S p e below s₁ (mkF m 27 #[.val (.int p0)] [.int 47, (.int p0)]) _
              refine XS.icmpNo X0.here hx rfl (hb hby d26_27) rfl (feq hc678).1 ?_
              show own_S p e below s₁ (mkF m 30 #[.val (.int p0)] []) _
              refine XS.iloadN X0.here hx rfl (hb hby d26_30) rfl ?_
              refine XS.bipush X0.here hx rfl (hb hby d26_31) ?_
              by_cases hc679 : p0 = (32 : Int32)
              · show own_S p e below s₁ (mkF m 33 #[.val (.int p0)] [.int 32, (.int p0)]) _
                refine XS.icmpNo X0.here hx rfl (hb hby d26_33) rfl (teq hc679).2 ?_
                show own_S p e below s₁ (mkF m 36 #[.val (.int p0)] []) _
                refine XS.iconst X0.here hx rfl (hb hby d26_36) ?_
                refine XS.goto X0.here hx rfl (pc0 := 37) (pc' := 41) rfl (hb hby d26_37) (by decide) (by decide) ?_
                show own_S p e below s₁ (mkF m 41 #[.val (.int p0)] [.int 1]) _
                have q : (own_is p0) = (1 : Int32) := by unfold own_is; rw [if_neg hc674, if_neg hc675, if_neg hc676, if_neg hc677, if_neg hc678, if_pos hc679]
                have hr := own_cast (P := fun z => ∀ (f : JFrame) (acts : List Action), f.method = m → f.locked = none → f.entered = [] → (doReturn e (s₁.setTop f) acts (some (.int z))).1 = s₁.setFrames fs) q hr
                exact retN X0 hx (t := .boolean) Bd.returns (by simp) (hb hby d26_41) hr
              · show own_S p e below s₁ (mkF m 33 #[.val (.int p0)] [.int 32, (.int p0)]) _
                refine XS.icmpYes X0.here hx rfl (pc0 := 33) (pc' := 40) rfl (hb hby d26_33) rfl (feq hc679).2 (by decide) (by decide) ?_
                show own_S p e below s₁ (mkF m 40 #[.val (.int p0)] []) _
                refine XS.iconst X0.here hx rfl (hb hby d26_40) ?_
                show own_S p e below s₁ (mkF m 41 #[.val (.int p0)] [.int 0]) _
                have q : (own_is p0) = (0 : Int32) := by unfold own_is; rw [if_neg hc674, if_neg hc675, if_neg hc676, if_neg hc677, if_neg hc678, if_neg hc679]
                have hr := own_cast (P := fun z => ∀ (f : JFrame) (acts : List Action), f.method = m → f.locked = none → f.entered = [] → (doReturn e (s₁.setTop f) acts (some (.int z))).1 = s₁.setFrames fs) q hr
                exact retN X0 hx (t := .boolean) Bd.returns (by simp) (hb hby d26_41) hr
  · show Q26 Z p0 h0 n0 _ s₁.heap _
    rw [e0]
    exact ⟨rfl, N0, rfl⟩
theorem ef_22 (m : MethodId) (p0 : Int32) : entryFrame m #[(.int p0)] 1 = mkF m 0 #[.val (.int p0)] [] := by first | (simp [entryFrame, mkF, argsToLocals, Value.category]; done) | rfl
theorem d22_0 : decode jdk_43_method_4_code 0 = .ok (.iload_n 0, 1) := by decide +kernel
theorem d22_1 : decode jdk_43_method_4_code 1 = .ok (.ifCond .lt 14, 3) := by decide +kernel
theorem d22_15 : decode jdk_43_method_4_code 15 = .ok (.iconst 0, 1) := by decide +kernel
theorem d22_4 : decode jdk_43_method_4_code 4 = .ok (.iload_n 0, 1) := by decide +kernel
theorem d22_5 : decode jdk_43_method_4_code 5 = .ok (.sipush 255, 3) := by decide +kernel
theorem d22_8 : decode jdk_43_method_4_code 8 = .ok (.if_icmp .gt 7, 3) := by decide +kernel
theorem d22_11 : decode jdk_43_method_4_code 11 = .ok (.iconst 1, 1) := by decide +kernel
theorem d22_12 : decode jdk_43_method_4_code 12 = .ok (.goto 4, 3) := by decide +kernel
def own_ce (p0 : Int32) : Int32 := (if p0 < (0 : Int32) then (0 : Int32) else (if (255 : Int32) < p0 then (0 : Int32) else (1 : Int32)))
def Q22 (Z : State) (p0 : Int32) (h0 : Heap) (n0 : Nat) (v : Option Value) (h : Heap) (L : List Loc) : Prop := v = some (.int (own_ce p0)) ∧ Fr n0 L ∧ h = h0
theorem d22_16 : decode jdk_43_method_4_code 16 = .ok (.ireturn, 1) := by decide +kernel
set_option maxRecDepth 65536 in
set_option maxHeartbeats 40000000 in
theorem rm22 (l : Launch) (Z : State) (ag : Array Value) (hw : ∀ d ∈ tables_1, d.before ag Z = true) (ws : List Jvm.Cond) (p0 : Int32) (h0 : Heap) (n0 : Nat) (Z0 : n0 ≤ h0.size) :
    MetFree l (⟨"java/lang/StringLatin1", "canEncode", "(I)Z"⟩ : MethodName) (head1 (Jvm.Cond.code (⟨"java/lang/StringLatin1", "canEncode", "(I)Z"⟩ : MethodName) jdk_43_method_4_code 1 (some .boolean) :: ws) ({ frames := 0, cells := 0, slots := 0, locals := 0 } : Room)) (fun a U => a = #[(.int p0)] ∧ Z.Warmed39 U.vm ∧ U.heap = h0) (fun _ _ _ _ _ => True) (fun _ U o U' => ∃ v L, o = .returned v ∧ Q22 Z p0 h0 n0 v U'.heap L ∧ FrameEnd U o U' L ({ frames := 0, cells := 0, slots := 0, locals := 0 } : Room).cells ({ frames := 0, cells := 0, slots := 0, locals := 0 } : Room).slots) := by
  refine MetFree.of_bodySF (plainFor_of_name pn_5) hisR ?_
  intro p e s m args below meth c s₁ Bd hml0 hP hK
  obtain ⟨rfl, hZ, hh⟩ := hP
  have hx := Bd.exec
  have hby := Bd.bytes
  have hml : c.maxLocals = 1 := hml0
  have hown : s.vm.findClass "java/lang/StringLatin1" = some m.cls := findClass_of_methodNamed Bd.named
  have hnm := (name_of_methodNamed Bd.named Bd.method).1
  have X0 : Stand p l e ({ frames := 0, cells := 0, slots := 0, locals := 0 } : Room) s m #[(.int p0)] below meth c s₁ [] 0 0 := Stand.of_body Bd
  have e0 : s₁.heap = h0 := by rw [← hh, Bd.state]; rfl
  have N0 := Fr.nil n0
  have pre0 : ∀ t, Steps p.tables e below (s₁.setTop (mkF m 0 #[.val (.int p0)] [])) t → Steps p.tables e below (s₁.setTop (entryFrame m #[(.int p0)] 1)) t := fun t k => castTop (ef_22 m p0) k
  obtain ⟨fs, hr, hrun, hended, hW, hsame⟩ := X0.leave (v := some (.int (own_ce p0))) (fun h => by rw [Bd.returns] at h; cases h)
  refine ⟨_, _, pre0 _ ?_, hrun, hended, _, _, rfl, ?_, ⟨_, rfl⟩, hW, hsame.mono (by decide) (by decide)⟩
  · show own_S p e below s₁ (mkF m 0 #[.val (.int p0)] []) _
    refine XS.iloadN X0.here hx rfl (hb hby d22_0) rfl ?_
    by_cases hc680 : p0 < (0 : Int32)
    · show own_S p e below s₁ (mkF m 1 #[.val (.int p0)] [(.int p0)]) _
      refine XS.ifYes X0.here hx rfl (pc0 := 1) (pc' := 15) rfl (hb hby d22_1) rfl ((if0 _ _).trans (tlt hc680).1) (by decide) (by decide) ?_
      show own_S p e below s₁ (mkF m 15 #[.val (.int p0)] []) _
      refine XS.iconst X0.here hx rfl (hb hby d22_15) ?_
      show own_S p e below s₁ (mkF m 16 #[.val (.int p0)] [.int 0]) _
      have q : (own_ce p0) = (0 : Int32) := by unfold own_ce; rw [if_pos hc680]
      have hr := own_cast (P := fun z => ∀ (f : JFrame) (acts : List Action), f.method = m → f.locked = none → f.entered = [] → (doReturn e (s₁.setTop f) acts (some (.int z))).1 = s₁.setFrames fs) q hr
      exact retN X0 hx (t := .boolean) Bd.returns (by simp) (hb hby d22_16) hr
    · show own_S p e below s₁ (mkF m 1 #[.val (.int p0)] [(.int p0)]) _
      refine XS.ifNo X0.here hx rfl (hb hby d22_1) rfl ((if0 _ _).trans (flt hc680).1) ?_
      show own_S p e below s₁ (mkF m 4 #[.val (.int p0)] []) _
      refine XS.iloadN X0.here hx rfl (hb hby d22_4) rfl ?_
      refine XS.sipush X0.here hx rfl (hb hby d22_5) ?_
      by_cases hc681 : (255 : Int32) < p0
      · show own_S p e below s₁ (mkF m 8 #[.val (.int p0)] [.int 255, (.int p0)]) _
        refine XS.icmpYes X0.here hx rfl (pc0 := 8) (pc' := 15) rfl (hb hby d22_8) rfl (tlt hc681).2.2.1 (by decide) (by decide) ?_
        show own_S p e below s₁ (mkF m 15 #[.val (.int p0)] []) _
        refine XS.iconst X0.here hx rfl (hb hby d22_15) ?_
        show own_S p e below s₁ (mkF m 16 #[.val (.int p0)] [.int 0]) _
        have q : (own_ce p0) = (0 : Int32) := by unfold own_ce; rw [if_neg hc680, if_pos hc681]
        have hr := own_cast (P := fun z => ∀ (f : JFrame) (acts : List Action), f.method = m → f.locked = none → f.entered = [] → (doReturn e (s₁.setTop f) acts (some (.int z))).1 = s₁.setFrames fs) q hr
        exact retN X0 hx (t := .boolean) Bd.returns (by simp) (hb hby d22_16) hr
      · show own_S p e below s₁ (mkF m 8 #[.val (.int p0)] [.int 255, (.int p0)]) _
        refine XS.icmpNo X0.here hx rfl (hb hby d22_8) rfl (flt hc681).2.2.1 ?_
        show own_S p e below s₁ (mkF m 11 #[.val (.int p0)] []) _
        refine XS.iconst X0.here hx rfl (hb hby d22_11) ?_
        refine XS.goto X0.here hx rfl (pc0 := 12) (pc' := 16) rfl (hb hby d22_12) (by decide) (by decide) ?_
        show own_S p e below s₁ (mkF m 16 #[.val (.int p0)] [.int 1]) _
        have q : (own_ce p0) = (1 : Int32) := by unfold own_ce; rw [if_neg hc680, if_neg hc681]
        have hr := own_cast (P := fun z => ∀ (f : JFrame) (acts : List Action), f.method = m → f.locked = none → f.entered = [] → (doReturn e (s₁.setTop f) acts (some (.int z))).1 = s₁.setFrames fs) q hr
        exact retN X0 hx (t := .boolean) Bd.returns (by simp) (hb hby d22_16) hr
  · show Q22 Z p0 h0 n0 _ s₁.heap _
    rw [e0]
    exact ⟨rfl, N0, rfl⟩
theorem ef_14 (m : MethodId) (p0 : Int32) (p1 : Int32) : entryFrame m #[(.int p0), (.int p1)] 2 = mkF m 0 #[.val (.int p0), .val (.int p1)] [] := by first | (simp [entryFrame, mkF, argsToLocals, Value.category]; done) | rfl
theorem d14_0 : decode jdk_29_method_65_code 0 = .ok (.iload_n 0, 1) := by decide +kernel
theorem d14_1 : decode jdk_29_method_65_code 1 = .ok (.iload_n 1, 1) := by decide +kernel
theorem d14_2 : decode jdk_29_method_65_code 2 = .ok (.if_icmp .lt 7, 3) := by decide +kernel
theorem d14_9 : decode jdk_29_method_65_code 9 = .ok (.iload_n 1, 1) := by decide +kernel
theorem d14_5 : decode jdk_29_method_65_code 5 = .ok (.iload_n 0, 1) := by decide +kernel
theorem d14_6 : decode jdk_29_method_65_code 6 = .ok (.goto 4, 3) := by decide +kernel
def own_max (p0 : Int32) (p1 : Int32) : Int32 := (if p0 < p1 then p1 else p0)
def Q14 (Z : State) (p0 : Int32) (p1 : Int32) (h0 : Heap) (n0 : Nat) (v : Option Value) (h : Heap) (L : List Loc) : Prop := v = some (.int (own_max p0 p1)) ∧ Fr n0 L ∧ h = h0
theorem d14_10 : decode jdk_29_method_65_code 10 = .ok (.ireturn, 1) := by decide +kernel
set_option maxRecDepth 65536 in
set_option maxHeartbeats 40000000 in
theorem rm14 (l : Launch) (Z : State) (ag : Array Value) (hw : ∀ d ∈ tables_1, d.before ag Z = true) (ws : List Jvm.Cond) (p0 : Int32) (p1 : Int32) (h0 : Heap) (n0 : Nat) (Z0 : n0 ≤ h0.size) :
    MetFree l (⟨"java/lang/Math", "max", "(II)I"⟩ : MethodName) (head1 (Jvm.Cond.code (⟨"java/lang/Math", "max", "(II)I"⟩ : MethodName) jdk_29_method_65_code 2 (some .int) :: ws) ({ frames := 0, cells := 0, slots := 0, locals := 0 } : Room)) (fun a U => a = #[(.int p0), (.int p1)] ∧ Z.Warmed39 U.vm ∧ U.heap = h0) (fun _ _ _ _ _ => True) (fun _ U o U' => ∃ v L, o = .returned v ∧ Q14 Z p0 p1 h0 n0 v U'.heap L ∧ FrameEnd U o U' L ({ frames := 0, cells := 0, slots := 0, locals := 0 } : Room).cells ({ frames := 0, cells := 0, slots := 0, locals := 0 } : Room).slots) := by
  refine MetFree.of_bodySF (Jvm.Free.JP.mathPlain rfl (by decide +kernel)) hisR ?_
  intro p e s m args below meth c s₁ Bd hml0 hP hK
  obtain ⟨rfl, hZ, hh⟩ := hP
  have hx := Bd.exec
  have hby := Bd.bytes
  have hml : c.maxLocals = 2 := hml0
  have hown : s.vm.findClass "java/lang/Math" = some m.cls := findClass_of_methodNamed Bd.named
  have hnm := (name_of_methodNamed Bd.named Bd.method).1
  have X0 : Stand p l e ({ frames := 0, cells := 0, slots := 0, locals := 0 } : Room) s m #[(.int p0), (.int p1)] below meth c s₁ [] 0 0 := Stand.of_body Bd
  have e0 : s₁.heap = h0 := by rw [← hh, Bd.state]; rfl
  have N0 := Fr.nil n0
  have pre0 : ∀ t, Steps p.tables e below (s₁.setTop (mkF m 0 #[.val (.int p0), .val (.int p1)] [])) t → Steps p.tables e below (s₁.setTop (entryFrame m #[(.int p0), (.int p1)] 2)) t := fun t k => castTop (ef_14 m p0 p1) k
  obtain ⟨fs, hr, hrun, hended, hW, hsame⟩ := X0.leave (v := some (.int (own_max p0 p1))) (fun h => by rw [Bd.returns] at h; cases h)
  refine ⟨_, _, pre0 _ ?_, hrun, hended, _, _, rfl, ?_, ⟨_, rfl⟩, hW, hsame.mono (by decide) (by decide)⟩
  · show own_S p e below s₁ (mkF m 0 #[.val (.int p0), .val (.int p1)] []) _
    refine XS.iloadN X0.here hx rfl (hb hby d14_0) rfl ?_
    refine XS.iloadN X0.here hx rfl (hb hby d14_1) rfl ?_
    by_cases hc682 : p0 < p1
    · show own_S p e below s₁ (mkF m 2 #[.val (.int p0), .val (.int p1)] [(.int p1), (.int p0)]) _
      refine XS.icmpYes X0.here hx rfl (pc0 := 2) (pc' := 9) rfl (hb hby d14_2) rfl (tlt hc682).1 (by decide) (by decide) ?_
      show own_S p e below s₁ (mkF m 9 #[.val (.int p0), .val (.int p1)] []) _
      refine XS.iloadN X0.here hx rfl (hb hby d14_9) rfl ?_
      show own_S p e below s₁ (mkF m 10 #[.val (.int p0), .val (.int p1)] [(.int p1)]) _
      have q : (own_max p0 p1) = p1 := by unfold own_max; rw [if_pos hc682]
      have hr := own_cast (P := fun z => ∀ (f : JFrame) (acts : List Action), f.method = m → f.locked = none → f.entered = [] → (doReturn e (s₁.setTop f) acts (some (.int z))).1 = s₁.setFrames fs) q hr
      exact retI X0 hx Bd.returns (hb hby d14_10) hr
    · show own_S p e below s₁ (mkF m 2 #[.val (.int p0), .val (.int p1)] [(.int p1), (.int p0)]) _
      refine XS.icmpNo X0.here hx rfl (hb hby d14_2) rfl (flt hc682).1 ?_
      show own_S p e below s₁ (mkF m 5 #[.val (.int p0), .val (.int p1)] []) _
      refine XS.iloadN X0.here hx rfl (hb hby d14_5) rfl ?_
      refine XS.goto X0.here hx rfl (pc0 := 6) (pc' := 10) rfl (hb hby d14_6) (by decide) (by decide) ?_
      show own_S p e below s₁ (mkF m 10 #[.val (.int p0), .val (.int p1)] [(.int p0)]) _
      have q : (own_max p0 p1) = p0 := by unfold own_max; rw [if_neg hc682]
      have hr := own_cast (P := fun z => ∀ (f : JFrame) (acts : List Action), f.method = m → f.locked = none → f.entered = [] → (doReturn e (s₁.setTop f) acts (some (.int z))).1 = s₁.setFrames fs) q hr
      exact retI X0 hx Bd.returns (hb hby d14_10) hr
  · show Q14 Z p0 p1 h0 n0 _ s₁.heap _
    rw [e0]
    exact ⟨rfl, N0, rfl⟩
theorem ef_23 (m : MethodId) (p0 : Int32) (p1 : Int32) : entryFrame m #[(.int p0), (.int p1)] 2 = mkF m 0 #[.val (.int p0), .val (.int p1)] [] := by first | (simp [entryFrame, mkF, argsToLocals, Value.category]; done) | rfl
theorem d23_0 : decode jdk_29_method_69_code 0 = .ok (.iload_n 0, 1) := by decide +kernel
theorem d23_1 : decode jdk_29_method_69_code 1 = .ok (.iload_n 1, 1) := by decide +kernel
theorem d23_2 : decode jdk_29_method_69_code 2 = .ok (.if_icmp .gt 7, 3) := by decide +kernel
theorem d23_9 : decode jdk_29_method_69_code 9 = .ok (.iload_n 1, 1) := by decide +kernel
theorem d23_5 : decode jdk_29_method_69_code 5 = .ok (.iload_n 0, 1) := by decide +kernel
theorem d23_6 : decode jdk_29_method_69_code 6 = .ok (.goto 4, 3) := by decide +kernel
def own_min (p0 : Int32) (p1 : Int32) : Int32 := (if p1 < p0 then p1 else p0)
def Q23 (Z : State) (p0 : Int32) (p1 : Int32) (h0 : Heap) (n0 : Nat) (v : Option Value) (h : Heap) (L : List Loc) : Prop := v = some (.int (own_min p0 p1)) ∧ Fr n0 L ∧ h = h0
theorem d23_10 : decode jdk_29_method_69_code 10 = .ok (.ireturn, 1) := by decide +kernel
set_option maxRecDepth 65536 in
set_option maxHeartbeats 40000000 in
theorem rm23 (l : Launch) (Z : State) (ag : Array Value) (hw : ∀ d ∈ tables_1, d.before ag Z = true) (ws : List Jvm.Cond) (p0 : Int32) (p1 : Int32) (h0 : Heap) (n0 : Nat) (Z0 : n0 ≤ h0.size) :
    MetFree l (⟨"java/lang/Math", "min", "(II)I"⟩ : MethodName) (head1 (Jvm.Cond.code (⟨"java/lang/Math", "min", "(II)I"⟩ : MethodName) jdk_29_method_69_code 2 (some .int) :: ws) ({ frames := 0, cells := 0, slots := 0, locals := 0 } : Room)) (fun a U => a = #[(.int p0), (.int p1)] ∧ Z.Warmed39 U.vm ∧ U.heap = h0) (fun _ _ _ _ _ => True) (fun _ U o U' => ∃ v L, o = .returned v ∧ Q23 Z p0 p1 h0 n0 v U'.heap L ∧ FrameEnd U o U' L ({ frames := 0, cells := 0, slots := 0, locals := 0 } : Room).cells ({ frames := 0, cells := 0, slots := 0, locals := 0 } : Room).slots) := by
  refine MetFree.of_bodySF (Jvm.Free.JP.mathPlain rfl (by decide +kernel)) hisR ?_
  intro p e s m args below meth c s₁ Bd hml0 hP hK
  obtain ⟨rfl, hZ, hh⟩ := hP
  have hx := Bd.exec
  have hby := Bd.bytes
  have hml : c.maxLocals = 2 := hml0
  have hown : s.vm.findClass "java/lang/Math" = some m.cls := findClass_of_methodNamed Bd.named
  have hnm := (name_of_methodNamed Bd.named Bd.method).1
  have X0 : Stand p l e ({ frames := 0, cells := 0, slots := 0, locals := 0 } : Room) s m #[(.int p0), (.int p1)] below meth c s₁ [] 0 0 := Stand.of_body Bd
  have e0 : s₁.heap = h0 := by rw [← hh, Bd.state]; rfl
  have N0 := Fr.nil n0
  have pre0 : ∀ t, Steps p.tables e below (s₁.setTop (mkF m 0 #[.val (.int p0), .val (.int p1)] [])) t → Steps p.tables e below (s₁.setTop (entryFrame m #[(.int p0), (.int p1)] 2)) t := fun t k => castTop (ef_23 m p0 p1) k
  obtain ⟨fs, hr, hrun, hended, hW, hsame⟩ := X0.leave (v := some (.int (own_min p0 p1))) (fun h => by rw [Bd.returns] at h; cases h)
  refine ⟨_, _, pre0 _ ?_, hrun, hended, _, _, rfl, ?_, ⟨_, rfl⟩, hW, hsame.mono (by decide) (by decide)⟩
  · show own_S p e below s₁ (mkF m 0 #[.val (.int p0), .val (.int p1)] []) _
    refine XS.iloadN X0.here hx rfl (hb hby d23_0) rfl ?_
    refine XS.iloadN X0.here hx rfl (hb hby d23_1) rfl ?_
    by_cases hc683 : p1 < p0
    · show own_S p e below s₁ (mkF m 2 #[.val (.int p0), .val (.int p1)] [(.int p1), (.int p0)]) _
      refine XS.icmpYes X0.here hx rfl (pc0 := 2) (pc' := 9) rfl (hb hby d23_2) rfl (tlt hc683).2.2.1 (by decide) (by decide) ?_
      show own_S p e below s₁ (mkF m 9 #[.val (.int p0), .val (.int p1)] []) _
      refine XS.iloadN X0.here hx rfl (hb hby d23_9) rfl ?_
      show own_S p e below s₁ (mkF m 10 #[.val (.int p0), .val (.int p1)] [(.int p1)]) _
      have q : (own_min p0 p1) = p1 := by unfold own_min; rw [if_pos hc683]
      have hr := own_cast (P := fun z => ∀ (f : JFrame) (acts : List Action), f.method = m → f.locked = none → f.entered = [] → (doReturn e (s₁.setTop f) acts (some (.int z))).1 = s₁.setFrames fs) q hr
      exact retI X0 hx Bd.returns (hb hby d23_10) hr
    · show own_S p e below s₁ (mkF m 2 #[.val (.int p0), .val (.int p1)] [(.int p1), (.int p0)]) _
      refine XS.icmpNo X0.here hx rfl (hb hby d23_2) rfl (flt hc683).2.2.1 ?_
      show own_S p e below s₁ (mkF m 5 #[.val (.int p0), .val (.int p1)] []) _
      refine XS.iloadN X0.here hx rfl (hb hby d23_5) rfl ?_
      refine XS.goto X0.here hx rfl (pc0 := 6) (pc' := 10) rfl (hb hby d23_6) (by decide) (by decide) ?_
      show own_S p e below s₁ (mkF m 10 #[.val (.int p0), .val (.int p1)] [(.int p0)]) _
      have q : (own_min p0 p1) = p0 := by unfold own_min; rw [if_neg hc683]
      have hr := own_cast (P := fun z => ∀ (f : JFrame) (acts : List Action), f.method = m → f.locked = none → f.entered = [] → (doReturn e (s₁.setTop f) acts (some (.int z))).1 = s₁.setFrames fs) q hr
      exact retI X0 hx Bd.returns (hb hby d23_10) hr
  · show Q23 Z p0 p1 h0 n0 _ s₁.heap _
    rw [e0]
    exact ⟨rfl, N0, rfl⟩
def own_ioc (p1 : Int32) : Int32 := (if (46 : Int32) = (p1.toInt8.toInt32) then (0 : Int32) else (if (44 : Int32) = (p1.toInt8.toInt32) then (1 : Int32) else (if (59 : Int32) = (p1.toInt8.toInt32) then (2 : Int32) else (if (58 : Int32) = (p1.toInt8.toInt32) then (3 : Int32) else (if (47 : Int32) = (p1.toInt8.toInt32) then (4 : Int32) else (if (32 : Int32) = (p1.toInt8.toInt32) then (5 : Int32) else (-1)))))))
def own_io (p1 : Int32) : Int32 := if (own_ce p1) = (0 : Int32) then (-1) else own_ioc p1
theorem ef_24_vv06 (m : MethodId) (a0 : Addr) (p1 : Int32) : entryFrame m #[(.ref a0), (.int p1), (.int (0 : Int32)), (.int (6 : Int32))] 6 = mkF m 0 #[.val (.ref a0), .val (.int p1), .val (.int 0), .val (.int 6), .unset, .unset] [] := by first | (simp [entryFrame, mkF, argsToLocals, Value.category]; done) | rfl
theorem d24_0 : decode jdk_43_method_23_code 0 = .ok (.iload_n 1, 1) := by decide +kernel
theorem d24_1 : decode jdk_43_method_23_code 1 = .ok (.i2b, 1) := by decide +kernel
theorem d24_2 : decode jdk_43_method_23_code 2 = .ok (.istore 4, 2) := by decide +kernel
abbrev own_loc45 (a0 : Addr) (p1 : Int32) : Array Slot := #[.val (.ref a0), .val (.int p1), .val (.int 0), .val (.int 6), .val (.int (p1.toInt8.toInt32)), .unset]
theorem d24_4 : decode jdk_43_method_23_code 4 = .ok (.iload_n 2, 1) := by decide +kernel
theorem d24_5 : decode jdk_43_method_23_code 5 = .ok (.istore 5, 2) := by decide +kernel
abbrev own_loc46 (a0 : Addr) (p1 : Int32) : Array Slot := #[.val (.ref a0), .val (.int p1), .val (.int 0), .val (.int 6), .val (.int (p1.toInt8.toInt32)), .val (.int 0)]
theorem d24_7 : decode jdk_43_method_23_code 7 = .ok (.iload 5, 2) := by decide +kernel
theorem d24_9 : decode jdk_43_method_23_code 9 = .ok (.iload_n 3, 1) := by decide +kernel
theorem d24_10 : decode jdk_43_method_23_code 10 = .ok (.if_icmp .ge 21, 3) := by decide +kernel
theorem d24_13 : decode jdk_43_method_23_code 13 = .ok (.aload_n 0, 1) := by decide +kernel
theorem d24_14 : decode jdk_43_method_23_code 14 = .ok (.iload 5, 2) := by decide +kernel
theorem d24_16 : decode jdk_43_method_23_code 16 = .ok (.baload, 1) := by decide +kernel
theorem d24_17 : decode jdk_43_method_23_code 17 = .ok (.iload 4, 2) := by decide +kernel
theorem d24_19 : decode jdk_43_method_23_code 19 = .ok (.if_icmp .ne 6, 3) := by decide +kernel
theorem d24_22 : decode jdk_43_method_23_code 22 = .ok (.iload 5, 2) := by decide +kernel
theorem d24_24 : decode jdk_43_method_23_code 24 = .ok (.ireturn, 1) := by decide +kernel
theorem d24_25 : decode jdk_43_method_23_code 25 = .ok (.iinc 5 1, 3) := by decide +kernel
abbrev own_loc47 (a0 : Addr) (p1 : Int32) : Array Slot := #[.val (.ref a0), .val (.int p1), .val (.int 0), .val (.int 6), .val (.int (p1.toInt8.toInt32)), .val (.int 1)]
theorem d24_28 : decode jdk_43_method_23_code 28 = .ok (.goto (-21), 3) := by decide +kernel
abbrev own_loc48 (a0 : Addr) (p1 : Int32) : Array Slot := #[.val (.ref a0), .val (.int p1), .val (.int 0), .val (.int 6), .val (.int (p1.toInt8.toInt32)), .val (.int 2)]
abbrev own_loc49 (a0 : Addr) (p1 : Int32) : Array Slot := #[.val (.ref a0), .val (.int p1), .val (.int 0), .val (.int 6), .val (.int (p1.toInt8.toInt32)), .val (.int 3)]
abbrev own_loc50 (a0 : Addr) (p1 : Int32) : Array Slot := #[.val (.ref a0), .val (.int p1), .val (.int 0), .val (.int 6), .val (.int (p1.toInt8.toInt32)), .val (.int 4)]
abbrev own_loc51 (a0 : Addr) (p1 : Int32) : Array Slot := #[.val (.ref a0), .val (.int p1), .val (.int 0), .val (.int 6), .val (.int (p1.toInt8.toInt32)), .val (.int 5)]
abbrev own_loc52 (a0 : Addr) (p1 : Int32) : Array Slot := #[.val (.ref a0), .val (.int p1), .val (.int 0), .val (.int 6), .val (.int (p1.toInt8.toInt32)), .val (.int 6)]
theorem d24_31 : decode jdk_43_method_23_code 31 = .ok (.iconst (-1), 1) := by decide +kernel
theorem d24_32 : decode jdk_43_method_23_code 32 = .ok (.ireturn, 1) := by decide +kernel
def Q24 (Z : State) (a0 : Addr) (p1 : Int32) (kb : ClassId) (h0 : Heap) (n0 : Nat) (v : Option Value) (h : Heap) (L : List Loc) : Prop := v = some (.int (own_ioc p1)) ∧ Fr n0 L ∧ h = h0
set_option maxRecDepth 65536 in
set_option maxHeartbeats 40000000 in
theorem rm24 (l : Launch) (Z : State) (ag : Array Value) (hw : ∀ d ∈ tables_1, d.before ag Z = true) (ws : List Jvm.Cond) (a0 : Addr) (p1 : Int32) (kb : ClassId) (h0 : Heap) (n0 : Nat) (Z0 : n0 ≤ h0.size) (V_a0 : Arv Z h0 a0 kb .byte (6 : Int32) [(.int (46 : Int32)), (.int (44 : Int32)), (.int (59 : Int32)), (.int (58 : Int32)), (.int (47 : Int32)), (.int (32 : Int32))] (.int (0 : Int32))) :
    MetFree l (⟨"java/lang/StringLatin1", "indexOfChar", "([BIII)I"⟩ : MethodName) (head1 (Jvm.Cond.code (⟨"java/lang/StringLatin1", "indexOfChar", "([BIII)I"⟩ : MethodName) jdk_43_method_23_code 6 (some .int) :: ws) ({ frames := 0, cells := 0, slots := 0, locals := 0 } : Room)) (fun a U => a = #[(.ref a0), (.int p1), (.int (0 : Int32)), (.int (6 : Int32))] ∧ Z.Warmed39 U.vm ∧ U.heap = h0) (fun _ _ _ _ _ => True) (fun _ U o U' => ∃ v L, o = .returned v ∧ Q24 Z a0 p1 kb h0 n0 v U'.heap L ∧ FrameEnd U o U' L ({ frames := 0, cells := 0, slots := 0, locals := 0 } : Room).cells ({ frames := 0, cells := 0, slots := 0, locals := 0 } : Room).slots) := by
  refine MetFree.of_bodySF (plainFor_of_name pn_5) hisR ?_
  intro p e s m args below meth c s₁ Bd hml0 hP hK
  obtain ⟨rfl, hZ, hh⟩ := hP
  have hx := Bd.exec
  have hby := Bd.bytes
  have hml : c.maxLocals = 6 := hml0
  have hown : s.vm.findClass "java/lang/StringLatin1" = some m.cls := findClass_of_methodNamed Bd.named
  have hnm := (name_of_methodNamed Bd.named Bd.method).1
  have X0 : Stand p l e ({ frames := 0, cells := 0, slots := 0, locals := 0 } : Room) s m #[(.ref a0), (.int p1), (.int (0 : Int32)), (.int (6 : Int32))] below meth c s₁ [] 0 0 := Stand.of_body Bd
  have e0 : s₁.heap = h0 := by rw [← hh, Bd.state]; rfl
  have N0 := Fr.nil n0
  have pre0 : ∀ t, Steps p.tables e below (s₁.setTop (mkF m 0 #[.val (.ref a0), .val (.int p1), .val (.int 0), .val (.int 6), .unset, .unset] [])) t → Steps p.tables e below (s₁.setTop (entryFrame m #[(.ref a0), (.int p1), (.int (0 : Int32)), (.int (6 : Int32))] 6)) t := fun t k => castTop (ef_24_vv06 m a0 p1) k
  obtain ⟨cl684, Ar684, q684, S684, M684, H684, G684⟩ := id V_a0
  have hin684 : ¬ ((0 : Int32) < 0 ∨ cl684.slots.size ≤ ((0 : Int32)).toNatClampNeg) := inb_of S684 ⟨(by decide : ¬ (0 : Int32) < 0), (by decide : (0 : Int32) < (6 : Int32))⟩
  have hat684 : cl684.slots[((0 : Int32)).toNatClampNeg]? = some (.int (46 : Int32)) := Has.at H684 hin684 rfl
  have ld684 := X0.baloadBytes hx (j := (0 : Int32)) (v := (.int (46 : Int32))) (by rw [e0]; exact Ar684.1) (State.isArrayOf_alike hZ.alike Ar684.2.1) Ar684.2.2 hin684 hat684 (g := (mkF m 16 (own_loc46 a0 p1) [.int 0, (.ref a0)])) rfl rfl (hb hby d24_16)
  have cp686 : ∀ target, own_S p e below s₁ (mkF m 19 (own_loc46 a0 p1) [(.int (p1.toInt8.toInt32)), .int 46]) target → own_S p e below s₁ (mkF m 0 #[.val (.ref a0), .val (.int p1), .val (.int 0), .val (.int 6), .unset, .unset] []) target := by
    intro target kt
    show own_S p e below s₁ (mkF m 0 #[.val (.ref a0), .val (.int p1), .val (.int 0), .val (.int 6), .unset, .unset] []) _
    refine XS.iloadN X0.here hx rfl (hb hby d24_0) rfl ?_
    refine XS.i2b X0.here hx rfl (hb hby d24_1) rfl ?_
    refine XS.istore X0.here hx rfl (hb hby d24_2) rfl (l' := (own_loc45 a0 p1)) rfl ?_
    show own_S p e below s₁ (mkF m 4 (own_loc45 a0 p1) []) _
    refine XS.iloadN X0.here hx rfl (hb hby d24_4) rfl ?_
    refine XS.istore X0.here hx rfl (hb hby d24_5) rfl (l' := (own_loc46 a0 p1)) rfl ?_
    show own_S p e below s₁ (mkF m 7 (own_loc46 a0 p1) []) _
    refine XS.iload X0.here hx rfl (hb hby d24_7) rfl ?_
    refine XS.iloadN X0.here hx rfl (hb hby d24_9) rfl ?_
    refine XS.icmpNo X0.here hx rfl (hb hby d24_10) rfl (tlt (by decide : (0 : Int32) < (6 : Int32))).2.1 ?_
    show own_S p e below s₁ (mkF m 13 (own_loc46 a0 p1) []) _
    refine XS.aloadN X0.here hx rfl (hb hby d24_13) rfl rfl ?_
    refine XS.iload X0.here hx rfl (hb hby d24_14) rfl ?_
    show own_S p e below s₁ (mkF m 16 (own_loc46 a0 p1) [.int 0, (.ref a0)]) _
    refine ld684 _ ?_
    show own_S p e below s₁ (mkF m 17 (own_loc46 a0 p1) [.int 46]) _
    refine XS.iload X0.here hx rfl (hb hby d24_17) rfl ?_
    exact kt
  by_cases hc685 : (46 : Int32) = (p1.toInt8.toInt32)
  · obtain ⟨fs, hr, hrun, hended, hW, hsame⟩ := X0.leave (v := some (.int (0 : Int32))) (fun h => by rw [Bd.returns] at h; cases h)
    refine ⟨_, _, pre0 _ ?_, hrun, hended, _, _, rfl, ?_, ⟨_, rfl⟩, hW, hsame.mono (by decide) (by decide)⟩
    · show own_S p e below s₁ (mkF m 0 #[.val (.ref a0), .val (.int p1), .val (.int 0), .val (.int 6), .unset, .unset] []) _
      refine cp686 _ ?_
      show own_S p e below s₁ (mkF m 19 (own_loc46 a0 p1) [(.int (p1.toInt8.toInt32)), .int 46]) _
      refine XS.icmpNo X0.here hx rfl (hb hby d24_19) rfl (teq hc685).2 ?_
      show own_S p e below s₁ (mkF m 22 (own_loc46 a0 p1) []) _
      refine XS.iload X0.here hx rfl (hb hby d24_22) rfl ?_
      show own_S p e below s₁ (mkF m 24 (own_loc46 a0 p1) [.int 0]) _
      exact retI X0 hx Bd.returns (hb hby d24_24) hr
    · show Q24 Z a0 p1 kb h0 n0 _ s₁.heap _
      rw [e0]
      exact ⟨congrArg (fun z => some (Value.int z)) (show _ = own_ioc p1 from by unfold own_ioc; rw [if_pos hc685]), N0, rfl⟩
  · obtain ⟨cl687, Ar687, q687, S687, M687, H687, G687⟩ := id V_a0
    have hin687 : ¬ ((1 : Int32) < 0 ∨ cl687.slots.size ≤ ((1 : Int32)).toNatClampNeg) := inb_of S687 ⟨(by decide : ¬ (1 : Int32) < 0), (by decide : (1 : Int32) < (6 : Int32))⟩
    have hat687 : cl687.slots[((1 : Int32)).toNatClampNeg]? = some (.int (44 : Int32)) := Has.at H687 hin687 rfl
    have ld687 := X0.baloadBytes hx (j := (1 : Int32)) (v := (.int (44 : Int32))) (by rw [e0]; exact Ar687.1) (State.isArrayOf_alike hZ.alike Ar687.2.1) Ar687.2.2 hin687 hat687 (g := (mkF m 16 (own_loc47 a0 p1) [.int 1, (.ref a0)])) rfl rfl (hb hby d24_16)
    have cp689 : ∀ target, own_S p e below s₁ (mkF m 19 (own_loc47 a0 p1) [(.int (p1.toInt8.toInt32)), .int 44]) target → own_S p e below s₁ (mkF m 0 #[.val (.ref a0), .val (.int p1), .val (.int 0), .val (.int 6), .unset, .unset] []) target := by
      intro target kt
      show own_S p e below s₁ (mkF m 0 #[.val (.ref a0), .val (.int p1), .val (.int 0), .val (.int 6), .unset, .unset] []) _
      refine cp686 _ ?_
      show own_S p e below s₁ (mkF m 19 (own_loc46 a0 p1) [(.int (p1.toInt8.toInt32)), .int 46]) _
      refine XS.icmpYes X0.here hx rfl (pc0 := 19) (pc' := 25) rfl (hb hby d24_19) rfl (feq hc685).2 (by decide) (by decide) ?_
      show own_S p e below s₁ (mkF m 25 (own_loc46 a0 p1) []) _
      refine XS.iinc X0.here hx rfl (hb hby d24_25) rfl (l' := (own_loc47 a0 p1)) rfl ?_
      show own_S p e below s₁ (mkF m 28 (own_loc47 a0 p1) []) _
      refine XS.goto X0.here hx rfl (pc0 := 28) (pc' := 7) rfl (hb hby d24_28) (by decide) (by decide) ?_
      show own_S p e below s₁ (mkF m 7 (own_loc47 a0 p1) []) _
      refine XS.iload X0.here hx rfl (hb hby d24_7) rfl ?_
      refine XS.iloadN X0.here hx rfl (hb hby d24_9) rfl ?_
      refine XS.icmpNo X0.here hx rfl (hb hby d24_10) rfl (tlt (by decide : (1 : Int32) < (6 : Int32))).2.1 ?_
      show own_S p e below s₁ (mkF m 13 (own_loc47 a0 p1) []) _
      refine XS.aloadN X0.here hx rfl (hb hby d24_13) rfl rfl ?_
      refine XS.iload X0.here hx rfl (hb hby d24_14) rfl ?_
      show own_S p e below s₁ (mkF m 16 (own_loc47 a0 p1) [.int 1, (.ref a0)]) _
      refine ld687 _ ?_
      show own_S p e below s₁ (mkF m 17 (own_loc47 a0 p1) [.int 44]) _
      refine XS.iload X0.here hx rfl (hb hby d24_17) rfl ?_
      exact kt
    by_cases hc688 : (44 : Int32) = (p1.toInt8.toInt32)
    · obtain ⟨fs, hr, hrun, hended, hW, hsame⟩ := X0.leave (v := some (.int (1 : Int32))) (fun h => by rw [Bd.returns] at h; cases h)
      refine ⟨_, _, pre0 _ ?_, hrun, hended, _, _, rfl, ?_, ⟨_, rfl⟩, hW, hsame.mono (by decide) (by decide)⟩
      · show own_S p e below s₁ (mkF m 0 #[.val (.ref a0), .val (.int p1), .val (.int 0), .val (.int 6), .unset, .unset] []) _
        refine cp689 _ ?_
        show own_S p e below s₁ (mkF m 19 (own_loc47 a0 p1) [(.int (p1.toInt8.toInt32)), .int 44]) _
        refine XS.icmpNo X0.here hx rfl (hb hby d24_19) rfl (teq hc688).2 ?_
        show own_S p e below s₁ (mkF m 22 (own_loc47 a0 p1) []) _
        refine XS.iload X0.here hx rfl (hb hby d24_22) rfl ?_
        show own_S p e below s₁ (mkF m 24 (own_loc47 a0 p1) [.int 1]) _
        exact retI X0 hx Bd.returns (hb hby d24_24) hr
      · show Q24 Z a0 p1 kb h0 n0 _ s₁.heap _
        rw [e0]
        exact ⟨congrArg (fun z => some (Value.int z)) (show _ = own_ioc p1 from by unfold own_ioc; rw [if_neg hc685, if_pos hc688]), N0, rfl⟩
    · obtain ⟨cl690, Ar690, q690, S690, M690, H690, G690⟩ := id V_a0
      have hin690 : ¬ ((2 : Int32) < 0 ∨ cl690.slots.size ≤ ((2 : Int32)).toNatClampNeg) := inb_of S690 ⟨(by decide : ¬ (2 : Int32) < 0), (by decide : (2 : Int32) < (6 : Int32))⟩
      have hat690 : cl690.slots[((2 : Int32)).toNatClampNeg]? = some (.int (59 : Int32)) := Has.at H690 hin690 rfl
      have ld690 := X0.baloadBytes hx (j := (2 : Int32)) (v := (.int (59 : Int32))) (by rw [e0]; exact Ar690.1) (State.isArrayOf_alike hZ.alike Ar690.2.1) Ar690.2.2 hin690 hat690 (g := (mkF m 16 (own_loc48 a0 p1) [.int 2, (.ref a0)])) rfl rfl (hb hby d24_16)
      have cp692 : ∀ target, own_S p e below s₁ (mkF m 19 (own_loc48 a0 p1) [(.int (p1.toInt8.toInt32)), .int 59]) target → own_S p e below s₁ (mkF m 0 #[.val (.ref a0), .val (.int p1), .val (.int 0), .val (.int 6), .unset, .unset] []) target := by
        intro target kt
        show own_S p e below s₁ (mkF m 0 #[.val (.ref a0), .val (.int p1), .val (.int 0), .val (.int 6), .unset, .unset] []) _
        refine cp689 _ ?_
        show own_S p e below s₁ (mkF m 19 (own_loc47 a0 p1) [(.int (p1.toInt8.toInt32)), .int 44]) _
        refine XS.icmpYes X0.here hx rfl (pc0 := 19) (pc' := 25) rfl (hb hby d24_19) rfl (feq hc688).2 (by decide) (by decide) ?_
        show own_S p e below s₁ (mkF m 25 (own_loc47 a0 p1) []) _
        refine XS.iinc X0.here hx rfl (hb hby d24_25) rfl (l' := (own_loc48 a0 p1)) rfl ?_
        show own_S p e below s₁ (mkF m 28 (own_loc48 a0 p1) []) _
        refine XS.goto X0.here hx rfl (pc0 := 28) (pc' := 7) rfl (hb hby d24_28) (by decide) (by decide) ?_
        show own_S p e below s₁ (mkF m 7 (own_loc48 a0 p1) []) _
        refine XS.iload X0.here hx rfl (hb hby d24_7) rfl ?_
        refine XS.iloadN X0.here hx rfl (hb hby d24_9) rfl ?_
        refine XS.icmpNo X0.here hx rfl (hb hby d24_10) rfl (tlt (by decide : (2 : Int32) < (6 : Int32))).2.1 ?_
        show own_S p e below s₁ (mkF m 13 (own_loc48 a0 p1) []) _
        refine XS.aloadN X0.here hx rfl (hb hby d24_13) rfl rfl ?_
        refine XS.iload X0.here hx rfl (hb hby d24_14) rfl ?_
        show own_S p e below s₁ (mkF m 16 (own_loc48 a0 p1) [.int 2, (.ref a0)]) _
        refine ld690 _ ?_
        show own_S p e below s₁ (mkF m 17 (own_loc48 a0 p1) [.int 59]) _
        refine XS.iload X0.here hx rfl (hb hby d24_17) rfl ?_
        exact kt
      by_cases hc691 : (59 : Int32) = (p1.toInt8.toInt32)
      · obtain ⟨fs, hr, hrun, hended, hW, hsame⟩ := X0.leave (v := some (.int (2 : Int32))) (fun h => by rw [Bd.returns] at h; cases h)
        refine ⟨_, _, pre0 _ ?_, hrun, hended, _, _, rfl, ?_, ⟨_, rfl⟩, hW, hsame.mono (by decide) (by decide)⟩
        · show own_S p e below s₁ (mkF m 0 #[.val (.ref a0), .val (.int p1), .val (.int 0), .val (.int 6), .unset, .unset] []) _
          refine cp692 _ ?_
          show own_S p e below s₁ (mkF m 19 (own_loc48 a0 p1) [(.int (p1.toInt8.toInt32)), .int 59]) _
          refine XS.icmpNo X0.here hx rfl (hb hby d24_19) rfl (teq hc691).2 ?_
          show own_S p e below s₁ (mkF m 22 (own_loc48 a0 p1) []) _
          refine XS.iload X0.here hx rfl (hb hby d24_22) rfl ?_
          show own_S p e below s₁ (mkF m 24 (own_loc48 a0 p1) [.int 2]) _
          exact retI X0 hx Bd.returns (hb hby d24_24) hr
        · show Q24 Z a0 p1 kb h0 n0 _ s₁.heap _
          rw [e0]
          exact ⟨congrArg (fun z => some (Value.int z)) (show _ = own_ioc p1 from by unfold own_ioc; rw [if_neg hc685, if_neg hc688, if_pos hc691]), N0, rfl⟩
      · obtain ⟨cl693, Ar693, q693, S693, M693, H693, G693⟩ := id V_a0
        have hin693 : ¬ ((3 : Int32) < 0 ∨ cl693.slots.size ≤ ((3 : Int32)).toNatClampNeg) := inb_of S693 ⟨(by decide : ¬ (3 : Int32) < 0), (by decide : (3 : Int32) < (6 : Int32))⟩
        have hat693 : cl693.slots[((3 : Int32)).toNatClampNeg]? = some (.int (58 : Int32)) := Has.at H693 hin693 rfl
        have ld693 := X0.baloadBytes hx (j := (3 : Int32)) (v := (.int (58 : Int32))) (by rw [e0]; exact Ar693.1) (State.isArrayOf_alike hZ.alike Ar693.2.1) Ar693.2.2 hin693 hat693 (g := (mkF m 16 (own_loc49 a0 p1) [.int 3, (.ref a0)])) rfl rfl (hb hby d24_16)
        have cp695 : ∀ target, own_S p e below s₁ (mkF m 19 (own_loc49 a0 p1) [(.int (p1.toInt8.toInt32)), .int 58]) target → own_S p e below s₁ (mkF m 0 #[.val (.ref a0), .val (.int p1), .val (.int 0), .val (.int 6), .unset, .unset] []) target := by
          intro target kt
          show own_S p e below s₁ (mkF m 0 #[.val (.ref a0), .val (.int p1), .val (.int 0), .val (.int 6), .unset, .unset] []) _
          refine cp692 _ ?_
          show own_S p e below s₁ (mkF m 19 (own_loc48 a0 p1) [(.int (p1.toInt8.toInt32)), .int 59]) _
          refine XS.icmpYes X0.here hx rfl (pc0 := 19) (pc' := 25) rfl (hb hby d24_19) rfl (feq hc691).2 (by decide) (by decide) ?_
          show own_S p e below s₁ (mkF m 25 (own_loc48 a0 p1) []) _
          refine XS.iinc X0.here hx rfl (hb hby d24_25) rfl (l' := (own_loc49 a0 p1)) rfl ?_
          show own_S p e below s₁ (mkF m 28 (own_loc49 a0 p1) []) _
          refine XS.goto X0.here hx rfl (pc0 := 28) (pc' := 7) rfl (hb hby d24_28) (by decide) (by decide) ?_
          show own_S p e below s₁ (mkF m 7 (own_loc49 a0 p1) []) _
          refine XS.iload X0.here hx rfl (hb hby d24_7) rfl ?_
          refine XS.iloadN X0.here hx rfl (hb hby d24_9) rfl ?_
          refine XS.icmpNo X0.here hx rfl (hb hby d24_10) rfl (tlt (by decide : (3 : Int32) < (6 : Int32))).2.1 ?_
          show own_S p e below s₁ (mkF m 13 (own_loc49 a0 p1) []) _
          refine XS.aloadN X0.here hx rfl (hb hby d24_13) rfl rfl ?_
          refine XS.iload X0.here hx rfl (hb hby d24_14) rfl ?_
          show own_S p e below s₁ (mkF m 16 (own_loc49 a0 p1) [.int 3, (.ref a0)]) _
          refine ld693 _ ?_
          show own_S p e below s₁ (mkF m 17 (own_loc49 a0 p1) [.int 58]) _
          refine XS.iload X0.here hx rfl (hb hby d24_17) rfl ?_
          exact kt
        by_cases hc694 : (58 : Int32) = (p1.toInt8.toInt32)
        · obtain ⟨fs, hr, hrun, hended, hW, hsame⟩ := X0.leave (v := some (.int (3 : Int32))) (fun h => by rw [Bd.returns] at h; cases h)
          refine ⟨_, _, pre0 _ ?_, hrun, hended, _, _, rfl, ?_, ⟨_, rfl⟩, hW, hsame.mono (by decide) (by decide)⟩
          · show own_S p e below s₁ (mkF m 0 #[.val (.ref a0), .val (.int p1), .val (.int 0), .val (.int 6), .unset, .unset] []) _
            refine cp695 _ ?_
            show own_S p e below s₁ (mkF m 19 (own_loc49 a0 p1) [(.int (p1.toInt8.toInt32)), .int 58]) _
            refine XS.icmpNo X0.here hx rfl (hb hby d24_19) rfl (teq hc694).2 ?_
            show own_S p e below s₁ (mkF m 22 (own_loc49 a0 p1) []) _
            refine XS.iload X0.here hx rfl (hb hby d24_22) rfl ?_
            show own_S p e below s₁ (mkF m 24 (own_loc49 a0 p1) [.int 3]) _
            exact retI X0 hx Bd.returns (hb hby d24_24) hr
          · show Q24 Z a0 p1 kb h0 n0 _ s₁.heap _
            rw [e0]
            exact ⟨congrArg (fun z => some (Value.int z)) (show _ = own_ioc p1 from by unfold own_ioc; rw [if_neg hc685, if_neg hc688, if_neg hc691, if_pos hc694]), N0, rfl⟩
        · obtain ⟨cl696, Ar696, q696, S696, M696, H696, G696⟩ := id V_a0
          have hin696 : ¬ ((4 : Int32) < 0 ∨ cl696.slots.size ≤ ((4 : Int32)).toNatClampNeg) := inb_of S696 ⟨(by decide : ¬ (4 : Int32) < 0), (by decide : (4 : Int32) < (6 : Int32))⟩
          have hat696 : cl696.slots[((4 : Int32)).toNatClampNeg]? = some (.int (47 : Int32)) := Has.at H696 hin696 rfl
          have ld696 := X0.baloadBytes hx (j := (4 : Int32)) (v := (.int (47 : Int32))) (by rw [e0]; exact Ar696.1) (State.isArrayOf_alike hZ.alike Ar696.2.1) Ar696.2.2 hin696 hat696 (g := (mkF m 16 (own_loc50 a0 p1) [.int 4, (.ref a0)])) rfl rfl (hb hby d24_16)
          have cp698 : ∀ target, own_S p e below s₁ (mkF m 19 (own_loc50 a0 p1) [(.int (p1.toInt8.toInt32)), .int 47]) target → own_S p e below s₁ (mkF m 0 #[.val (.ref a0), .val (.int p1), .val (.int 0), .val (.int 6), .unset, .unset] []) target := by
            intro target kt
            show own_S p e below s₁ (mkF m 0 #[.val (.ref a0), .val (.int p1), .val (.int 0), .val (.int 6), .unset, .unset] []) _
            refine cp695 _ ?_
            show own_S p e below s₁ (mkF m 19 (own_loc49 a0 p1) [(.int (p1.toInt8.toInt32)), .int 58]) _
            refine XS.icmpYes X0.here hx rfl (pc0 := 19) (pc' := 25) rfl (hb hby d24_19) rfl (feq hc694).2 (by decide) (by decide) ?_
            show own_S p e below s₁ (mkF m 25 (own_loc49 a0 p1) []) _
            refine XS.iinc X0.here hx rfl (hb hby d24_25) rfl (l' := (own_loc50 a0 p1)) rfl ?_
            show own_S p e below s₁ (mkF m 28 (own_loc50 a0 p1) []) _
            refine XS.goto X0.here hx rfl (pc0 := 28) (pc' := 7) rfl (hb hby d24_28) (by decide) (by decide) ?_
            show own_S p e below s₁ (mkF m 7 (own_loc50 a0 p1) []) _
            refine XS.iload X0.here hx rfl (hb hby d24_7) rfl ?_
            refine XS.iloadN X0.here hx rfl (hb hby d24_9) rfl ?_
            refine XS.icmpNo X0.here hx rfl (hb hby d24_10) rfl (tlt (by decide : (4 : Int32) < (6 : Int32))).2.1 ?_
            show own_S p e below s₁ (mkF m 13 (own_loc50 a0 p1) []) _
            refine XS.aloadN X0.here hx rfl (hb hby d24_13) rfl rfl ?_
            refine XS.iload X0.here hx rfl (hb hby d24_14) rfl ?_
            show own_S p e below s₁ (mkF m 16 (own_loc50 a0 p1) [.int 4, (.ref a0)]) _
            refine ld696 _ ?_
            show own_S p e below s₁ (mkF m 17 (own_loc50 a0 p1) [.int 47]) _
            refine XS.iload X0.here hx rfl (hb hby d24_17) rfl ?_
            exact kt
          by_cases hc697 : (47 : Int32) = (p1.toInt8.toInt32)
          · obtain ⟨fs, hr, hrun, hended, hW, hsame⟩ := X0.leave (v := some (.int (4 : Int32))) (fun h => by rw [Bd.returns] at h; cases h)
            refine ⟨_, _, pre0 _ ?_, hrun, hended, _, _, rfl, ?_, ⟨_, rfl⟩, hW, hsame.mono (by decide) (by decide)⟩
            · show own_S p e below s₁ (mkF m 0 #[.val (.ref a0), .val (.int p1), .val (.int 0), .val (.int 6), .unset, .unset] []) _
              refine cp698 _ ?_
              show own_S p e below s₁ (mkF m 19 (own_loc50 a0 p1) [(.int (p1.toInt8.toInt32)), .int 47]) _
              refine XS.icmpNo X0.here hx rfl (hb hby d24_19) rfl (teq hc697).2 ?_
              show own_S p e below s₁ (mkF m 22 (own_loc50 a0 p1) []) _
              refine XS.iload X0.here hx rfl (hb hby d24_22) rfl ?_
              show own_S p e below s₁ (mkF m 24 (own_loc50 a0 p1) [.int 4]) _
              exact retI X0 hx Bd.returns (hb hby d24_24) hr
            · show Q24 Z a0 p1 kb h0 n0 _ s₁.heap _
              rw [e0]
              exact ⟨congrArg (fun z => some (Value.int z)) (show _ = own_ioc p1 from by unfold own_ioc; rw [if_neg hc685, if_neg hc688, if_neg hc691, if_neg hc694, if_pos hc697]), N0, rfl⟩
          · obtain ⟨cl699, Ar699, q699, S699, M699, H699, G699⟩ := id V_a0
            have hin699 : ¬ ((5 : Int32) < 0 ∨ cl699.slots.size ≤ ((5 : Int32)).toNatClampNeg) := inb_of S699 ⟨(by decide : ¬ (5 : Int32) < 0), (by decide : (5 : Int32) < (6 : Int32))⟩
            have hat699 : cl699.slots[((5 : Int32)).toNatClampNeg]? = some (.int (32 : Int32)) := Has.at H699 hin699 rfl
            have ld699 := X0.baloadBytes hx (j := (5 : Int32)) (v := (.int (32 : Int32))) (by rw [e0]; exact Ar699.1) (State.isArrayOf_alike hZ.alike Ar699.2.1) Ar699.2.2 hin699 hat699 (g := (mkF m 16 (own_loc51 a0 p1) [.int 5, (.ref a0)])) rfl rfl (hb hby d24_16)
            have cp701 : ∀ target, own_S p e below s₁ (mkF m 19 (own_loc51 a0 p1) [(.int (p1.toInt8.toInt32)), .int 32]) target → own_S p e below s₁ (mkF m 0 #[.val (.ref a0), .val (.int p1), .val (.int 0), .val (.int 6), .unset, .unset] []) target := by
              intro target kt
              show own_S p e below s₁ (mkF m 0 #[.val (.ref a0), .val (.int p1), .val (.int 0), .val (.int 6), .unset, .unset] []) _
              refine cp698 _ ?_
              show own_S p e below s₁ (mkF m 19 (own_loc50 a0 p1) [(.int (p1.toInt8.toInt32)), .int 47]) _
              refine XS.icmpYes X0.here hx rfl (pc0 := 19) (pc' := 25) rfl (hb hby d24_19) rfl (feq hc697).2 (by decide) (by decide) ?_
              show own_S p e below s₁ (mkF m 25 (own_loc50 a0 p1) []) _
              refine XS.iinc X0.here hx rfl (hb hby d24_25) rfl (l' := (own_loc51 a0 p1)) rfl ?_
              show own_S p e below s₁ (mkF m 28 (own_loc51 a0 p1) []) _
              refine XS.goto X0.here hx rfl (pc0 := 28) (pc' := 7) rfl (hb hby d24_28) (by decide) (by decide) ?_
              show own_S p e below s₁ (mkF m 7 (own_loc51 a0 p1) []) _
              refine XS.iload X0.here hx rfl (hb hby d24_7) rfl ?_
              refine XS.iloadN X0.here hx rfl (hb hby d24_9) rfl ?_
              refine XS.icmpNo X0.here hx rfl (hb hby d24_10) rfl (tlt (by decide : (5 : Int32) < (6 : Int32))).2.1 ?_
              show own_S p e below s₁ (mkF m 13 (own_loc51 a0 p1) []) _
              refine XS.aloadN X0.here hx rfl (hb hby d24_13) rfl rfl ?_
              refine XS.iload X0.here hx rfl (hb hby d24_14) rfl ?_
              show own_S p e below s₁ (mkF m 16 (own_loc51 a0 p1) [.int 5, (.ref a0)]) _
              refine ld699 _ ?_
              show own_S p e below s₁ (mkF m 17 (own_loc51 a0 p1) [.int 32]) _
              refine XS.iload X0.here hx rfl (hb hby d24_17) rfl ?_
              exact kt
            by_cases hc700 : (32 : Int32) = (p1.toInt8.toInt32)
            · obtain ⟨fs, hr, hrun, hended, hW, hsame⟩ := X0.leave (v := some (.int (5 : Int32))) (fun h => by rw [Bd.returns] at h; cases h)
              refine ⟨_, _, pre0 _ ?_, hrun, hended, _, _, rfl, ?_, ⟨_, rfl⟩, hW, hsame.mono (by decide) (by decide)⟩
              · show own_S p e below s₁ (mkF m 0 #[.val (.ref a0), .val (.int p1), .val (.int 0), .val (.int 6), .unset, .unset] []) _
                refine cp701 _ ?_
                show own_S p e below s₁ (mkF m 19 (own_loc51 a0 p1) [(.int (p1.toInt8.toInt32)), .int 32]) _
                refine XS.icmpNo X0.here hx rfl (hb hby d24_19) rfl (teq hc700).2 ?_
                show own_S p e below s₁ (mkF m 22 (own_loc51 a0 p1) []) _
                refine XS.iload X0.here hx rfl (hb hby d24_22) rfl ?_
                show own_S p e below s₁ (mkF m 24 (own_loc51 a0 p1) [.int 5]) _
                exact retI X0 hx Bd.returns (hb hby d24_24) hr
              · show Q24 Z a0 p1 kb h0 n0 _ s₁.heap _
                rw [e0]
                exact ⟨congrArg (fun z => some (Value.int z)) (show _ = own_ioc p1 from by unfold own_ioc; rw [if_neg hc685, if_neg hc688, if_neg hc691, if_neg hc694, if_neg hc697, if_pos hc700]), N0, rfl⟩
            · obtain ⟨fs, hr, hrun, hended, hW, hsame⟩ := X0.leave (v := some (.int (-1 : Int32))) (fun h => by rw [Bd.returns] at h; cases h)
              refine ⟨_, _, pre0 _ ?_, hrun, hended, _, _, rfl, ?_, ⟨_, rfl⟩, hW, hsame.mono (by decide) (by decide)⟩
              · show own_S p e below s₁ (mkF m 0 #[.val (.ref a0), .val (.int p1), .val (.int 0), .val (.int 6), .unset, .unset] []) _
                refine cp701 _ ?_
                show own_S p e below s₁ (mkF m 19 (own_loc51 a0 p1) [(.int (p1.toInt8.toInt32)), .int 32]) _
                refine XS.icmpYes X0.here hx rfl (pc0 := 19) (pc' := 25) rfl (hb hby d24_19) rfl (feq hc700).2 (by decide) (by decide) ?_
                show own_S p e below s₁ (mkF m 25 (own_loc51 a0 p1) []) _
                refine XS.iinc X0.here hx rfl (hb hby d24_25) rfl (l' := (own_loc52 a0 p1)) rfl ?_
                show own_S p e below s₁ (mkF m 28 (own_loc52 a0 p1) []) _
                refine XS.goto X0.here hx rfl (pc0 := 28) (pc' := 7) rfl (hb hby d24_28) (by decide) (by decide) ?_
                show own_S p e below s₁ (mkF m 7 (own_loc52 a0 p1) []) _
                refine XS.iload X0.here hx rfl (hb hby d24_7) rfl ?_
                refine XS.iloadN X0.here hx rfl (hb hby d24_9) rfl ?_
                refine XS.icmpYes X0.here hx rfl (pc0 := 10) (pc' := 31) rfl (hb hby d24_10) rfl (flt (by decide : ¬ ((6 : Int32) < (6 : Int32)))).2.1 (by decide) (by decide) ?_
                show own_S p e below s₁ (mkF m 31 (own_loc52 a0 p1) []) _
                refine XS.iconst X0.here hx rfl (hb hby d24_31) ?_
                show own_S p e below s₁ (mkF m 32 (own_loc52 a0 p1) [.int (-1)]) _
                exact retI X0 hx Bd.returns (hb hby d24_32) hr
              · show Q24 Z a0 p1 kb h0 n0 _ s₁.heap _
                rw [e0]
                exact ⟨congrArg (fun z => some (Value.int z)) (show _ = own_ioc p1 from by unfold own_ioc; rw [if_neg hc685, if_neg hc688, if_neg hc691, if_neg hc694, if_neg hc697, if_neg hc700]), N0, rfl⟩
theorem ef_21_vv06 (m : MethodId) (a0 : Addr) (p1 : Int32) : entryFrame m #[(.ref a0), (.int p1), (.int (0 : Int32)), (.int (6 : Int32))] 4 = mkF m 0 #[.val (.ref a0), .val (.int p1), .val (.int 0), .val (.int 6)] [] := by first | (simp [entryFrame, mkF, argsToLocals, Value.category]; done) | rfl
theorem d21_0 : decode jdk_43_method_22_code 0 = .ok (.iload_n 1, 1) := by decide +kernel
theorem pd_7 : parseMethodDescriptor "(I)Z" = some ⟨[.int], some .boolean⟩ := by decide +kernel
theorem d21_1 : decode jdk_43_method_22_code 1 = .ok (.invokestatic 88, 3) := by decide +kernel
theorem d21_4 : decode jdk_43_method_22_code 4 = .ok (.ifCond .ne 5, 3) := by decide +kernel
theorem d21_7 : decode jdk_43_method_22_code 7 = .ok (.iconst (-1), 1) := by decide +kernel
theorem d21_8 : decode jdk_43_method_22_code 8 = .ok (.ireturn, 1) := by decide +kernel
theorem d21_9 : decode jdk_43_method_22_code 9 = .ok (.iload_n 2, 1) := by decide +kernel
theorem d21_10 : decode jdk_43_method_22_code 10 = .ok (.iconst 0, 1) := by decide +kernel
theorem pd_11 : parseMethodDescriptor "(II)I" = some ⟨[.int, .int], some .int⟩ := by decide +kernel
theorem d21_11 : decode jdk_43_method_22_code 11 = .ok (.invokestatic 92, 3) := by decide +kernel
theorem d21_14 : decode jdk_43_method_22_code 14 = .ok (.istore_n 2, 1) := by decide +kernel
theorem d21_15 : decode jdk_43_method_22_code 15 = .ok (.iload_n 3, 1) := by decide +kernel
theorem d21_16 : decode jdk_43_method_22_code 16 = .ok (.aload_n 0, 1) := by decide +kernel
theorem d21_17 : decode jdk_43_method_22_code 17 = .ok (.arraylength, 1) := by decide +kernel
theorem d21_18 : decode jdk_43_method_22_code 18 = .ok (.invokestatic 38, 3) := by decide +kernel
theorem d21_21 : decode jdk_43_method_22_code 21 = .ok (.istore_n 3, 1) := by decide +kernel
theorem d21_22 : decode jdk_43_method_22_code 22 = .ok (.iload_n 2, 1) := by decide +kernel
theorem d21_23 : decode jdk_43_method_22_code 23 = .ok (.iload_n 3, 1) := by decide +kernel
theorem d21_24 : decode jdk_43_method_22_code 24 = .ok (.if_icmp .lt 5, 3) := by decide +kernel
theorem d21_29 : decode jdk_43_method_22_code 29 = .ok (.aload_n 0, 1) := by decide +kernel
theorem d21_30 : decode jdk_43_method_22_code 30 = .ok (.iload_n 1, 1) := by decide +kernel
theorem d21_31 : decode jdk_43_method_22_code 31 = .ok (.iload_n 2, 1) := by decide +kernel
theorem d21_32 : decode jdk_43_method_22_code 32 = .ok (.iload_n 3, 1) := by decide +kernel
theorem pd_21 : parseMethodDescriptor "([BIII)I" = some ⟨[(.array .byte), .int, .int, .int], some .int⟩ := by decide +kernel
theorem d21_33 : decode jdk_43_method_22_code 33 = .ok (.invokestatic 95, 3) := by decide +kernel
theorem d21_36 : decode jdk_43_method_22_code 36 = .ok (.ireturn, 1) := by decide +kernel
def Q21 (Z : State) (a0 : Addr) (p1 : Int32) (kb : ClassId) (h0 : Heap) (n0 : Nat) (v : Option Value) (h : Heap) (L : List Loc) : Prop := v = some (.int (own_io p1)) ∧ Fr n0 L ∧ h = h0
set_option maxRecDepth 65536 in
set_option maxHeartbeats 40000000 in
theorem rm21 (l : Launch) (Z : State) (ag : Array Value) (hw : ∀ d ∈ tables_1, d.before ag Z = true) (ws : List Jvm.Cond) (a0 : Addr) (p1 : Int32) (kb : ClassId) (h0 : Heap) (n0 : Nat) (Z0 : n0 ≤ h0.size) (V_a0 : Arv Z h0 a0 kb .byte (6 : Int32) [(.int (46 : Int32)), (.int (44 : Int32)), (.int (59 : Int32)), (.int (58 : Int32)), (.int (47 : Int32)), (.int (32 : Int32))] (.int (0 : Int32))) :
    MetFree l (⟨"java/lang/StringLatin1", "indexOf", "([BIII)I"⟩ : MethodName) (head1 (Jvm.Cond.code (⟨"java/lang/StringLatin1", "indexOf", "([BIII)I"⟩ : MethodName) jdk_43_method_22_code 4 (some .int) :: ws) ({ frames := 1, cells := 0, slots := 0, locals := 17 } : Room)) (fun a U => a = #[(.ref a0), (.int p1), (.int (0 : Int32)), (.int (6 : Int32))] ∧ Z.Warmed39 U.vm ∧ U.heap = h0) (fun _ _ _ _ _ => True) (fun _ U o U' => ∃ v L, o = .returned v ∧ Q21 Z a0 p1 kb h0 n0 v U'.heap L ∧ FrameEnd U o U' L ({ frames := 1, cells := 0, slots := 0, locals := 17 } : Room).cells ({ frames := 1, cells := 0, slots := 0, locals := 17 } : Room).slots) := by
  refine MetFree.of_bodySF (plainFor_of_name pn_5) hisR ?_
  intro p e s m args below meth c s₁ Bd hml0 hP hK
  obtain ⟨rfl, hZ, hh⟩ := hP
  have hx := Bd.exec
  have hby := Bd.bytes
  have hml : c.maxLocals = 4 := hml0
  have hown : s.vm.findClass "java/lang/StringLatin1" = some m.cls := findClass_of_methodNamed Bd.named
  have hnm := (name_of_methodNamed Bd.named Bd.method).1
  have X0 : Stand p l e ({ frames := 1, cells := 0, slots := 0, locals := 17 } : Room) s m #[(.ref a0), (.int p1), (.int (0 : Int32)), (.int (6 : Int32))] below meth c s₁ [] 0 0 := Stand.of_body Bd
  have e0 : s₁.heap = h0 := by rw [← hh, Bd.state]; rfl
  have N0 := Fr.nil n0
  have pre0 : ∀ t, Steps p.tables e below (s₁.setTop (mkF m 0 #[.val (.ref a0), .val (.int p1), .val (.int 0), .val (.int 6)] [])) t → Steps p.tables e below (s₁.setTop (entryFrame m #[(.ref a0), (.int p1), (.int (0 : Int32)), (.int (6 : Int32))] 4)) t := fun t k => castTop (ef_21_vv06 m a0 p1) k
  obtain ⟨_, _, ⟨T702, L702, k702, n702⟩, -, X702, ⟨Lc702, hQ702, l702, y702, z702⟩, st702⟩ := Jvm.LawKit.callS X0 hx (y := (⟨"java/lang/StringLatin1", "canEncode", "(I)Z"⟩ : MethodName)) hown (mvT hZ (own_wk hw 101 rfl)) (mvT hZ (own_wk hw 102 rfl)) (mvT hZ (own_wk hw 27 rfl)) (mvT hZ (own_wk hw 103 rfl)) (by decide) (backOf (W := 0) (rm22 l Z ag hw [] p1  h0 n0 Z0 ) hZ (own_wk hw 103 rfl) (own_wk hw 27 rfl) (by decide) (by decide)) (g := (mkF m 1 #[.val (.ref a0), .val (.int p1), .val (.int 0), .val (.int 6)] [(.int p1)])) rfl (by rw [hml]; rfl) (argsL := [(.int p1)]) (rest := []) (lenOf pd_7 rfl) rfl (by show 2 * 0 + _ ≤ _; exact Nat.le_of_eq rfl) (hb hby d21_1) (fun _ _ => ⟨rfl, e0, (by decide : 0 + 0 ≤ _), (by decide : 0 + 0 ≤ _)⟩)
  dsimp only [Pt.U, Pt.locs, Pt.cells, Pt.slots] at X702 l702 y702 z702 st702 hQ702
  subst l702 y702 z702
  obtain ⟨rfl, N702q, e702⟩ := hQ702
  have N702 := Fr.app N0 N702q
  by_cases hc703 : (own_ce p1) = (0 : Int32)
  · obtain ⟨fs, hr, hrun, hended, hW, hsame⟩ := X702.leave (v := some (.int (-1 : Int32))) (fun h => by rw [Bd.returns] at h; cases h)
    refine ⟨_, _, pre0 _ ?_, hrun, hended, _, _, rfl, ?_, ⟨_, rfl⟩, hW, hsame.mono (by decide) (by decide)⟩
    · show own_S p e below s₁ (mkF m 0 #[.val (.ref a0), .val (.int p1), .val (.int 0), .val (.int 6)] []) _
      refine XS.iloadN X0.here hx rfl (hb hby d21_0) rfl ?_
      show own_S p e below s₁ (mkF m 1 #[.val (.ref a0), .val (.int p1), .val (.int 0), .val (.int 6)] [(.int p1)]) _
      refine st702 _ ?_
      show own_S p e below T702 (mkF m 4 #[.val (.ref a0), .val (.int p1), .val (.int 0), .val (.int 6)] [(.int (own_ce p1))]) _
      refine XS.ifNo X702.here hx rfl (hb hby d21_4) rfl ((if0 _ _).trans (teq hc703).2) ?_
      show own_S p e below T702 (mkF m 7 #[.val (.ref a0), .val (.int p1), .val (.int 0), .val (.int 6)] []) _
      refine XS.iconst X702.here hx rfl (hb hby d21_7) ?_
      show own_S p e below T702 (mkF m 8 #[.val (.ref a0), .val (.int p1), .val (.int 0), .val (.int 6)] [.int (-1)]) _
      exact retI X702 hx Bd.returns (hb hby d21_8) hr
    · show Q21 Z a0 p1 kb h0 n0 _ T702.heap _
      rw [e702]
      exact ⟨congrArg (fun z => some (Value.int z)) (show _ = own_io p1 from by unfold own_io; rw [if_pos hc703]), N702, rfl⟩
  · obtain ⟨_, _, ⟨T704, L704, k704, n704⟩, -, X704, ⟨Lc704, hQ704, l704, y704, z704⟩, st704⟩ := Jvm.LawKit.callS X702 hx (y := (⟨"java/lang/Math", "max", "(II)I"⟩ : MethodName)) hown (mvT hZ (own_wk hw 104 rfl)) (mvT hZ (own_wk hw 68 rfl)) (mvT hZ (own_wk hw 69 rfl)) (mvT hZ (own_wk hw 70 rfl)) (by decide) (backOf (W := 0) (rm14 l Z ag hw [] (0 : Int32) (0 : Int32)  h0 n0 Z0 ) hZ (own_wk hw 70 rfl) (own_wk hw 69 rfl) (by decide) (by decide)) (g := (mkF m 11 #[.val (.ref a0), .val (.int p1), .val (.int 0), .val (.int 6)] [.int 0, .int 0])) rfl (by rw [hml]; rfl) (argsL := [(.int (0 : Int32)), (.int (0 : Int32))]) (rest := []) (lenOf pd_11 rfl) rfl (by show 2 * 0 + _ ≤ _; exact Nat.le_of_eq rfl) (hb hby d21_11) (fun _ _ => ⟨rfl, e702, (by decide : 0 + 0 ≤ _), (by decide : 0 + 0 ≤ _)⟩)
    dsimp only [Pt.U, Pt.locs, Pt.cells, Pt.slots] at X704 l704 y704 z704 st704 hQ704
    subst l704 y704 z704
    obtain ⟨rfl, N704q, e704⟩ := hQ704
    have N704 := Fr.app N702 N704q
    obtain ⟨cl705, Ar705, -, S705, M705, -, -⟩ := id V_a0
    have ld705 := X704.arraylength hx (by rw [e704]; exact Ar705.1) (State.isArrayOf_alike hZ.alike Ar705.2.1) (g := (mkF m 17 #[.val (.ref a0), .val (.int p1), .val (.int 0), .val (.int 6)] [(.ref a0), .int 6])) rfl rfl (hb hby d21_17)
    obtain ⟨_, _, ⟨T706, L706, k706, n706⟩, -, X706, ⟨Lc706, hQ706, l706, y706, z706⟩, st706⟩ := Jvm.LawKit.callS X704 hx (y := (⟨"java/lang/Math", "min", "(II)I"⟩ : MethodName)) hown (mvT hZ (own_wk hw 105 rfl)) (mvT hZ (own_wk hw 106 rfl)) (mvT hZ (own_wk hw 69 rfl)) (mvT hZ (own_wk hw 107 rfl)) (by decide) (backOf (W := 0) (rm23 l Z ag hw [] (6 : Int32) (6 : Int32)  h0 n0 Z0 ) hZ (own_wk hw 107 rfl) (own_wk hw 69 rfl) (by decide) (by decide)) (g := (mkF m 18 #[.val (.ref a0), .val (.int p1), .val (.int 0), .val (.int 6)] [.int 6, .int 6])) rfl (by rw [hml]; rfl) (argsL := [(.int (6 : Int32)), (.int (6 : Int32))]) (rest := []) (lenOf pd_11 rfl) rfl (by show 2 * 0 + _ ≤ _; exact Nat.le_of_eq rfl) (hb hby d21_18) (fun _ _ => ⟨rfl, e704, (by decide : 0 + 0 ≤ _), (by decide : 0 + 0 ≤ _)⟩)
    dsimp only [Pt.U, Pt.locs, Pt.cells, Pt.slots] at X706 l706 y706 z706 st706 hQ706
    subst l706 y706 z706
    obtain ⟨rfl, N706q, e706⟩ := hQ706
    have N706 := Fr.app N704 N706q
    have cp707 : ∀ target, own_S p e below T706 (mkF m 33 #[.val (.ref a0), .val (.int p1), .val (.int 0), .val (.int 6)] [.int 6, .int 0, (.int p1), (.ref a0)]) target → own_S p e below s₁ (mkF m 0 #[.val (.ref a0), .val (.int p1), .val (.int 0), .val (.int 6)] []) target := by
      intro target kt
      show own_S p e below s₁ (mkF m 0 #[.val (.ref a0), .val (.int p1), .val (.int 0), .val (.int 6)] []) _
      refine XS.iloadN X0.here hx rfl (hb hby d21_0) rfl ?_
      show own_S p e below s₁ (mkF m 1 #[.val (.ref a0), .val (.int p1), .val (.int 0), .val (.int 6)] [(.int p1)]) _
      refine st702 _ ?_
      show own_S p e below T702 (mkF m 4 #[.val (.ref a0), .val (.int p1), .val (.int 0), .val (.int 6)] [(.int (own_ce p1))]) _
      refine XS.ifYes X702.here hx rfl (pc0 := 4) (pc' := 9) rfl (hb hby d21_4) rfl ((if0 _ _).trans (feq hc703).2) (by decide) (by decide) ?_
      show own_S p e below T702 (mkF m 9 #[.val (.ref a0), .val (.int p1), .val (.int 0), .val (.int 6)] []) _
      refine XS.iloadN X702.here hx rfl (hb hby d21_9) rfl ?_
      refine XS.iconst X702.here hx rfl (hb hby d21_10) ?_
      show own_S p e below T702 (mkF m 11 #[.val (.ref a0), .val (.int p1), .val (.int 0), .val (.int 6)] [.int 0, .int 0]) _
      refine st704 _ ?_
      show own_S p e below T704 (mkF m 14 #[.val (.ref a0), .val (.int p1), .val (.int 0), .val (.int 6)] [(.int (own_max (0 : Int32) (0 : Int32)))]) _
      rw [show (own_max (0 : Int32) (0 : Int32)) = (0 : Int32) from by decide]
      show own_S p e below T704 (mkF m 14 #[.val (.ref a0), .val (.int p1), .val (.int 0), .val (.int 6)] [.int 0]) _
      refine XS.istoreN X704.here hx rfl (hb hby d21_14) rfl (l' := #[.val (.ref a0), .val (.int p1), .val (.int 0), .val (.int 6)]) rfl ?_
      show own_S p e below T704 (mkF m 15 #[.val (.ref a0), .val (.int p1), .val (.int 0), .val (.int 6)] []) _
      refine XS.iloadN X704.here hx rfl (hb hby d21_15) rfl ?_
      refine XS.aloadN X704.here hx rfl (hb hby d21_16) rfl rfl ?_
      show own_S p e below T704 (mkF m 17 #[.val (.ref a0), .val (.int p1), .val (.int 0), .val (.int 6)] [(.ref a0), .int 6]) _
      refine ld705 _ ?_
      rw [len_of S705 M705]
      show own_S p e below T704 (mkF m 18 #[.val (.ref a0), .val (.int p1), .val (.int 0), .val (.int 6)] [.int 6, .int 6]) _
      refine st706 _ ?_
      show own_S p e below T706 (mkF m 21 #[.val (.ref a0), .val (.int p1), .val (.int 0), .val (.int 6)] [(.int (own_min (6 : Int32) (6 : Int32)))]) _
      rw [show (own_min (6 : Int32) (6 : Int32)) = (6 : Int32) from by decide]
      show own_S p e below T706 (mkF m 21 #[.val (.ref a0), .val (.int p1), .val (.int 0), .val (.int 6)] [.int 6]) _
      refine XS.istoreN X706.here hx rfl (hb hby d21_21) rfl (l' := #[.val (.ref a0), .val (.int p1), .val (.int 0), .val (.int 6)]) rfl ?_
      show own_S p e below T706 (mkF m 22 #[.val (.ref a0), .val (.int p1), .val (.int 0), .val (.int 6)] []) _
      refine XS.iloadN X706.here hx rfl (hb hby d21_22) rfl ?_
      refine XS.iloadN X706.here hx rfl (hb hby d21_23) rfl ?_
      refine XS.icmpYes X706.here hx rfl (pc0 := 24) (pc' := 29) rfl (hb hby d21_24) rfl (tlt (by decide : (0 : Int32) < (6 : Int32))).1 (by decide) (by decide) ?_
      show own_S p e below T706 (mkF m 29 #[.val (.ref a0), .val (.int p1), .val (.int 0), .val (.int 6)] []) _
      refine XS.aloadN X706.here hx rfl (hb hby d21_29) rfl rfl ?_
      refine XS.iloadN X706.here hx rfl (hb hby d21_30) rfl ?_
      refine XS.iloadN X706.here hx rfl (hb hby d21_31) rfl ?_
      refine XS.iloadN X706.here hx rfl (hb hby d21_32) rfl ?_
      exact kt
    obtain ⟨_, _, ⟨T708, L708, k708, n708⟩, -, X708, ⟨Lc708, hQ708, l708, y708, z708⟩, st708⟩ := Jvm.LawKit.callS X706 hx (y := (⟨"java/lang/StringLatin1", "indexOfChar", "([BIII)I"⟩ : MethodName)) hown (mvT hZ (own_wk hw 108 rfl)) (mvT hZ (own_wk hw 109 rfl)) (mvT hZ (own_wk hw 27 rfl)) (mvT hZ (own_wk hw 110 rfl)) (by decide) (backOf (W := 0) (rm24 l Z ag hw [] a0 p1 kb h0 n0 Z0 V_a0) hZ (own_wk hw 110 rfl) (own_wk hw 27 rfl) (by decide) (by decide)) (g := (mkF m 33 #[.val (.ref a0), .val (.int p1), .val (.int 0), .val (.int 6)] [.int 6, .int 0, (.int p1), (.ref a0)])) rfl (by rw [hml]; rfl) (argsL := [(.ref a0), (.int p1), (.int (0 : Int32)), (.int (6 : Int32))]) (rest := []) (lenOf pd_21 rfl) rfl (by show 2 * 0 + _ ≤ _; exact Nat.le_of_eq rfl) (hb hby d21_33) (fun _ _ => ⟨rfl, e706, (by decide : 0 + 0 ≤ _), (by decide : 0 + 0 ≤ _)⟩)
    dsimp only [Pt.U, Pt.locs, Pt.cells, Pt.slots] at X708 l708 y708 z708 st708 hQ708
    subst l708 y708 z708
    obtain ⟨rfl, N708q, e708⟩ := hQ708
    have N708 := Fr.app N706 N708q
    obtain ⟨fs, hr, hrun, hended, hW, hsame⟩ := X708.leave (v := some (.int (own_ioc p1))) (fun h => by rw [Bd.returns] at h; cases h)
    refine ⟨_, _, pre0 _ ?_, hrun, hended, _, _, rfl, ?_, ⟨_, rfl⟩, hW, hsame.mono (by decide) (by decide)⟩
    · show own_S p e below s₁ (mkF m 0 #[.val (.ref a0), .val (.int p1), .val (.int 0), .val (.int 6)] []) _
      refine cp707 _ ?_
      show own_S p e below T706 (mkF m 33 #[.val (.ref a0), .val (.int p1), .val (.int 0), .val (.int 6)] [.int 6, .int 0, (.int p1), (.ref a0)]) _
      refine st708 _ ?_
      show own_S p e below T708 (mkF m 36 #[.val (.ref a0), .val (.int p1), .val (.int 0), .val (.int 6)] [(.int (own_ioc p1))]) _
      exact retI X708 hx Bd.returns (hb hby d21_36) hr
    · show Q21 Z a0 p1 kb h0 n0 _ T708.heap _
      rw [e708]
      exact ⟨congrArg (fun z => some (Value.int z)) (show _ = own_io p1 from by unfold own_io; rw [if_neg hc703]), N708, rfl⟩
theorem ef_20_vv0 (m : MethodId) (a0 : Addr) (p1 : Int32) : entryFrame m #[(.ref a0), (.int p1), (.int (0 : Int32))] 3 = mkF m 0 #[.val (.ref a0), .val (.int p1), .val (.int 0)] [] := by first | (simp [entryFrame, mkF, argsToLocals, Value.category]; done) | rfl
theorem d20_0 : decode jdk_42_method_80_code 0 = .ok (.aload_n 0, 1) := by decide +kernel
theorem d20_1 : decode jdk_42_method_80_code 1 = .ok (.invokevirtual 492, 3) := by decide +kernel
theorem d20_4 : decode jdk_42_method_80_code 4 = .ok (.ifCond .eq 19, 3) := by decide +kernel
theorem d20_7 : decode jdk_42_method_80_code 7 = .ok (.aload_n 0, 1) := by decide +kernel
theorem d20_8 : decode jdk_42_method_80_code 8 = .ok (.getfield 9, 3) := by decide +kernel
theorem d20_11 : decode jdk_42_method_80_code 11 = .ok (.iload_n 1, 1) := by decide +kernel
theorem d20_12 : decode jdk_42_method_80_code 12 = .ok (.iload_n 2, 1) := by decide +kernel
theorem d20_13 : decode jdk_42_method_80_code 13 = .ok (.aload_n 0, 1) := by decide +kernel
theorem pd_1 : parseMethodDescriptor "()I" = some ⟨[], some .int⟩ := by decide +kernel
theorem d20_14 : decode jdk_42_method_80_code 14 = .ok (.invokevirtual 505, 3) := by decide +kernel
theorem d20_17 : decode jdk_42_method_80_code 17 = .ok (.invokestatic 637, 3) := by decide +kernel
theorem d20_20 : decode jdk_42_method_80_code 20 = .ok (.goto 16, 3) := by decide +kernel
theorem d20_36 : decode jdk_42_method_80_code 36 = .ok (.ireturn, 1) := by decide +kernel
def Q20 (Z : State) (a0 : Addr) (p1 : Int32) (b : Addr) (kb : ClassId) (cs : Int32) (h0 : Heap) (n0 : Nat) (v : Option Value) (h : Heap) (L : List Loc) : Prop := v = some (.int (own_io p1)) ∧ Fr n0 L ∧ h = h0
set_option maxRecDepth 65536 in
set_option maxHeartbeats 40000000 in
theorem rm20 (l : Launch) (Z : State) (ag : Array Value) (hw : ∀ d ∈ tables_1, d.before ag Z = true) (ws : List Jvm.Cond) (a0 : Addr) (p1 : Int32) (b : Addr) (kb : ClassId) (cs : Int32) (h0 : Heap) (n0 : Nat) (Z0 : n0 ≤ h0.size) (E_a0 : Exa Z h0 a0 "java/lang/String") (F_value_a0 : Fld Z h0 a0 "java/lang/String" "value" "[B" (.ref b)) (F_coder_a0 : Fld Z h0 a0 "java/lang/String" "coder" "B" (.int (0 : Int32))) (V_b : Arv Z h0 b kb .byte (6 : Int32) [(.int (46 : Int32)), (.int (44 : Int32)), (.int (59 : Int32)), (.int (58 : Int32)), (.int (47 : Int32)), (.int (32 : Int32))] (.int (0 : Int32))) (O_ : Old Z n0 h0) (S_cs : Sta Z Z.heap "java/lang/String" "COMPACT_STRINGS" "Z" (.int cs)) (hcs : ¬ cs = (0 : Int32)) :
    MetFree l (⟨"java/lang/String", "indexOf", "(II)I"⟩ : MethodName) (head1 (Jvm.Cond.code (⟨"java/lang/String", "indexOf", "(II)I"⟩ : MethodName) jdk_42_method_80_code 3 (some .int) :: ws) ({ frames := 2, cells := 0, slots := 0, locals := 32 } : Room)) (fun a U => a = #[(.ref a0), (.int p1), (.int (0 : Int32))] ∧ Z.Warmed39 U.vm ∧ U.heap = h0) (fun _ _ _ _ _ => True) (fun _ U o U' => ∃ v L, o = .returned v ∧ Q20 Z a0 p1 b kb cs h0 n0 v U'.heap L ∧ FrameEnd U o U' L ({ frames := 2, cells := 0, slots := 0, locals := 32 } : Room).cells ({ frames := 2, cells := 0, slots := 0, locals := 32 } : Room).slots) := by
  refine MetFree.of_bodySF (plainFor_of_name pn_4) hisR ?_
  intro p e s m args below meth c s₁ Bd hml0 hP hK
  obtain ⟨rfl, hZ, hh⟩ := hP
  have hx := Bd.exec
  have hby := Bd.bytes
  have hml : c.maxLocals = 3 := hml0
  have hown : s.vm.findClass "java/lang/String" = some m.cls := findClass_of_methodNamed Bd.named
  have hnm := (name_of_methodNamed Bd.named Bd.method).1
  have X0 : Stand p l e ({ frames := 2, cells := 0, slots := 0, locals := 32 } : Room) s m #[(.ref a0), (.int p1), (.int (0 : Int32))] below meth c s₁ [] 0 0 := Stand.of_body Bd
  have e0 : s₁.heap = h0 := by rw [← hh, Bd.state]; rfl
  have N0 := Fr.nil n0
  have pre0 : ∀ t, Steps p.tables e below (s₁.setTop (mkF m 0 #[.val (.ref a0), .val (.int p1), .val (.int 0)] [])) t → Steps p.tables e below (s₁.setTop (entryFrame m #[(.ref a0), (.int p1), (.int (0 : Int32))] 3)) t := fun t k => castTop (ef_20_vv0 m a0 p1) k
  obtain ⟨cq709, kq709, q709a, q709b, q709c⟩ := isOf hZ e0 E_a0
  obtain ⟨_, _, ⟨T709, L709, k709, n709⟩, -, X709, ⟨Lc709, hQ709, l709, y709, z709⟩, st709⟩ := X0.virtualBack hx (y := (⟨"java/lang/String", "isLatin1", "()Z"⟩ : MethodName)) (z := (⟨"java/lang/String", "isLatin1", "()Z"⟩ : MethodName)) hown (mvT hZ (own_wk hw 17 rfl)) (mvT hZ (own_wk hw 18 rfl)) (notFace_of_selects (args := #[]) (mvT hZ (own_wk hw 20 rfl))) (mvT hZ (own_wk hw 20 rfl)) (mvT hZ (own_wk hw 19 rfl)) (by decide) (backOf (W := 0) (rm3_0 l Z ag hw [] a0 cs h0 n0 Z0 F_coder_a0 O_ S_cs hcs) hZ (own_wk hw 21 rfl) (own_wk hw 5 rfl) (by decide) (by decide)) q709a q709c (g := (mkF m 1 #[.val (.ref a0), .val (.int p1), .val (.int 0)] [(.ref a0)])) rfl (by rw [hml]; rfl) (Steps.refl _) (argsL := []) (rest := []) (lenOf pd_3 rfl) rfl (by show 2 * 0 + _ ≤ _; exact Nat.le_of_eq rfl) (hb hby d20_1) (fun _ _ => ⟨rfl, e0, (by decide : 0 + 0 ≤ _), (by decide : 0 + 0 ≤ _)⟩)
  dsimp only [Pt.U, Pt.locs, Pt.cells, Pt.slots] at X709 l709 y709 z709 st709 hQ709
  subst l709 y709 z709
  obtain ⟨rfl, N709q, e709⟩ := hQ709
  have N709 := Fr.app N0 N709q
  obtain ⟨T710, X710, e710, st710⟩ := getF X709 hx hZ hown (host := "") (Or.inl (own_wk hw 24 rfl)) Via.refl e709 F_value_a0 (g := (mkF m 8 #[.val (.ref a0), .val (.int p1), .val (.int 0)] [(.ref a0)])) rfl rfl (hb hby d20_8)
  obtain ⟨cq711, kq711, q711a, q711b, q711c⟩ := isOf hZ e710 E_a0
  obtain ⟨_, _, ⟨T711, L711, k711, n711⟩, -, X711, ⟨Lc711, hQ711, l711, y711, z711⟩, st711⟩ := X710.virtualBack hx (y := (⟨"java/lang/String", "length", "()I"⟩ : MethodName)) (z := (⟨"java/lang/String", "length", "()I"⟩ : MethodName)) hown (mvT hZ (own_wk hw 97 rfl)) (mvT hZ (own_wk hw 58 rfl)) (notFace_of_selects (args := #[]) (mvT hZ (own_wk hw 60 rfl))) (mvT hZ (own_wk hw 60 rfl)) (mvT hZ (own_wk hw 59 rfl)) (by decide) (backOf (W := 3) (rm12_g l Z ag hw [] a0 b kb (6 : Int32) [(.int (46 : Int32)), (.int (44 : Int32)), (.int (59 : Int32)), (.int (58 : Int32)), (.int (47 : Int32)), (.int (32 : Int32))] (0 : Int32) (6 : Int32) cs h0 n0 Z0 E_a0 F_value_a0 F_coder_a0 V_b (by decide) O_ S_cs hcs) hZ (own_wk hw 61 rfl) (own_wk hw 5 rfl) (by decide) (by decide)) q711a q711c (g := (mkF m 14 #[.val (.ref a0), .val (.int p1), .val (.int 0)] [(.ref a0), .int 0, (.int p1), (.ref b)])) rfl (by rw [hml]; rfl) (Steps.refl _) (argsL := []) (rest := [(.int (0 : Int32)), (.int p1), (.ref b)]) (lenOf pd_1 rfl) rfl (by show 2 * 0 + _ ≤ _; exact Nat.le_of_eq rfl) (hb hby d20_14) (fun _ _ => ⟨rfl, e710, (by decide : 0 + 0 ≤ _), (by decide : 0 + 0 ≤ _)⟩)
  dsimp only [Pt.U, Pt.locs, Pt.cells, Pt.slots] at X711 l711 y711 z711 st711 hQ711
  subst l711 y711 z711
  obtain ⟨rfl, N711q, e711⟩ := hQ711
  have N711 := Fr.app N709 N711q
  obtain ⟨_, _, ⟨T712, L712, k712, n712⟩, -, X712, ⟨Lc712, hQ712, l712, y712, z712⟩, st712⟩ := Jvm.LawKit.callS X711 hx (y := (⟨"java/lang/StringLatin1", "indexOf", "([BIII)I"⟩ : MethodName)) hown (mvT hZ (own_wk hw 98 rfl)) (mvT hZ (own_wk hw 99 rfl)) (mvT hZ (own_wk hw 27 rfl)) (mvT hZ (own_wk hw 100 rfl)) (by decide) (backOf (W := 0) (rm21 l Z ag hw [] b p1 kb h0 n0 Z0 V_b) hZ (own_wk hw 100 rfl) (own_wk hw 27 rfl) (by decide) (by decide)) (g := (mkF m 17 #[.val (.ref a0), .val (.int p1), .val (.int 0)] [.int 6, .int 0, (.int p1), (.ref b)])) rfl (by rw [hml]; rfl) (argsL := [(.ref b), (.int p1), (.int (0 : Int32)), (.int (6 : Int32))]) (rest := []) (lenOf pd_21 rfl) rfl (by show 2 * 0 + _ ≤ _; exact Nat.le_of_eq rfl) (hb hby d20_17) (fun _ _ => ⟨rfl, e711, (by decide : 0 + 0 ≤ _), (by decide : 0 + 0 ≤ _)⟩)
  dsimp only [Pt.U, Pt.locs, Pt.cells, Pt.slots] at X712 l712 y712 z712 st712 hQ712
  subst l712 y712 z712
  obtain ⟨rfl, N712q, e712⟩ := hQ712
  have N712 := Fr.app N711 N712q
  obtain ⟨fs, hr, hrun, hended, hW, hsame⟩ := X712.leave (v := some (.int (own_io p1))) (fun h => by rw [Bd.returns] at h; cases h)
  refine ⟨_, _, pre0 _ ?_, hrun, hended, _, _, rfl, ?_, ⟨_, rfl⟩, hW, hsame.mono (by decide) (by decide)⟩
  · show own_S p e below s₁ (mkF m 0 #[.val (.ref a0), .val (.int p1), .val (.int 0)] []) _
    refine XS.aloadN X0.here hx rfl (hb hby d20_0) rfl rfl ?_
    show own_S p e below s₁ (mkF m 1 #[.val (.ref a0), .val (.int p1), .val (.int 0)] [(.ref a0)]) _
    refine st709.trans ?_
    show own_S p e below T709 (mkF m 4 #[.val (.ref a0), .val (.int p1), .val (.int 0)] [.int 1]) _
    refine XS.ifNo X709.here hx rfl (hb hby d20_4) rfl ((if0 _ _).trans (feq (by decide : ¬ ((1 : Int32) = (0 : Int32)))).1) ?_
    show own_S p e below T709 (mkF m 7 #[.val (.ref a0), .val (.int p1), .val (.int 0)] []) _
    refine XS.aloadN X709.here hx rfl (hb hby d20_7) rfl rfl ?_
    show own_S p e below T709 (mkF m 8 #[.val (.ref a0), .val (.int p1), .val (.int 0)] [(.ref a0)]) _
    refine st710 _ ?_
    show own_S p e below T710 (mkF m 11 #[.val (.ref a0), .val (.int p1), .val (.int 0)] [(.ref b)]) _
    refine XS.iloadN X710.here hx rfl (hb hby d20_11) rfl ?_
    refine XS.iloadN X710.here hx rfl (hb hby d20_12) rfl ?_
    refine XS.aloadN X710.here hx rfl (hb hby d20_13) rfl rfl ?_
    show own_S p e below T710 (mkF m 14 #[.val (.ref a0), .val (.int p1), .val (.int 0)] [(.ref a0), .int 0, (.int p1), (.ref b)]) _
    refine st711.trans ?_
    show own_S p e below T711 (mkF m 17 #[.val (.ref a0), .val (.int p1), .val (.int 0)] [.int 6, .int 0, (.int p1), (.ref b)]) _
    refine st712 _ ?_
    show own_S p e below T712 (mkF m 20 #[.val (.ref a0), .val (.int p1), .val (.int 0)] [(.int (own_io p1))]) _
    refine XS.goto X712.here hx rfl (pc0 := 20) (pc' := 36) rfl (hb hby d20_20) (by decide) (by decide) ?_
    show own_S p e below T712 (mkF m 36 #[.val (.ref a0), .val (.int p1), .val (.int 0)] [(.int (own_io p1))]) _
    exact retI X712 hx Bd.returns (hb hby d20_36) hr
  · show Q20 Z a0 p1 b kb cs h0 n0 _ T712.heap _
    rw [e712]
    exact ⟨rfl, N712, rfl⟩
theorem ef_19 (m : MethodId) (a0 : Addr) (p1 : Int32) : entryFrame m #[(.ref a0), (.int p1)] 2 = mkF m 0 #[.val (.ref a0), .val (.int p1)] [] := by first | (simp [entryFrame, mkF, argsToLocals, Value.category]; done) | rfl
theorem d19_0 : decode jdk_42_method_79_code 0 = .ok (.aload_n 0, 1) := by decide +kernel
theorem d19_1 : decode jdk_42_method_79_code 1 = .ok (.iload_n 1, 1) := by decide +kernel
theorem d19_2 : decode jdk_42_method_79_code 2 = .ok (.iconst 0, 1) := by decide +kernel
theorem d19_3 : decode jdk_42_method_79_code 3 = .ok (.invokevirtual 633, 3) := by decide +kernel
theorem d19_6 : decode jdk_42_method_79_code 6 = .ok (.ireturn, 1) := by decide +kernel
def Q19 (Z : State) (a0 : Addr) (p1 : Int32) (b : Addr) (kb : ClassId) (cs : Int32) (h0 : Heap) (n0 : Nat) (v : Option Value) (h : Heap) (L : List Loc) : Prop := v = some (.int (own_io p1)) ∧ Fr n0 L ∧ h = h0
set_option maxRecDepth 65536 in
set_option maxHeartbeats 40000000 in
theorem rm19 (l : Launch) (Z : State) (ag : Array Value) (hw : ∀ d ∈ tables_1, d.before ag Z = true) (ws : List Jvm.Cond) (a0 : Addr) (p1 : Int32) (b : Addr) (kb : ClassId) (cs : Int32) (h0 : Heap) (n0 : Nat) (Z0 : n0 ≤ h0.size) (E_a0 : Exa Z h0 a0 "java/lang/String") (F_value_a0 : Fld Z h0 a0 "java/lang/String" "value" "[B" (.ref b)) (F_coder_a0 : Fld Z h0 a0 "java/lang/String" "coder" "B" (.int (0 : Int32))) (V_b : Arv Z h0 b kb .byte (6 : Int32) [(.int (46 : Int32)), (.int (44 : Int32)), (.int (59 : Int32)), (.int (58 : Int32)), (.int (47 : Int32)), (.int (32 : Int32))] (.int (0 : Int32))) (O_ : Old Z n0 h0) (S_cs : Sta Z Z.heap "java/lang/String" "COMPACT_STRINGS" "Z" (.int cs)) (hcs : ¬ cs = (0 : Int32)) :
    MetFree l (⟨"java/lang/String", "indexOf", "(I)I"⟩ : MethodName) (head1 (Jvm.Cond.code (⟨"java/lang/String", "indexOf", "(I)I"⟩ : MethodName) jdk_42_method_79_code 2 (some .int) :: ws) ({ frames := 3, cells := 0, slots := 0, locals := 46 } : Room)) (fun a U => a = #[(.ref a0), (.int p1)] ∧ Z.Warmed39 U.vm ∧ U.heap = h0) (fun _ _ _ _ _ => True) (fun _ U o U' => ∃ v L, o = .returned v ∧ Q19 Z a0 p1 b kb cs h0 n0 v U'.heap L ∧ FrameEnd U o U' L ({ frames := 3, cells := 0, slots := 0, locals := 46 } : Room).cells ({ frames := 3, cells := 0, slots := 0, locals := 46 } : Room).slots) := by
  refine MetFree.of_bodySF (plainFor_of_name pn_4) hisR ?_
  intro p e s m args below meth c s₁ Bd hml0 hP hK
  obtain ⟨rfl, hZ, hh⟩ := hP
  have hx := Bd.exec
  have hby := Bd.bytes
  have hml : c.maxLocals = 2 := hml0
  have hown : s.vm.findClass "java/lang/String" = some m.cls := findClass_of_methodNamed Bd.named
  have hnm := (name_of_methodNamed Bd.named Bd.method).1
  have X0 : Stand p l e ({ frames := 3, cells := 0, slots := 0, locals := 46 } : Room) s m #[(.ref a0), (.int p1)] below meth c s₁ [] 0 0 := Stand.of_body Bd
  have e0 : s₁.heap = h0 := by rw [← hh, Bd.state]; rfl
  have N0 := Fr.nil n0
  have pre0 : ∀ t, Steps p.tables e below (s₁.setTop (mkF m 0 #[.val (.ref a0), .val (.int p1)] [])) t → Steps p.tables e below (s₁.setTop (entryFrame m #[(.ref a0), (.int p1)] 2)) t := fun t k => castTop (ef_19 m a0 p1) k
  obtain ⟨cq713, kq713, q713a, q713b, q713c⟩ := isOf hZ e0 E_a0
  obtain ⟨_, _, ⟨T713, L713, k713, n713⟩, -, X713, ⟨Lc713, hQ713, l713, y713, z713⟩, st713⟩ := X0.virtualBack hx (y := (⟨"java/lang/String", "indexOf", "(II)I"⟩ : MethodName)) (z := (⟨"java/lang/String", "indexOf", "(II)I"⟩ : MethodName)) hown (mvT hZ (own_wk hw 92 rfl)) (mvT hZ (own_wk hw 93 rfl)) (notFace_of_selects (args := #[]) (mvT hZ (own_wk hw 95 rfl))) (mvT hZ (own_wk hw 95 rfl)) (mvT hZ (own_wk hw 94 rfl)) (by decide) (backOf (W := 0) (rm20 l Z ag hw [] a0 p1 b kb cs h0 n0 Z0 E_a0 F_value_a0 F_coder_a0 V_b O_ S_cs hcs) hZ (own_wk hw 96 rfl) (own_wk hw 5 rfl) (by decide) (by decide)) q713a q713c (g := (mkF m 3 #[.val (.ref a0), .val (.int p1)] [.int 0, (.int p1), (.ref a0)])) rfl (by rw [hml]; rfl) (Steps.refl _) (argsL := [(.int p1), (.int (0 : Int32))]) (rest := []) (lenOf pd_11 rfl) rfl (by show 2 * 0 + _ ≤ _; exact Nat.le_of_eq rfl) (hb hby d19_3) (fun _ _ => ⟨rfl, e0, (by decide : 0 + 0 ≤ _), (by decide : 0 + 0 ≤ _)⟩)
  dsimp only [Pt.U, Pt.locs, Pt.cells, Pt.slots] at X713 l713 y713 z713 st713 hQ713
  subst l713 y713 z713
  obtain ⟨rfl, N713q, e713⟩ := hQ713
  have N713 := Fr.app N0 N713q
  obtain ⟨fs, hr, hrun, hended, hW, hsame⟩ := X713.leave (v := some (.int (own_io p1))) (fun h => by rw [Bd.returns] at h; cases h)
  refine ⟨_, _, pre0 _ ?_, hrun, hended, _, _, rfl, ?_, ⟨_, rfl⟩, hW, hsame.mono (by decide) (by decide)⟩
  · show own_S p e below s₁ (mkF m 0 #[.val (.ref a0), .val (.int p1)] []) _
    refine XS.aloadN X0.here hx rfl (hb hby d19_0) rfl rfl ?_
    refine XS.iloadN X0.here hx rfl (hb hby d19_1) rfl ?_
    refine XS.iconst X0.here hx rfl (hb hby d19_2) ?_
    show own_S p e below s₁ (mkF m 3 #[.val (.ref a0), .val (.int p1)] [.int 0, (.int p1), (.ref a0)]) _
    refine st713.trans ?_
    show own_S p e below T713 (mkF m 6 #[.val (.ref a0), .val (.int p1)] [(.int (own_io p1))]) _
    exact retI X713 hx Bd.returns (hb hby d19_6) hr
  · show Q19 Z a0 p1 b kb cs h0 n0 _ T713.heap _
    rw [e713]
    exact ⟨rfl, N713, rfl⟩
def own_draw (p0 : Int32) : Int32 := if (p0 &&& (7 : Int32)) < (6 : Int32) then (nar .char (own_lc (own_sb (p0 &&& (7 : Int32))))) else (nar .char (((own_ushr p0 (3 : Int32)) &&& (65535 : Int32)).toUInt32.toUInt16.toUInt32.toInt32))
theorem ef_1 (m : MethodId) (p0 : Int32) : entryFrame m #[(.int p0)] 2 = mkF m 0 #[.val (.int p0), .unset] [] := by first | (simp [entryFrame, mkF, argsToLocals, Value.category]; done) | rfl
theorem d1_0 : decode method_3_code 0 = .ok (.iload_n 0, 1) := by decide +kernel
theorem d1_1 : decode method_3_code 1 = .ok (.bipush 7, 2) := by decide +kernel
theorem d1_3 : decode method_3_code 3 = .ok (.iand, 1) := by decide +kernel
theorem d1_4 : decode method_3_code 4 = .ok (.istore_n 1, 1) := by decide +kernel
theorem d1_5 : decode method_3_code 5 = .ok (.iload_n 1, 1) := by decide +kernel
theorem d1_6 : decode method_3_code 6 = .ok (.bipush 6, 2) := by decide +kernel
theorem d1_8 : decode method_3_code 8 = .ok (.if_icmp .ge 10, 3) := by decide +kernel
theorem d1_11 : decode method_3_code 11 = .ok (.ldc 7, 2) := by decide +kernel
theorem d1_13 : decode method_3_code 13 = .ok (.iload_n 1, 1) := by decide +kernel
theorem pd_5 : parseMethodDescriptor "(I)C" = some ⟨[.int], some .char⟩ := by decide +kernel
theorem d1_14 : decode method_3_code 14 = .ok (.invokevirtual 9, 3) := by decide +kernel
theorem d1_17 : decode method_3_code 17 = .ok (.ireturn, 1) := by decide +kernel
theorem d1_18 : decode method_3_code 18 = .ok (.iload_n 0, 1) := by decide +kernel
theorem d1_19 : decode method_3_code 19 = .ok (.iconst 3, 1) := by decide +kernel
theorem d1_20 : decode method_3_code 20 = .ok (.iushr, 1) := by decide +kernel
theorem d1_21 : decode method_3_code 21 = .ok (.ldc 15, 2) := by decide +kernel
theorem d1_23 : decode method_3_code 23 = .ok (.iand, 1) := by decide +kernel
theorem d1_24 : decode method_3_code 24 = .ok (.i2c, 1) := by decide +kernel
theorem d1_25 : decode method_3_code 25 = .ok (.ireturn, 1) := by decide +kernel
def Q1 (Z : State) (p0 : Int32) (cs : Int32) (gf : Value) (h0 : Heap) (n0 : Nat) (v : Option Value) (h : Heap) (L : List Loc) : Prop := v = some (.int (own_draw p0)) ∧ Fr n0 L ∧ Keep h0 h []
set_option maxRecDepth 65536 in
set_option maxHeartbeats 40000000 in
theorem rm1 (l : Launch) (Z : State) (ag : Array Value) (hw : ∀ d ∈ tables_1, d.before ag Z = true) (ws : List Jvm.Cond) (p0 : Int32) (cs : Int32) (gf : Value) (h0 : Heap) (n0 : Nat) (Z0 : n0 ≤ h0.size) (O_ : Old Z n0 h0) (S_cs : Sta Z Z.heap "java/lang/String" "COMPACT_STRINGS" "Z" (.int cs)) (hcs : ¬ cs = (0 : Int32)) (S_gf : Sta Z Z.heap "jdk/internal/util/Preconditions" "SIOOBE_FORMATTER" "Ljava/util/function/BiFunction;" gf) (rv_gf : gf.isRef = true) (S_ad : Sta Z Z.heap "java/lang/StringUTF16" "$assertionsDisabled" "Z" (.int (1 : Int32))) (S_hi : Sta Z Z.heap "java/lang/StringUTF16" "HI_BYTE_SHIFT" "I" (.int (0 : Int32))) (S_lo : Sta Z Z.heap "java/lang/StringUTF16" "LO_BYTE_SHIFT" "I" (.int (8 : Int32))) :
    MetFree l (⟨"com/example/citeloom/citeloom/references/FieldTextAfterSeparatorsPinLaw", "draw", "(I)C"⟩ : MethodName) (head1 (Jvm.Cond.code (⟨"com/example/citeloom/citeloom/references/FieldTextAfterSeparatorsPinLaw", "draw", "(I)C"⟩ : MethodName) method_3_code 2 (some .char) :: ws) ({ frames := 6, cells := 2, slots := 28, locals := 83 } : Room)) (fun a U => a = #[(.int p0)] ∧ Z.Warmed39 U.vm ∧ U.heap = h0 ∧ CHv Z own_EL U.vm h0) (fun _ _ _ _ _ => True) (fun _ U o U' => ∃ v L, o = .returned v ∧ Q1 Z p0 cs gf h0 n0 v U'.heap L ∧ CHr Z own_EL U.vm U.heap U'.vm U'.heap ∧ ReturnedEndW U o U' L ({ frames := 6, cells := 2, slots := 28, locals := 83 } : Room).cells ({ frames := 6, cells := 2, slots := 28, locals := 83 } : Room).slots) := by
  refine MetFree.of_bodySF (plainFor_of_name pn_1) hisR ?_
  intro p e s m args below meth c s₁ Bd hml0 hP hK
  obtain ⟨rfl, hZ, hh, hI⟩ := hP
  have hx := Bd.exec
  have hby := Bd.bytes
  have hml : c.maxLocals = 2 := hml0
  have hown : s.vm.findClass "com/example/citeloom/citeloom/references/FieldTextAfterSeparatorsPinLaw" = some m.cls := findClass_of_methodNamed Bd.named
  have hnm := (name_of_methodNamed Bd.named Bd.method).1
  have X0 : Stand p l e ({ frames := 6, cells := 2, slots := 28, locals := 83 } : Room) s m #[(.int p0)] below meth c s₁ [] 0 0 := Stand.of_body Bd
  have e0 : s₁.heap = h0 := by rw [← hh, Bd.state]; rfl
  have N0 := Fr.nil n0
  have pre0 : ∀ t, Steps p.tables e below (s₁.setTop (mkF m 0 #[.val (.int p0), .unset] [])) t → Steps p.tables e below (s₁.setTop (entryFrame m #[(.int p0)] 2)) t := fun t k => castTop (ef_1 m p0) k
  have X0 : Stand p l e ({ frames := 6, cells := 2, slots := 28, locals := 83 } : Room) (s.setVm s.vm) m #[(.int p0)] below meth c s₁ [] 0 0 := X0
  have hS : s.Since s.vm 0 := (State.WarmedH.refl s).since 0
  have hkS : 0 ≤ h0.size := Nat.zero_le _
  have hC : CHr Z own_EL s.vm h0 s.vm h0 := CHr.refl hI
  have hEL : EW Z ag own_EL := own_ew hw
  have hwS : ∀ d ∈ Bundle.stringAtoms, d.before ag Z = true := fun d hd => hw d ((by decide +kernel : ∀ d ∈ Bundle.stringAtoms, d ∈ tables_1) d hd)
  have cp715 : ∀ target, own_S p e below s₁ (mkF m 8 #[.val (.int p0), .val (.int (p0 &&& (7 : Int32)))] [.int 6, (.int (p0 &&& (7 : Int32)))]) target → own_S p e below s₁ (mkF m 0 #[.val (.int p0), .unset] []) target := by
    intro target kt
    show own_S p e below s₁ (mkF m 0 #[.val (.int p0), .unset] []) _
    refine XS.iloadN X0.here hx rfl (hb hby d1_0) rfl ?_
    refine XS.bipush X0.here hx rfl (hb hby d1_1) ?_
    refine XS.iand X0.here hx rfl (hb hby d1_3) rfl ?_
    refine XS.istoreN X0.here hx rfl (hb hby d1_4) rfl (l' := #[.val (.int p0), .val (.int (p0 &&& (7 : Int32)))]) rfl ?_
    show own_S p e below s₁ (mkF m 5 #[.val (.int p0), .val (.int (p0 &&& (7 : Int32)))] []) _
    refine XS.iloadN X0.here hx rfl (hb hby d1_5) rfl ?_
    refine XS.bipush X0.here hx rfl (hb hby d1_6) ?_
    exact kt
  by_cases hc714 : (p0 &&& (7 : Int32)) < (6 : Int32)
  · obtain ⟨sa716, T716, h716, kS716, sb716, kb716, X716, e716, E716, hS, hkS716, hZ, hown, Es716, Fc716, Fv716, Vs716, lta716, ltb716, hCs716, hLit716, hSf716, st716⟩ := ldcCH X0 hx hZ hown (own_wk hw 4 rfl) hwS e0 hS hkS hEL (by decide) hC.1 (vs := [(.int (46 : Int32)), (.int (44 : Int32)), (.int (59 : Int32)), (.int (58 : Int32)), (.int (47 : Int32)), (.int (32 : Int32))]) (z := (6 : Int32)) ⟨by decide, rfl⟩ (by decide) (by decide) (g := (mkF m 11 #[.val (.int p0), .val (.int (p0 &&& (7 : Int32)))] [])) rfl (hb hby d1_11) (n := 24) (by decide) (by decide) (by decide) (by decide)
    have x717 := O_.ext E716
    have sz718 : n0 ≤ h716.size := Nat.le_trans Z0 E716.1
    have hkS := Nat.le_trans hkS E716.1
    have hC := hC.trans hCs716
    have kp719 : Keep h0 h716 [] := (Keep.refl h0 []).ext E716
    have hkS := hkS716
    obtain ⟨cq720, kq720, q720a, q720b, q720c⟩ := isOf hZ e716 Es716
    obtain ⟨_, _, ⟨T720, L720, k720, n720⟩, -, X720, ⟨Lc720, hQ720, l720, y720, z720⟩, st720⟩ := X716.virtualBack hx (y := (⟨"java/lang/String", "charAt", "(I)C"⟩ : MethodName)) (z := (⟨"java/lang/String", "charAt", "(I)C"⟩ : MethodName)) hown (mvT hZ (own_wk hw 12 rfl)) (mvT hZ (own_wk hw 13 rfl)) (notFace_of_selects (args := #[]) (mvT hZ (own_wk hw 15 rfl))) (mvT hZ (own_wk hw 15 rfl)) (mvT hZ (own_wk hw 14 rfl)) (by decide) (backOf (W := 0) (rm2_0 l Z ag hw [] sa716 (p0 &&& (7 : Int32)) sb716 kb716 (6 : Int32) [(.int (46 : Int32)), (.int (44 : Int32)), (.int (59 : Int32)), (.int (58 : Int32)), (.int (47 : Int32)), (.int (32 : Int32))] (own_sb (p0 &&& (7 : Int32))) (own_lc (own_sb (p0 &&& (7 : Int32)))) cs gf h716 n0 sz718 Es716 Fv716 Fc716 Vs716 (own_nn _ (own_m7 p0).1) hc714 (own_sb_at _ (own_m7 p0).1 hc714) rfl x717 S_cs hcs S_gf rv_gf S_ad S_hi S_lo) hZ (own_wk hw 16 rfl) (own_wk hw 5 rfl) (by decide) (by decide)) q720a q720c (g := (mkF m 14 #[.val (.int p0), .val (.int (p0 &&& (7 : Int32)))] [(.int (p0 &&& (7 : Int32))), (.ref sa716)])) rfl (by rw [hml]; rfl) (Steps.refl _) (argsL := [(.int (p0 &&& (7 : Int32)))]) (rest := []) (lenOf pd_5 rfl) rfl (by show 2 * 0 + _ ≤ _; exact Nat.le_of_eq rfl) (hb hby d1_14) (fun _ _ => ⟨rfl, e716, (by decide : 2 + 0 ≤ _), (by decide : 28 + 0 ≤ _)⟩)
    dsimp only [Pt.U, Pt.locs, Pt.cells, Pt.slots] at X720 l720 y720 z720 st720 hQ720
    subst l720 y720 z720
    obtain ⟨rfl, N720q, e720⟩ := hQ720
    have N720 := Fr.app N0 N720q
    obtain ⟨fs, hr, hrun, hended, hEnd⟩ := X720.leaveW hS (by rw [e720]; exact hkS) (v := some (.int (nar .char (own_lc (own_sb (p0 &&& (7 : Int32))))))) (fun h => by rw [Bd.returns] at h; cases h)
    refine ⟨_, _, pre0 _ ?_, hrun, hended, _, _, rfl, ?_, ?_, hEnd.1, hEnd.2.1, hEnd.2.2.1, hEnd.2.2.2.mono (by decide) (by decide)⟩
    · show own_S p e below s₁ (mkF m 0 #[.val (.int p0), .unset] []) _
      refine cp715 _ ?_
      show own_S p e below s₁ (mkF m 8 #[.val (.int p0), .val (.int (p0 &&& (7 : Int32)))] [.int 6, (.int (p0 &&& (7 : Int32)))]) _
      refine XS.icmpNo X0.here hx rfl (hb hby d1_8) rfl (tlt hc714).2.1 ?_
      show own_S p e below s₁ (mkF m 11 #[.val (.int p0), .val (.int (p0 &&& (7 : Int32)))] []) _
      refine st716 _ ?_
      show own_S p e below T716 (mkF m 13 #[.val (.int p0), .val (.int (p0 &&& (7 : Int32)))] [(.ref sa716)]) _
      refine XS.iloadN X716.here hx rfl (hb hby d1_13) rfl ?_
      show own_S p e below T716 (mkF m 14 #[.val (.int p0), .val (.int (p0 &&& (7 : Int32)))] [(.int (p0 &&& (7 : Int32))), (.ref sa716)]) _
      refine st720.trans ?_
      show own_S p e below T720 (mkF m 17 #[.val (.int p0), .val (.int (p0 &&& (7 : Int32)))] [(.int (own_lc (own_sb (p0 &&& (7 : Int32)))))]) _
      exact retN X720 hx (t := .char) Bd.returns (by simp) (hb hby d1_17) hr
    · show Q1 Z p0 cs gf h0 n0 _ T720.heap _
      rw [e720]
      exact ⟨congrArg (fun z => some (Value.int z)) (show _ = own_draw p0 from by unfold own_draw; rw [if_pos hc714]), N720, kp719⟩
    · show CHr Z own_EL s.vm s.heap T720.vm T720.heap
      rw [hh, show T720.heap = h716 from e720]
      exact hC.trans (CHv.at X720 hZ hEL hC.1)
  · have ld721 := X0.ldcInt hx hown (mvT hZ (own_wk hw 74 rfl)) (g := (mkF m 21 #[.val (.int p0), .val (.int (p0 &&& (7 : Int32)))] [(.int (own_ushr p0 (3 : Int32)))])) rfl (hb hby d1_21)
    obtain ⟨fs, hr, hrun, hended, hEnd⟩ := X0.leaveW hS (by rw [e0]; exact hkS) (v := some (.int (nar .char (((own_ushr p0 (3 : Int32)) &&& (65535 : Int32)).toUInt32.toUInt16.toUInt32.toInt32)))) (fun h => by rw [Bd.returns] at h; cases h)
    refine ⟨_, _, pre0 _ ?_, hrun, hended, _, _, rfl, ?_, ?_, hEnd.1, hEnd.2.1, hEnd.2.2.1, hEnd.2.2.2.mono (by decide) (by decide)⟩
    · show own_S p e below s₁ (mkF m 0 #[.val (.int p0), .unset] []) _
      refine cp715 _ ?_
      show own_S p e below s₁ (mkF m 8 #[.val (.int p0), .val (.int (p0 &&& (7 : Int32)))] [.int 6, (.int (p0 &&& (7 : Int32)))]) _
      refine XS.icmpYes X0.here hx rfl (pc0 := 8) (pc' := 18) rfl (hb hby d1_8) rfl (flt hc714).2.1 (by decide) (by decide) ?_
      show own_S p e below s₁ (mkF m 18 #[.val (.int p0), .val (.int (p0 &&& (7 : Int32)))] []) _
      refine XS.iloadN X0.here hx rfl (hb hby d1_18) rfl ?_
      refine XS.iconst X0.here hx rfl (hb hby d1_19) ?_
      refine XS.iushr X0.here hx rfl (hb hby d1_20) rfl ?_
      show own_S p e below s₁ (mkF m 21 #[.val (.int p0), .val (.int (p0 &&& (7 : Int32)))] [(.int (own_ushr p0 (3 : Int32)))]) _
      refine ld721 _ ?_
      show own_S p e below s₁ (mkF m 23 #[.val (.int p0), .val (.int (p0 &&& (7 : Int32)))] [.int 65535, (.int (own_ushr p0 (3 : Int32)))]) _
      refine XS.iand X0.here hx rfl (hb hby d1_23) rfl ?_
      refine XS.i2c X0.here hx rfl (hb hby d1_24) rfl ?_
      show own_S p e below s₁ (mkF m 25 #[.val (.int p0), .val (.int (p0 &&& (7 : Int32)))] [(.int (((own_ushr p0 (3 : Int32)) &&& (65535 : Int32)).toUInt32.toUInt16.toUInt32.toInt32))]) _
      exact retN X0 hx (t := .char) Bd.returns (by simp) (hb hby d1_25) hr
    · show Q1 Z p0 cs gf h0 n0 _ s₁.heap _
      rw [e0]
      exact ⟨congrArg (fun z => some (Value.int z)) (show _ = own_draw p0 from by unfold own_draw; rw [if_neg hc714]), N0, (Keep.refl h0 [])⟩
    · show CHr Z own_EL s.vm s.heap s₁.vm s₁.heap
      rw [hh, show s₁.heap = h0 from e0]
      exact hC.trans (CHv.at X0 hZ hEL hC.1)
theorem ef_7_0vvvv (m : MethodId) (p1 : Int32) (p2 : Int32) (p3 : Int32) (p4 : Int32) : entryFrame m #[(.int (0 : Int32)), (.int p1), (.int p2), (.int p3), (.int p4)] 5 = mkF m 0 #[.val (.int 0), .val (.int p1), .val (.int p2), .val (.int p3), .val (.int p4)] [] := by first | (simp [entryFrame, mkF, argsToLocals, Value.category]; done) | rfl
theorem d7_0 : decode method_4_code 0 = .ok (.iload_n 0, 1) := by decide +kernel
theorem d7_1 : decode method_4_code 1 = .ok (.ifCond .ne 7, 3) := by decide +kernel
theorem d7_4 : decode method_4_code 4 = .ok (.iconst 0, 1) := by decide +kernel
theorem d7_5 : decode method_4_code 5 = .ok (.newarray .char, 2) := by decide +kernel
theorem d7_7 : decode method_4_code 7 = .ok (.areturn, 1) := by decide +kernel
def Q7_0 (Z : State) (p1 : Int32) (p2 : Int32) (p3 : Int32) (p4 : Int32) (h0 : Heap) (n0 : Nat) (v : Option Value) (h : Heap) (L : List Loc) : Prop := ∃ (r : Addr) (kc : ClassId), v = some (.ref r) ∧ Fr n0 L ∧ Keep h0 h [] ∧ n0 ≤ r ∧ h0.size ≤ r ∧ Arv Z h r kc .char (0 : Int32) [] (.int (0 : Int32))
set_option maxRecDepth 65536 in
set_option maxHeartbeats 40000000 in
theorem rm7_0 (l : Launch) (Z : State) (ag : Array Value) (hw : ∀ d ∈ tables_1, d.before ag Z = true) (ws : List Jvm.Cond) (p1 : Int32) (p2 : Int32) (p3 : Int32) (p4 : Int32) (h0 : Heap) (n0 : Nat) (Z0 : n0 ≤ h0.size) :
    MetFree l (⟨"com/example/citeloom/citeloom/references/FieldTextAfterSeparatorsPinLaw", "make", "(ICCCC)[C"⟩ : MethodName) (head1 (Jvm.Cond.code (⟨"com/example/citeloom/citeloom/references/FieldTextAfterSeparatorsPinLaw", "make", "(ICCCC)[C"⟩ : MethodName) method_4_code 5 (some (.array .char)) :: ws) ({ frames := 0, cells := 1, slots := 4, locals := 0 } : Room)) (fun a U => a = #[(.int (0 : Int32)), (.int p1), (.int p2), (.int p3), (.int p4)] ∧ Z.Warmed39 U.vm ∧ U.heap = h0) (fun _ _ _ _ _ => True) (fun _ U o U' => ∃ v L, o = .returned v ∧ Q7_0 Z p1 p2 p3 p4 h0 n0 v U'.heap L ∧ FrameEnd U o U' L ({ frames := 0, cells := 1, slots := 4, locals := 0 } : Room).cells ({ frames := 0, cells := 1, slots := 4, locals := 0 } : Room).slots) := by
  refine MetFree.of_bodySF (plainFor_of_name pn_1) hisR ?_
  intro p e s m args below meth c s₁ Bd hml0 hP hK
  obtain ⟨rfl, hZ, hh⟩ := hP
  have hx := Bd.exec
  have hby := Bd.bytes
  have hml : c.maxLocals = 5 := hml0
  have hown : s.vm.findClass "com/example/citeloom/citeloom/references/FieldTextAfterSeparatorsPinLaw" = some m.cls := findClass_of_methodNamed Bd.named
  have hnm := (name_of_methodNamed Bd.named Bd.method).1
  have X0 : Stand p l e ({ frames := 0, cells := 1, slots := 4, locals := 0 } : Room) s m #[(.int (0 : Int32)), (.int p1), (.int p2), (.int p3), (.int p4)] below meth c s₁ [] 0 0 := Stand.of_body Bd
  have e0 : s₁.heap = h0 := by rw [← hh, Bd.state]; rfl
  have N0 := Fr.nil n0
  have pre0 : ∀ t, Steps p.tables e below (s₁.setTop (mkF m 0 #[.val (.int 0), .val (.int p1), .val (.int p2), .val (.int p3), .val (.int p4)] [])) t → Steps p.tables e below (s₁.setTop (entryFrame m #[(.int (0 : Int32)), (.int p1), (.int p2), (.int p3), (.int p4)] 5)) t := fun t k => castTop (ef_7_0vvvv m p1 p2 p3 p4) k
  obtain ⟨T722, h722, k722, X722, e722, E722, A722, st722⟩ := newP X0 hx hZ (own_wk hw 41 rfl) e0 (g := (mkF m 5 #[.val (.int 0), .val (.int p1), .val (.int p2), .val (.int p3), .val (.int p4)] [.int 0])) rfl (hb hby d7_5) rfl (by decide) (cap := 0) (by decide) (by decide) (by decide) (by decide)
  obtain ⟨b722, g722⟩ : ∃ z, z = h0.size := ⟨_, rfl⟩
  have ge_b722 : n0 ≤ b722 := Nat.le_trans Z0 (Nat.le_of_eq g722.symm)
  have gs_b722 : h0.size ≤ b722 := Nat.le_trans (Keep.refl h0 []).1 (Nat.le_of_eq g722.symm)
  rw [← g722] at A722 st722
  have sz723 : n0 ≤ h722.size := Nat.le_trans Z0 E722.1
  have kp724 : Keep h0 h722 [] := (Keep.refl h0 []).ext E722
  have V722 : Arv Z h722 b722 k722 .char (0 : Int32) [] (.int (0 : Int32)) := Arv.new A722 (by decide)
  obtain ⟨fs, hr, hrun, hended, hW, hsame⟩ := X722.leave (v := some (.ref b722)) (fun h => by rw [Bd.returns] at h; cases h)
  refine ⟨_, _, pre0 _ ?_, hrun, hended, _, _, rfl, ?_, ⟨_, rfl⟩, hW, hsame.mono (by decide) (by decide)⟩
  · show own_S p e below s₁ (mkF m 0 #[.val (.int 0), .val (.int p1), .val (.int p2), .val (.int p3), .val (.int p4)] []) _
    refine XS.iloadN X0.here hx rfl (hb hby d7_0) rfl ?_
    refine XS.ifNo X0.here hx rfl (hb hby d7_1) rfl ((if0 _ _).trans (teq (by decide : (0 : Int32) = (0 : Int32))).2) ?_
    show own_S p e below s₁ (mkF m 4 #[.val (.int 0), .val (.int p1), .val (.int p2), .val (.int p3), .val (.int p4)] []) _
    refine XS.iconst X0.here hx rfl (hb hby d7_4) ?_
    show own_S p e below s₁ (mkF m 5 #[.val (.int 0), .val (.int p1), .val (.int p2), .val (.int p3), .val (.int p4)] [.int 0]) _
    refine st722 _ ?_
    show own_S p e below T722 (mkF m 7 #[.val (.int 0), .val (.int p1), .val (.int p2), .val (.int p3), .val (.int p4)] [(.ref b722)]) _
    exact Jvm.RoadKit.retOut X722 hx Bd.returns rfl (Or.inr (Or.inr (Or.inr (Or.inr ⟨rfl, rfl, rfl⟩)))) (hb hby d7_7) hr
  · show Q7_0 Z p1 p2 p3 p4 h0 n0 _ T722.heap _
    rw [e722]
    exact ⟨b722, k722, rfl, N0, kp724, ge_b722, gs_b722, V722⟩
theorem ef_7_1vvvv (m : MethodId) (p1 : Int32) (p2 : Int32) (p3 : Int32) (p4 : Int32) : entryFrame m #[(.int (1 : Int32)), (.int p1), (.int p2), (.int p3), (.int p4)] 5 = mkF m 0 #[.val (.int 1), .val (.int p1), .val (.int p2), .val (.int p3), .val (.int p4)] [] := by first | (simp [entryFrame, mkF, argsToLocals, Value.category]; done) | rfl
theorem d7_8 : decode method_4_code 8 = .ok (.iload_n 0, 1) := by decide +kernel
theorem d7_9 : decode method_4_code 9 = .ok (.iconst 1, 1) := by decide +kernel
theorem d7_10 : decode method_4_code 10 = .ok (.if_icmp .ne 11, 3) := by decide +kernel
theorem d7_13 : decode method_4_code 13 = .ok (.iconst 1, 1) := by decide +kernel
theorem d7_14 : decode method_4_code 14 = .ok (.newarray .char, 2) := by decide +kernel
theorem d7_16 : decode method_4_code 16 = .ok (.dup, 1) := by decide +kernel
theorem d7_17 : decode method_4_code 17 = .ok (.iconst 0, 1) := by decide +kernel
theorem d7_18 : decode method_4_code 18 = .ok (.iload_n 1, 1) := by decide +kernel
theorem d7_19 : decode method_4_code 19 = .ok (.castore, 1) := by decide +kernel
theorem d7_20 : decode method_4_code 20 = .ok (.areturn, 1) := by decide +kernel
def Q7_1 (Z : State) (p1 : Int32) (p2 : Int32) (p3 : Int32) (p4 : Int32) (h0 : Heap) (n0 : Nat) (v : Option Value) (h : Heap) (L : List Loc) : Prop := ∃ (r : Addr) (kc : ClassId), v = some (.ref r) ∧ Fr n0 L ∧ Keep h0 h [] ∧ n0 ≤ r ∧ h0.size ≤ r ∧ Arv Z h r kc .char (1 : Int32) [(.int (nar .char p1))] (.int (0 : Int32))
set_option maxRecDepth 65536 in
set_option maxHeartbeats 40000000 in
theorem rm7_1 (l : Launch) (Z : State) (ag : Array Value) (hw : ∀ d ∈ tables_1, d.before ag Z = true) (ws : List Jvm.Cond) (p1 : Int32) (p2 : Int32) (p3 : Int32) (p4 : Int32) (h0 : Heap) (n0 : Nat) (Z0 : n0 ≤ h0.size) :
    MetFree l (⟨"com/example/citeloom/citeloom/references/FieldTextAfterSeparatorsPinLaw", "make", "(ICCCC)[C"⟩ : MethodName) (head1 (Jvm.Cond.code (⟨"com/example/citeloom/citeloom/references/FieldTextAfterSeparatorsPinLaw", "make", "(ICCCC)[C"⟩ : MethodName) method_4_code 5 (some (.array .char)) :: ws) ({ frames := 0, cells := 1, slots := 4, locals := 0 } : Room)) (fun a U => a = #[(.int (1 : Int32)), (.int p1), (.int p2), (.int p3), (.int p4)] ∧ Z.Warmed39 U.vm ∧ U.heap = h0) (fun _ _ _ _ _ => True) (fun _ U o U' => ∃ v L, o = .returned v ∧ Q7_1 Z p1 p2 p3 p4 h0 n0 v U'.heap L ∧ FrameEnd U o U' L ({ frames := 0, cells := 1, slots := 4, locals := 0 } : Room).cells ({ frames := 0, cells := 1, slots := 4, locals := 0 } : Room).slots) := by
  refine MetFree.of_bodySF (plainFor_of_name pn_1) hisR ?_
  intro p e s m args below meth c s₁ Bd hml0 hP hK
  obtain ⟨rfl, hZ, hh⟩ := hP
  have hx := Bd.exec
  have hby := Bd.bytes
  have hml : c.maxLocals = 5 := hml0
  have hown : s.vm.findClass "com/example/citeloom/citeloom/references/FieldTextAfterSeparatorsPinLaw" = some m.cls := findClass_of_methodNamed Bd.named
  have hnm := (name_of_methodNamed Bd.named Bd.method).1
  have X0 : Stand p l e ({ frames := 0, cells := 1, slots := 4, locals := 0 } : Room) s m #[(.int (1 : Int32)), (.int p1), (.int p2), (.int p3), (.int p4)] below meth c s₁ [] 0 0 := Stand.of_body Bd
  have e0 : s₁.heap = h0 := by rw [← hh, Bd.state]; rfl
  have N0 := Fr.nil n0
  have pre0 : ∀ t, Steps p.tables e below (s₁.setTop (mkF m 0 #[.val (.int 1), .val (.int p1), .val (.int p2), .val (.int p3), .val (.int p4)] [])) t → Steps p.tables e below (s₁.setTop (entryFrame m #[(.int (1 : Int32)), (.int p1), (.int p2), (.int p3), (.int p4)] 5)) t := fun t k => castTop (ef_7_1vvvv m p1 p2 p3 p4) k
  obtain ⟨T725, h725, k725, X725, e725, E725, A725, st725⟩ := newP X0 hx hZ (own_wk hw 41 rfl) e0 (g := (mkF m 14 #[.val (.int 1), .val (.int p1), .val (.int p2), .val (.int p3), .val (.int p4)] [.int 1])) rfl (hb hby d7_14) rfl (by decide) (cap := 1) (by decide) (by decide) (by decide) (by decide)
  obtain ⟨b725, g725⟩ : ∃ z, z = h0.size := ⟨_, rfl⟩
  have ge_b725 : n0 ≤ b725 := Nat.le_trans Z0 (Nat.le_of_eq g725.symm)
  have gs_b725 : h0.size ≤ b725 := Nat.le_trans (Keep.refl h0 []).1 (Nat.le_of_eq g725.symm)
  rw [← g725] at A725 st725
  have sz726 : n0 ≤ h725.size := Nat.le_trans Z0 E725.1
  have kp727 : Keep h0 h725 [] := (Keep.refl h0 []).ext E725
  have V725 : Arv Z h725 b725 k725 .char (1 : Int32) [(.int (0 : Int32))] (.int (0 : Int32)) := (Arv.new A725 (by decide)).pad (pad_rep [] (.int (0 : Int32)) 1)
  obtain ⟨cl728, Ar728, q728, S728, M728, H728, G728⟩ := id V725
  have hin728 : ¬ ((0 : Int32) < 0 ∨ cl728.slots.size ≤ ((0 : Int32)).toNatClampNeg) := inb_of S728 ⟨(by decide : ¬ (0 : Int32) < 0), (by decide : (0 : Int32) < (1 : Int32))⟩
  obtain ⟨T728, h728, X728, e728, W728, st728⟩ := stC X725 hx hZ e725 Ar728 (j := (0 : Int32)) hin728 (g := (mkF m 19 #[.val (.int 1), .val (.int p1), .val (.int p2), .val (.int p3), .val (.int p4)] [(.int p1), .int 0, (.ref b725), (.ref b725)])) rfl rfl (hb hby d7_19)
  have V728 : Arv Z h728 b725 k725 .char (1 : Int32) [(.int (nar .char p1))] (.int (0 : Int32)) := Arv.set Ar728 q728 S728 M728 H728 G728 (fits_nar_char _) W728 0 rfl (Nat.le_of_ble_eq_true rfl)
  have sz729 : n0 ≤ h728.size := Nat.le_trans sz726 (Keep.of_wr W728).1
  have kp730 : Keep h0 h728 [] := kp727.wr W728 (Or.inr gs_b725)
  have N728 := Fr.snoc X728 N0 ge_b725
  obtain ⟨fs, hr, hrun, hended, hW, hsame⟩ := X728.leave (v := some (.ref b725)) (fun h => by rw [Bd.returns] at h; cases h)
  refine ⟨_, _, pre0 _ ?_, hrun, hended, _, _, rfl, ?_, ⟨_, rfl⟩, hW, hsame.mono (by decide) (by decide)⟩
  · show own_S p e below s₁ (mkF m 0 #[.val (.int 1), .val (.int p1), .val (.int p2), .val (.int p3), .val (.int p4)] []) _
    refine XS.iloadN X0.here hx rfl (hb hby d7_0) rfl ?_
    refine XS.ifYes X0.here hx rfl (pc0 := 1) (pc' := 8) rfl (hb hby d7_1) rfl ((if0 _ _).trans (feq (by decide : ¬ ((1 : Int32) = (0 : Int32)))).2) (by decide) (by decide) ?_
    show own_S p e below s₁ (mkF m 8 #[.val (.int 1), .val (.int p1), .val (.int p2), .val (.int p3), .val (.int p4)] []) _
    refine XS.iloadN X0.here hx rfl (hb hby d7_8) rfl ?_
    refine XS.iconst X0.here hx rfl (hb hby d7_9) ?_
    refine XS.icmpNo X0.here hx rfl (hb hby d7_10) rfl (teq (by decide : (1 : Int32) = (1 : Int32))).2 ?_
    show own_S p e below s₁ (mkF m 13 #[.val (.int 1), .val (.int p1), .val (.int p2), .val (.int p3), .val (.int p4)] []) _
    refine XS.iconst X0.here hx rfl (hb hby d7_13) ?_
    show own_S p e below s₁ (mkF m 14 #[.val (.int 1), .val (.int p1), .val (.int p2), .val (.int p3), .val (.int p4)] [.int 1]) _
    refine st725 _ ?_
    show own_S p e below T725 (mkF m 16 #[.val (.int 1), .val (.int p1), .val (.int p2), .val (.int p3), .val (.int p4)] [(.ref b725)]) _
    refine XS.dup X725.here hx rfl (hb hby d7_16) rfl rfl ?_
    refine XS.iconst X725.here hx rfl (hb hby d7_17) ?_
    refine XS.iloadN X725.here hx rfl (hb hby d7_18) rfl ?_
    show own_S p e below T725 (mkF m 19 #[.val (.int 1), .val (.int p1), .val (.int p2), .val (.int p3), .val (.int p4)] [(.int p1), .int 0, (.ref b725), (.ref b725)]) _
    refine st728 _ ?_
    show own_S p e below T728 (mkF m 20 #[.val (.int 1), .val (.int p1), .val (.int p2), .val (.int p3), .val (.int p4)] [(.ref b725)]) _
    exact Jvm.RoadKit.retOut X728 hx Bd.returns rfl (Or.inr (Or.inr (Or.inr (Or.inr ⟨rfl, rfl, rfl⟩)))) (hb hby d7_20) hr
  · show Q7_1 Z p1 p2 p3 p4 h0 n0 _ T728.heap _
    rw [e728]
    exact ⟨b725, k725, rfl, N728, kp730, ge_b725, gs_b725, V728⟩
theorem ef_7_2vvvv (m : MethodId) (p1 : Int32) (p2 : Int32) (p3 : Int32) (p4 : Int32) : entryFrame m #[(.int (2 : Int32)), (.int p1), (.int p2), (.int p3), (.int p4)] 5 = mkF m 0 #[.val (.int 2), .val (.int p1), .val (.int p2), .val (.int p3), .val (.int p4)] [] := by first | (simp [entryFrame, mkF, argsToLocals, Value.category]; done) | rfl
theorem d7_21 : decode method_4_code 21 = .ok (.iload_n 0, 1) := by decide +kernel
theorem d7_22 : decode method_4_code 22 = .ok (.iconst 2, 1) := by decide +kernel
theorem d7_23 : decode method_4_code 23 = .ok (.if_icmp .ne 15, 3) := by decide +kernel
theorem d7_26 : decode method_4_code 26 = .ok (.iconst 2, 1) := by decide +kernel
theorem d7_27 : decode method_4_code 27 = .ok (.newarray .char, 2) := by decide +kernel
theorem d7_29 : decode method_4_code 29 = .ok (.dup, 1) := by decide +kernel
theorem d7_30 : decode method_4_code 30 = .ok (.iconst 0, 1) := by decide +kernel
theorem d7_31 : decode method_4_code 31 = .ok (.iload_n 1, 1) := by decide +kernel
theorem d7_32 : decode method_4_code 32 = .ok (.castore, 1) := by decide +kernel
theorem d7_33 : decode method_4_code 33 = .ok (.dup, 1) := by decide +kernel
theorem d7_34 : decode method_4_code 34 = .ok (.iconst 1, 1) := by decide +kernel
theorem d7_35 : decode method_4_code 35 = .ok (.iload_n 2, 1) := by decide +kernel
theorem d7_36 : decode method_4_code 36 = .ok (.castore, 1) := by decide +kernel
theorem d7_37 : decode method_4_code 37 = .ok (.areturn, 1) := by decide +kernel
def Q7_2 (Z : State) (p1 : Int32) (p2 : Int32) (p3 : Int32) (p4 : Int32) (h0 : Heap) (n0 : Nat) (v : Option Value) (h : Heap) (L : List Loc) : Prop := ∃ (r : Addr) (kc : ClassId), v = some (.ref r) ∧ Fr n0 L ∧ Keep h0 h [] ∧ n0 ≤ r ∧ h0.size ≤ r ∧ Arv Z h r kc .char (2 : Int32) [(.int (nar .char p1)), (.int (nar .char p2))] (.int (0 : Int32))
set_option maxRecDepth 65536 in
set_option maxHeartbeats 40000000 in
theorem rm7_2 (l : Launch) (Z : State) (ag : Array Value) (hw : ∀ d ∈ tables_1, d.before ag Z = true) (ws : List Jvm.Cond) (p1 : Int32) (p2 : Int32) (p3 : Int32) (p4 : Int32) (h0 : Heap) (n0 : Nat) (Z0 : n0 ≤ h0.size) :
    MetFree l (⟨"com/example/citeloom/citeloom/references/FieldTextAfterSeparatorsPinLaw", "make", "(ICCCC)[C"⟩ : MethodName) (head1 (Jvm.Cond.code (⟨"com/example/citeloom/citeloom/references/FieldTextAfterSeparatorsPinLaw", "make", "(ICCCC)[C"⟩ : MethodName) method_4_code 5 (some (.array .char)) :: ws) ({ frames := 0, cells := 1, slots := 4, locals := 0 } : Room)) (fun a U => a = #[(.int (2 : Int32)), (.int p1), (.int p2), (.int p3), (.int p4)] ∧ Z.Warmed39 U.vm ∧ U.heap = h0) (fun _ _ _ _ _ => True) (fun _ U o U' => ∃ v L, o = .returned v ∧ Q7_2 Z p1 p2 p3 p4 h0 n0 v U'.heap L ∧ FrameEnd U o U' L ({ frames := 0, cells := 1, slots := 4, locals := 0 } : Room).cells ({ frames := 0, cells := 1, slots := 4, locals := 0 } : Room).slots) := by
  refine MetFree.of_bodySF (plainFor_of_name pn_1) hisR ?_
  intro p e s m args below meth c s₁ Bd hml0 hP hK
  obtain ⟨rfl, hZ, hh⟩ := hP
  have hx := Bd.exec
  have hby := Bd.bytes
  have hml : c.maxLocals = 5 := hml0
  have hown : s.vm.findClass "com/example/citeloom/citeloom/references/FieldTextAfterSeparatorsPinLaw" = some m.cls := findClass_of_methodNamed Bd.named
  have hnm := (name_of_methodNamed Bd.named Bd.method).1
  have X0 : Stand p l e ({ frames := 0, cells := 1, slots := 4, locals := 0 } : Room) s m #[(.int (2 : Int32)), (.int p1), (.int p2), (.int p3), (.int p4)] below meth c s₁ [] 0 0 := Stand.of_body Bd
  have e0 : s₁.heap = h0 := by rw [← hh, Bd.state]; rfl
  have N0 := Fr.nil n0
  have pre0 : ∀ t, Steps p.tables e below (s₁.setTop (mkF m 0 #[.val (.int 2), .val (.int p1), .val (.int p2), .val (.int p3), .val (.int p4)] [])) t → Steps p.tables e below (s₁.setTop (entryFrame m #[(.int (2 : Int32)), (.int p1), (.int p2), (.int p3), (.int p4)] 5)) t := fun t k => castTop (ef_7_2vvvv m p1 p2 p3 p4) k
  obtain ⟨T731, h731, k731, X731, e731, E731, A731, st731⟩ := newP X0 hx hZ (own_wk hw 41 rfl) e0 (g := (mkF m 27 #[.val (.int 2), .val (.int p1), .val (.int p2), .val (.int p3), .val (.int p4)] [.int 2])) rfl (hb hby d7_27) rfl (by decide) (cap := 2) (by decide) (by decide) (by decide) (by decide)
  obtain ⟨b731, g731⟩ : ∃ z, z = h0.size := ⟨_, rfl⟩
  have ge_b731 : n0 ≤ b731 := Nat.le_trans Z0 (Nat.le_of_eq g731.symm)
  have gs_b731 : h0.size ≤ b731 := Nat.le_trans (Keep.refl h0 []).1 (Nat.le_of_eq g731.symm)
  rw [← g731] at A731 st731
  have sz732 : n0 ≤ h731.size := Nat.le_trans Z0 E731.1
  have kp733 : Keep h0 h731 [] := (Keep.refl h0 []).ext E731
  have V731 : Arv Z h731 b731 k731 .char (2 : Int32) [(.int (0 : Int32)), (.int (0 : Int32))] (.int (0 : Int32)) := (Arv.new A731 (by decide)).pad (pad_rep [] (.int (0 : Int32)) 2)
  obtain ⟨cl734, Ar734, q734, S734, M734, H734, G734⟩ := id V731
  have hin734 : ¬ ((0 : Int32) < 0 ∨ cl734.slots.size ≤ ((0 : Int32)).toNatClampNeg) := inb_of S734 ⟨(by decide : ¬ (0 : Int32) < 0), (by decide : (0 : Int32) < (2 : Int32))⟩
  obtain ⟨T734, h734, X734, e734, W734, st734⟩ := stC X731 hx hZ e731 Ar734 (j := (0 : Int32)) hin734 (g := (mkF m 32 #[.val (.int 2), .val (.int p1), .val (.int p2), .val (.int p3), .val (.int p4)] [(.int p1), .int 0, (.ref b731), (.ref b731)])) rfl rfl (hb hby d7_32)
  have V734 : Arv Z h734 b731 k731 .char (2 : Int32) [(.int (nar .char p1)), (.int (0 : Int32))] (.int (0 : Int32)) := Arv.set Ar734 q734 S734 M734 H734 G734 (fits_nar_char _) W734 0 rfl (Nat.le_of_ble_eq_true rfl)
  have sz735 : n0 ≤ h734.size := Nat.le_trans sz732 (Keep.of_wr W734).1
  have kp736 : Keep h0 h734 [] := kp733.wr W734 (Or.inr gs_b731)
  have N734 := Fr.snoc X734 N0 ge_b731
  obtain ⟨cl737, Ar737, q737, S737, M737, H737, G737⟩ := id V734
  have hin737 : ¬ ((1 : Int32) < 0 ∨ cl737.slots.size ≤ ((1 : Int32)).toNatClampNeg) := inb_of S737 ⟨(by decide : ¬ (1 : Int32) < 0), (by decide : (1 : Int32) < (2 : Int32))⟩
  obtain ⟨T737, h737, X737, e737, W737, st737⟩ := stC X734 hx hZ e734 Ar737 (j := (1 : Int32)) hin737 (g := (mkF m 36 #[.val (.int 2), .val (.int p1), .val (.int p2), .val (.int p3), .val (.int p4)] [(.int p2), .int 1, (.ref b731), (.ref b731)])) rfl rfl (hb hby d7_36)
  have V737 : Arv Z h737 b731 k731 .char (2 : Int32) [(.int (nar .char p1)), (.int (nar .char p2))] (.int (0 : Int32)) := Arv.set Ar737 q737 S737 M737 H737 G737 (fits_nar_char _) W737 1 rfl (Nat.le_of_ble_eq_true rfl)
  have sz738 : n0 ≤ h737.size := Nat.le_trans sz735 (Keep.of_wr W737).1
  have kp739 : Keep h0 h737 [] := kp736.wr W737 (Or.inr gs_b731)
  have N737 := Fr.snoc X737 N734 ge_b731
  obtain ⟨fs, hr, hrun, hended, hW, hsame⟩ := X737.leave (v := some (.ref b731)) (fun h => by rw [Bd.returns] at h; cases h)
  refine ⟨_, _, pre0 _ ?_, hrun, hended, _, _, rfl, ?_, ⟨_, rfl⟩, hW, hsame.mono (by decide) (by decide)⟩
  · show own_S p e below s₁ (mkF m 0 #[.val (.int 2), .val (.int p1), .val (.int p2), .val (.int p3), .val (.int p4)] []) _
    refine XS.iloadN X0.here hx rfl (hb hby d7_0) rfl ?_
    refine XS.ifYes X0.here hx rfl (pc0 := 1) (pc' := 8) rfl (hb hby d7_1) rfl ((if0 _ _).trans (feq (by decide : ¬ ((2 : Int32) = (0 : Int32)))).2) (by decide) (by decide) ?_
    show own_S p e below s₁ (mkF m 8 #[.val (.int 2), .val (.int p1), .val (.int p2), .val (.int p3), .val (.int p4)] []) _
    refine XS.iloadN X0.here hx rfl (hb hby d7_8) rfl ?_
    refine XS.iconst X0.here hx rfl (hb hby d7_9) ?_
    refine XS.icmpYes X0.here hx rfl (pc0 := 10) (pc' := 21) rfl (hb hby d7_10) rfl (feq (by decide : ¬ ((2 : Int32) = (1 : Int32)))).2 (by decide) (by decide) ?_
    show own_S p e below s₁ (mkF m 21 #[.val (.int 2), .val (.int p1), .val (.int p2), .val (.int p3), .val (.int p4)] []) _
    refine XS.iloadN X0.here hx rfl (hb hby d7_21) rfl ?_
    refine XS.iconst X0.here hx rfl (hb hby d7_22) ?_
    refine XS.icmpNo X0.here hx rfl (hb hby d7_23) rfl (teq (by decide : (2 : Int32) = (2 : Int32))).2 ?_
    show own_S p e below s₁ (mkF m 26 #[.val (.int 2), .val (.int p1), .val (.int p2), .val (.int p3), .val (.int p4)] []) _
    refine XS.iconst X0.here hx rfl (hb hby d7_26) ?_
    show own_S p e below s₁ (mkF m 27 #[.val (.int 2), .val (.int p1), .val (.int p2), .val (.int p3), .val (.int p4)] [.int 2]) _
    refine st731 _ ?_
    show own_S p e below T731 (mkF m 29 #[.val (.int 2), .val (.int p1), .val (.int p2), .val (.int p3), .val (.int p4)] [(.ref b731)]) _
    refine XS.dup X731.here hx rfl (hb hby d7_29) rfl rfl ?_
    refine XS.iconst X731.here hx rfl (hb hby d7_30) ?_
    refine XS.iloadN X731.here hx rfl (hb hby d7_31) rfl ?_
    show own_S p e below T731 (mkF m 32 #[.val (.int 2), .val (.int p1), .val (.int p2), .val (.int p3), .val (.int p4)] [(.int p1), .int 0, (.ref b731), (.ref b731)]) _
    refine st734 _ ?_
    show own_S p e below T734 (mkF m 33 #[.val (.int 2), .val (.int p1), .val (.int p2), .val (.int p3), .val (.int p4)] [(.ref b731)]) _
    refine XS.dup X734.here hx rfl (hb hby d7_33) rfl rfl ?_
    refine XS.iconst X734.here hx rfl (hb hby d7_34) ?_
    refine XS.iloadN X734.here hx rfl (hb hby d7_35) rfl ?_
    show own_S p e below T734 (mkF m 36 #[.val (.int 2), .val (.int p1), .val (.int p2), .val (.int p3), .val (.int p4)] [(.int p2), .int 1, (.ref b731), (.ref b731)]) _
    refine st737 _ ?_
    show own_S p e below T737 (mkF m 37 #[.val (.int 2), .val (.int p1), .val (.int p2), .val (.int p3), .val (.int p4)] [(.ref b731)]) _
    exact Jvm.RoadKit.retOut X737 hx Bd.returns rfl (Or.inr (Or.inr (Or.inr (Or.inr ⟨rfl, rfl, rfl⟩)))) (hb hby d7_37) hr
  · show Q7_2 Z p1 p2 p3 p4 h0 n0 _ T737.heap _
    rw [e737]
    exact ⟨b731, k731, rfl, N737, kp739, ge_b731, gs_b731, V737⟩
theorem ef_7_3vvvv (m : MethodId) (p1 : Int32) (p2 : Int32) (p3 : Int32) (p4 : Int32) : entryFrame m #[(.int (3 : Int32)), (.int p1), (.int p2), (.int p3), (.int p4)] 5 = mkF m 0 #[.val (.int 3), .val (.int p1), .val (.int p2), .val (.int p3), .val (.int p4)] [] := by first | (simp [entryFrame, mkF, argsToLocals, Value.category]; done) | rfl
theorem d7_38 : decode method_4_code 38 = .ok (.iload_n 0, 1) := by decide +kernel
theorem d7_39 : decode method_4_code 39 = .ok (.iconst 3, 1) := by decide +kernel
theorem d7_40 : decode method_4_code 40 = .ok (.if_icmp .ne 19, 3) := by decide +kernel
theorem d7_43 : decode method_4_code 43 = .ok (.iconst 3, 1) := by decide +kernel
theorem d7_44 : decode method_4_code 44 = .ok (.newarray .char, 2) := by decide +kernel
theorem d7_46 : decode method_4_code 46 = .ok (.dup, 1) := by decide +kernel
theorem d7_47 : decode method_4_code 47 = .ok (.iconst 0, 1) := by decide +kernel
theorem d7_48 : decode method_4_code 48 = .ok (.iload_n 1, 1) := by decide +kernel
theorem d7_49 : decode method_4_code 49 = .ok (.castore, 1) := by decide +kernel
theorem d7_50 : decode method_4_code 50 = .ok (.dup, 1) := by decide +kernel
theorem d7_51 : decode method_4_code 51 = .ok (.iconst 1, 1) := by decide +kernel
theorem d7_52 : decode method_4_code 52 = .ok (.iload_n 2, 1) := by decide +kernel
theorem d7_53 : decode method_4_code 53 = .ok (.castore, 1) := by decide +kernel
theorem d7_54 : decode method_4_code 54 = .ok (.dup, 1) := by decide +kernel
theorem d7_55 : decode method_4_code 55 = .ok (.iconst 2, 1) := by decide +kernel
theorem d7_56 : decode method_4_code 56 = .ok (.iload_n 3, 1) := by decide +kernel
theorem d7_57 : decode method_4_code 57 = .ok (.castore, 1) := by decide +kernel
theorem d7_58 : decode method_4_code 58 = .ok (.areturn, 1) := by decide +kernel
def Q7_3 (Z : State) (p1 : Int32) (p2 : Int32) (p3 : Int32) (p4 : Int32) (h0 : Heap) (n0 : Nat) (v : Option Value) (h : Heap) (L : List Loc) : Prop := ∃ (r : Addr) (kc : ClassId), v = some (.ref r) ∧ Fr n0 L ∧ Keep h0 h [] ∧ n0 ≤ r ∧ h0.size ≤ r ∧ Arv Z h r kc .char (3 : Int32) [(.int (nar .char p1)), (.int (nar .char p2)), (.int (nar .char p3))] (.int (0 : Int32))
set_option maxRecDepth 65536 in
set_option maxHeartbeats 40000000 in
theorem rm7_3 (l : Launch) (Z : State) (ag : Array Value) (hw : ∀ d ∈ tables_1, d.before ag Z = true) (ws : List Jvm.Cond) (p1 : Int32) (p2 : Int32) (p3 : Int32) (p4 : Int32) (h0 : Heap) (n0 : Nat) (Z0 : n0 ≤ h0.size) :
    MetFree l (⟨"com/example/citeloom/citeloom/references/FieldTextAfterSeparatorsPinLaw", "make", "(ICCCC)[C"⟩ : MethodName) (head1 (Jvm.Cond.code (⟨"com/example/citeloom/citeloom/references/FieldTextAfterSeparatorsPinLaw", "make", "(ICCCC)[C"⟩ : MethodName) method_4_code 5 (some (.array .char)) :: ws) ({ frames := 0, cells := 1, slots := 4, locals := 0 } : Room)) (fun a U => a = #[(.int (3 : Int32)), (.int p1), (.int p2), (.int p3), (.int p4)] ∧ Z.Warmed39 U.vm ∧ U.heap = h0) (fun _ _ _ _ _ => True) (fun _ U o U' => ∃ v L, o = .returned v ∧ Q7_3 Z p1 p2 p3 p4 h0 n0 v U'.heap L ∧ FrameEnd U o U' L ({ frames := 0, cells := 1, slots := 4, locals := 0 } : Room).cells ({ frames := 0, cells := 1, slots := 4, locals := 0 } : Room).slots) := by
  refine MetFree.of_bodySF (plainFor_of_name pn_1) hisR ?_
  intro p e s m args below meth c s₁ Bd hml0 hP hK
  obtain ⟨rfl, hZ, hh⟩ := hP
  have hx := Bd.exec
  have hby := Bd.bytes
  have hml : c.maxLocals = 5 := hml0
  have hown : s.vm.findClass "com/example/citeloom/citeloom/references/FieldTextAfterSeparatorsPinLaw" = some m.cls := findClass_of_methodNamed Bd.named
  have hnm := (name_of_methodNamed Bd.named Bd.method).1
  have X0 : Stand p l e ({ frames := 0, cells := 1, slots := 4, locals := 0 } : Room) s m #[(.int (3 : Int32)), (.int p1), (.int p2), (.int p3), (.int p4)] below meth c s₁ [] 0 0 := Stand.of_body Bd
  have e0 : s₁.heap = h0 := by rw [← hh, Bd.state]; rfl
  have N0 := Fr.nil n0
  have pre0 : ∀ t, Steps p.tables e below (s₁.setTop (mkF m 0 #[.val (.int 3), .val (.int p1), .val (.int p2), .val (.int p3), .val (.int p4)] [])) t → Steps p.tables e below (s₁.setTop (entryFrame m #[(.int (3 : Int32)), (.int p1), (.int p2), (.int p3), (.int p4)] 5)) t := fun t k => castTop (ef_7_3vvvv m p1 p2 p3 p4) k
  obtain ⟨T740, h740, k740, X740, e740, E740, A740, st740⟩ := newP X0 hx hZ (own_wk hw 41 rfl) e0 (g := (mkF m 44 #[.val (.int 3), .val (.int p1), .val (.int p2), .val (.int p3), .val (.int p4)] [.int 3])) rfl (hb hby d7_44) rfl (by decide) (cap := 3) (by decide) (by decide) (by decide) (by decide)
  obtain ⟨b740, g740⟩ : ∃ z, z = h0.size := ⟨_, rfl⟩
  have ge_b740 : n0 ≤ b740 := Nat.le_trans Z0 (Nat.le_of_eq g740.symm)
  have gs_b740 : h0.size ≤ b740 := Nat.le_trans (Keep.refl h0 []).1 (Nat.le_of_eq g740.symm)
  rw [← g740] at A740 st740
  have sz741 : n0 ≤ h740.size := Nat.le_trans Z0 E740.1
  have kp742 : Keep h0 h740 [] := (Keep.refl h0 []).ext E740
  have V740 : Arv Z h740 b740 k740 .char (3 : Int32) [(.int (0 : Int32)), (.int (0 : Int32)), (.int (0 : Int32))] (.int (0 : Int32)) := (Arv.new A740 (by decide)).pad (pad_rep [] (.int (0 : Int32)) 3)
  obtain ⟨cl743, Ar743, q743, S743, M743, H743, G743⟩ := id V740
  have hin743 : ¬ ((0 : Int32) < 0 ∨ cl743.slots.size ≤ ((0 : Int32)).toNatClampNeg) := inb_of S743 ⟨(by decide : ¬ (0 : Int32) < 0), (by decide : (0 : Int32) < (3 : Int32))⟩
  obtain ⟨T743, h743, X743, e743, W743, st743⟩ := stC X740 hx hZ e740 Ar743 (j := (0 : Int32)) hin743 (g := (mkF m 49 #[.val (.int 3), .val (.int p1), .val (.int p2), .val (.int p3), .val (.int p4)] [(.int p1), .int 0, (.ref b740), (.ref b740)])) rfl rfl (hb hby d7_49)
  have V743 : Arv Z h743 b740 k740 .char (3 : Int32) [(.int (nar .char p1)), (.int (0 : Int32)), (.int (0 : Int32))] (.int (0 : Int32)) := Arv.set Ar743 q743 S743 M743 H743 G743 (fits_nar_char _) W743 0 rfl (Nat.le_of_ble_eq_true rfl)
  have sz744 : n0 ≤ h743.size := Nat.le_trans sz741 (Keep.of_wr W743).1
  have kp745 : Keep h0 h743 [] := kp742.wr W743 (Or.inr gs_b740)
  have N743 := Fr.snoc X743 N0 ge_b740
  obtain ⟨cl746, Ar746, q746, S746, M746, H746, G746⟩ := id V743
  have hin746 : ¬ ((1 : Int32) < 0 ∨ cl746.slots.size ≤ ((1 : Int32)).toNatClampNeg) := inb_of S746 ⟨(by decide : ¬ (1 : Int32) < 0), (by decide : (1 : Int32) < (3 : Int32))⟩
  obtain ⟨T746, h746, X746, e746, W746, st746⟩ := stC X743 hx hZ e743 Ar746 (j := (1 : Int32)) hin746 (g := (mkF m 53 #[.val (.int 3), .val (.int p1), .val (.int p2), .val (.int p3), .val (.int p4)] [(.int p2), .int 1, (.ref b740), (.ref b740)])) rfl rfl (hb hby d7_53)
  have V746 : Arv Z h746 b740 k740 .char (3 : Int32) [(.int (nar .char p1)), (.int (nar .char p2)), (.int (0 : Int32))] (.int (0 : Int32)) := Arv.set Ar746 q746 S746 M746 H746 G746 (fits_nar_char _) W746 1 rfl (Nat.le_of_ble_eq_true rfl)
  have sz747 : n0 ≤ h746.size := Nat.le_trans sz744 (Keep.of_wr W746).1
  have kp748 : Keep h0 h746 [] := kp745.wr W746 (Or.inr gs_b740)
  have N746 := Fr.snoc X746 N743 ge_b740
  obtain ⟨cl749, Ar749, q749, S749, M749, H749, G749⟩ := id V746
  have hin749 : ¬ ((2 : Int32) < 0 ∨ cl749.slots.size ≤ ((2 : Int32)).toNatClampNeg) := inb_of S749 ⟨(by decide : ¬ (2 : Int32) < 0), (by decide : (2 : Int32) < (3 : Int32))⟩
  obtain ⟨T749, h749, X749, e749, W749, st749⟩ := stC X746 hx hZ e746 Ar749 (j := (2 : Int32)) hin749 (g := (mkF m 57 #[.val (.int 3), .val (.int p1), .val (.int p2), .val (.int p3), .val (.int p4)] [(.int p3), .int 2, (.ref b740), (.ref b740)])) rfl rfl (hb hby d7_57)
  have V749 : Arv Z h749 b740 k740 .char (3 : Int32) [(.int (nar .char p1)), (.int (nar .char p2)), (.int (nar .char p3))] (.int (0 : Int32)) := Arv.set Ar749 q749 S749 M749 H749 G749 (fits_nar_char _) W749 2 rfl (Nat.le_of_ble_eq_true rfl)
  have sz750 : n0 ≤ h749.size := Nat.le_trans sz747 (Keep.of_wr W749).1
  have kp751 : Keep h0 h749 [] := kp748.wr W749 (Or.inr gs_b740)
  have N749 := Fr.snoc X749 N746 ge_b740
  obtain ⟨fs, hr, hrun, hended, hW, hsame⟩ := X749.leave (v := some (.ref b740)) (fun h => by rw [Bd.returns] at h; cases h)
  refine ⟨_, _, pre0 _ ?_, hrun, hended, _, _, rfl, ?_, ⟨_, rfl⟩, hW, hsame.mono (by decide) (by decide)⟩
  · show own_S p e below s₁ (mkF m 0 #[.val (.int 3), .val (.int p1), .val (.int p2), .val (.int p3), .val (.int p4)] []) _
    refine XS.iloadN X0.here hx rfl (hb hby d7_0) rfl ?_
    refine XS.ifYes X0.here hx rfl (pc0 := 1) (pc' := 8) rfl (hb hby d7_1) rfl ((if0 _ _).trans (feq (by decide : ¬ ((3 : Int32) = (0 : Int32)))).2) (by decide) (by decide) ?_
    show own_S p e below s₁ (mkF m 8 #[.val (.int 3), .val (.int p1), .val (.int p2), .val (.int p3), .val (.int p4)] []) _
    refine XS.iloadN X0.here hx rfl (hb hby d7_8) rfl ?_
    refine XS.iconst X0.here hx rfl (hb hby d7_9) ?_
    refine XS.icmpYes X0.here hx rfl (pc0 := 10) (pc' := 21) rfl (hb hby d7_10) rfl (feq (by decide : ¬ ((3 : Int32) = (1 : Int32)))).2 (by decide) (by decide) ?_
    show own_S p e below s₁ (mkF m 21 #[.val (.int 3), .val (.int p1), .val (.int p2), .val (.int p3), .val (.int p4)] []) _
    refine XS.iloadN X0.here hx rfl (hb hby d7_21) rfl ?_
    refine XS.iconst X0.here hx rfl (hb hby d7_22) ?_
    refine XS.icmpYes X0.here hx rfl (pc0 := 23) (pc' := 38) rfl (hb hby d7_23) rfl (feq (by decide : ¬ ((3 : Int32) = (2 : Int32)))).2 (by decide) (by decide) ?_
    show own_S p e below s₁ (mkF m 38 #[.val (.int 3), .val (.int p1), .val (.int p2), .val (.int p3), .val (.int p4)] []) _
    refine XS.iloadN X0.here hx rfl (hb hby d7_38) rfl ?_
    refine XS.iconst X0.here hx rfl (hb hby d7_39) ?_
    refine XS.icmpNo X0.here hx rfl (hb hby d7_40) rfl (teq (by decide : (3 : Int32) = (3 : Int32))).2 ?_
    show own_S p e below s₁ (mkF m 43 #[.val (.int 3), .val (.int p1), .val (.int p2), .val (.int p3), .val (.int p4)] []) _
    refine XS.iconst X0.here hx rfl (hb hby d7_43) ?_
    show own_S p e below s₁ (mkF m 44 #[.val (.int 3), .val (.int p1), .val (.int p2), .val (.int p3), .val (.int p4)] [.int 3]) _
    refine st740 _ ?_
    show own_S p e below T740 (mkF m 46 #[.val (.int 3), .val (.int p1), .val (.int p2), .val (.int p3), .val (.int p4)] [(.ref b740)]) _
    refine XS.dup X740.here hx rfl (hb hby d7_46) rfl rfl ?_
    refine XS.iconst X740.here hx rfl (hb hby d7_47) ?_
    refine XS.iloadN X740.here hx rfl (hb hby d7_48) rfl ?_
    show own_S p e below T740 (mkF m 49 #[.val (.int 3), .val (.int p1), .val (.int p2), .val (.int p3), .val (.int p4)] [(.int p1), .int 0, (.ref b740), (.ref b740)]) _
    refine st743 _ ?_
    show own_S p e below T743 (mkF m 50 #[.val (.int 3), .val (.int p1), .val (.int p2), .val (.int p3), .val (.int p4)] [(.ref b740)]) _
    refine XS.dup X743.here hx rfl (hb hby d7_50) rfl rfl ?_
    refine XS.iconst X743.here hx rfl (hb hby d7_51) ?_
    refine XS.iloadN X743.here hx rfl (hb hby d7_52) rfl ?_
    show own_S p e below T743 (mkF m 53 #[.val (.int 3), .val (.int p1), .val (.int p2), .val (.int p3), .val (.int p4)] [(.int p2), .int 1, (.ref b740), (.ref b740)]) _
    refine st746 _ ?_
    show own_S p e below T746 (mkF m 54 #[.val (.int 3), .val (.int p1), .val (.int p2), .val (.int p3), .val (.int p4)] [(.ref b740)]) _
    refine XS.dup X746.here hx rfl (hb hby d7_54) rfl rfl ?_
    refine XS.iconst X746.here hx rfl (hb hby d7_55) ?_
    refine XS.iloadN X746.here hx rfl (hb hby d7_56) rfl ?_
    show own_S p e below T746 (mkF m 57 #[.val (.int 3), .val (.int p1), .val (.int p2), .val (.int p3), .val (.int p4)] [(.int p3), .int 2, (.ref b740), (.ref b740)]) _
    refine st749 _ ?_
    show own_S p e below T749 (mkF m 58 #[.val (.int 3), .val (.int p1), .val (.int p2), .val (.int p3), .val (.int p4)] [(.ref b740)]) _
    exact Jvm.RoadKit.retOut X749 hx Bd.returns rfl (Or.inr (Or.inr (Or.inr (Or.inr ⟨rfl, rfl, rfl⟩)))) (hb hby d7_58) hr
  · show Q7_3 Z p1 p2 p3 p4 h0 n0 _ T749.heap _
    rw [e749]
    exact ⟨b740, k740, rfl, N749, kp751, ge_b740, gs_b740, V749⟩
theorem ef_7_4vvvv (m : MethodId) (p1 : Int32) (p2 : Int32) (p3 : Int32) (p4 : Int32) : entryFrame m #[(.int (4 : Int32)), (.int p1), (.int p2), (.int p3), (.int p4)] 5 = mkF m 0 #[.val (.int 4), .val (.int p1), .val (.int p2), .val (.int p3), .val (.int p4)] [] := by first | (simp [entryFrame, mkF, argsToLocals, Value.category]; done) | rfl
theorem d7_59 : decode method_4_code 59 = .ok (.iconst 4, 1) := by decide +kernel
theorem d7_60 : decode method_4_code 60 = .ok (.newarray .char, 2) := by decide +kernel
theorem d7_62 : decode method_4_code 62 = .ok (.dup, 1) := by decide +kernel
theorem d7_63 : decode method_4_code 63 = .ok (.iconst 0, 1) := by decide +kernel
theorem d7_64 : decode method_4_code 64 = .ok (.iload_n 1, 1) := by decide +kernel
theorem d7_65 : decode method_4_code 65 = .ok (.castore, 1) := by decide +kernel
theorem d7_66 : decode method_4_code 66 = .ok (.dup, 1) := by decide +kernel
theorem d7_67 : decode method_4_code 67 = .ok (.iconst 1, 1) := by decide +kernel
theorem d7_68 : decode method_4_code 68 = .ok (.iload_n 2, 1) := by decide +kernel
theorem d7_69 : decode method_4_code 69 = .ok (.castore, 1) := by decide +kernel
theorem d7_70 : decode method_4_code 70 = .ok (.dup, 1) := by decide +kernel
theorem d7_71 : decode method_4_code 71 = .ok (.iconst 2, 1) := by decide +kernel
theorem d7_72 : decode method_4_code 72 = .ok (.iload_n 3, 1) := by decide +kernel
theorem d7_73 : decode method_4_code 73 = .ok (.castore, 1) := by decide +kernel
theorem d7_74 : decode method_4_code 74 = .ok (.dup, 1) := by decide +kernel
theorem d7_75 : decode method_4_code 75 = .ok (.iconst 3, 1) := by decide +kernel
theorem d7_76 : decode method_4_code 76 = .ok (.iload 4, 2) := by decide +kernel
theorem d7_78 : decode method_4_code 78 = .ok (.castore, 1) := by decide +kernel
theorem d7_79 : decode method_4_code 79 = .ok (.areturn, 1) := by decide +kernel
def Q7_4 (Z : State) (p1 : Int32) (p2 : Int32) (p3 : Int32) (p4 : Int32) (h0 : Heap) (n0 : Nat) (v : Option Value) (h : Heap) (L : List Loc) : Prop := ∃ (r : Addr) (kc : ClassId), v = some (.ref r) ∧ Fr n0 L ∧ Keep h0 h [] ∧ n0 ≤ r ∧ h0.size ≤ r ∧ Arv Z h r kc .char (4 : Int32) [(.int (nar .char p1)), (.int (nar .char p2)), (.int (nar .char p3)), (.int (nar .char p4))] (.int (0 : Int32))
set_option maxRecDepth 65536 in
set_option maxHeartbeats 40000000 in
theorem rm7_4 (l : Launch) (Z : State) (ag : Array Value) (hw : ∀ d ∈ tables_1, d.before ag Z = true) (ws : List Jvm.Cond) (p1 : Int32) (p2 : Int32) (p3 : Int32) (p4 : Int32) (h0 : Heap) (n0 : Nat) (Z0 : n0 ≤ h0.size) :
    MetFree l (⟨"com/example/citeloom/citeloom/references/FieldTextAfterSeparatorsPinLaw", "make", "(ICCCC)[C"⟩ : MethodName) (head1 (Jvm.Cond.code (⟨"com/example/citeloom/citeloom/references/FieldTextAfterSeparatorsPinLaw", "make", "(ICCCC)[C"⟩ : MethodName) method_4_code 5 (some (.array .char)) :: ws) ({ frames := 0, cells := 1, slots := 4, locals := 0 } : Room)) (fun a U => a = #[(.int (4 : Int32)), (.int p1), (.int p2), (.int p3), (.int p4)] ∧ Z.Warmed39 U.vm ∧ U.heap = h0) (fun _ _ _ _ _ => True) (fun _ U o U' => ∃ v L, o = .returned v ∧ Q7_4 Z p1 p2 p3 p4 h0 n0 v U'.heap L ∧ FrameEnd U o U' L ({ frames := 0, cells := 1, slots := 4, locals := 0 } : Room).cells ({ frames := 0, cells := 1, slots := 4, locals := 0 } : Room).slots) := by
  refine MetFree.of_bodySF (plainFor_of_name pn_1) hisR ?_
  intro p e s m args below meth c s₁ Bd hml0 hP hK
  obtain ⟨rfl, hZ, hh⟩ := hP
  have hx := Bd.exec
  have hby := Bd.bytes
  have hml : c.maxLocals = 5 := hml0
  have hown : s.vm.findClass "com/example/citeloom/citeloom/references/FieldTextAfterSeparatorsPinLaw" = some m.cls := findClass_of_methodNamed Bd.named
  have hnm := (name_of_methodNamed Bd.named Bd.method).1
  have X0 : Stand p l e ({ frames := 0, cells := 1, slots := 4, locals := 0 } : Room) s m #[(.int (4 : Int32)), (.int p1), (.int p2), (.int p3), (.int p4)] below meth c s₁ [] 0 0 := Stand.of_body Bd
  have e0 : s₁.heap = h0 := by rw [← hh, Bd.state]; rfl
  have N0 := Fr.nil n0
  have pre0 : ∀ t, Steps p.tables e below (s₁.setTop (mkF m 0 #[.val (.int 4), .val (.int p1), .val (.int p2), .val (.int p3), .val (.int p4)] [])) t → Steps p.tables e below (s₁.setTop (entryFrame m #[(.int (4 : Int32)), (.int p1), (.int p2), (.int p3), (.int p4)] 5)) t := fun t k => castTop (ef_7_4vvvv m p1 p2 p3 p4) k
  obtain ⟨T752, h752, k752, X752, e752, E752, A752, st752⟩ := newP X0 hx hZ (own_wk hw 41 rfl) e0 (g := (mkF m 60 #[.val (.int 4), .val (.int p1), .val (.int p2), .val (.int p3), .val (.int p4)] [.int 4])) rfl (hb hby d7_60) rfl (by decide) (cap := 4) (by decide) (by decide) (by decide) (by decide)
  obtain ⟨b752, g752⟩ : ∃ z, z = h0.size := ⟨_, rfl⟩
  have ge_b752 : n0 ≤ b752 := Nat.le_trans Z0 (Nat.le_of_eq g752.symm)
  have gs_b752 : h0.size ≤ b752 := Nat.le_trans (Keep.refl h0 []).1 (Nat.le_of_eq g752.symm)
  rw [← g752] at A752 st752
  have sz753 : n0 ≤ h752.size := Nat.le_trans Z0 E752.1
  have kp754 : Keep h0 h752 [] := (Keep.refl h0 []).ext E752
  have V752 : Arv Z h752 b752 k752 .char (4 : Int32) [(.int (0 : Int32)), (.int (0 : Int32)), (.int (0 : Int32)), (.int (0 : Int32))] (.int (0 : Int32)) := (Arv.new A752 (by decide)).pad (pad_rep [] (.int (0 : Int32)) 4)
  obtain ⟨cl755, Ar755, q755, S755, M755, H755, G755⟩ := id V752
  have hin755 : ¬ ((0 : Int32) < 0 ∨ cl755.slots.size ≤ ((0 : Int32)).toNatClampNeg) := inb_of S755 ⟨(by decide : ¬ (0 : Int32) < 0), (by decide : (0 : Int32) < (4 : Int32))⟩
  obtain ⟨T755, h755, X755, e755, W755, st755⟩ := stC X752 hx hZ e752 Ar755 (j := (0 : Int32)) hin755 (g := (mkF m 65 #[.val (.int 4), .val (.int p1), .val (.int p2), .val (.int p3), .val (.int p4)] [(.int p1), .int 0, (.ref b752), (.ref b752)])) rfl rfl (hb hby d7_65)
  have V755 : Arv Z h755 b752 k752 .char (4 : Int32) [(.int (nar .char p1)), (.int (0 : Int32)), (.int (0 : Int32)), (.int (0 : Int32))] (.int (0 : Int32)) := Arv.set Ar755 q755 S755 M755 H755 G755 (fits_nar_char _) W755 0 rfl (Nat.le_of_ble_eq_true rfl)
  have sz756 : n0 ≤ h755.size := Nat.le_trans sz753 (Keep.of_wr W755).1
  have kp757 : Keep h0 h755 [] := kp754.wr W755 (Or.inr gs_b752)
  have N755 := Fr.snoc X755 N0 ge_b752
  obtain ⟨cl758, Ar758, q758, S758, M758, H758, G758⟩ := id V755
  have hin758 : ¬ ((1 : Int32) < 0 ∨ cl758.slots.size ≤ ((1 : Int32)).toNatClampNeg) := inb_of S758 ⟨(by decide : ¬ (1 : Int32) < 0), (by decide : (1 : Int32) < (4 : Int32))⟩
  obtain ⟨T758, h758, X758, e758, W758, st758⟩ := stC X755 hx hZ e755 Ar758 (j := (1 : Int32)) hin758 (g := (mkF m 69 #[.val (.int 4), .val (.int p1), .val (.int p2), .val (.int p3), .val (.int p4)] [(.int p2), .int 1, (.ref b752), (.ref b752)])) rfl rfl (hb hby d7_69)
  have V758 : Arv Z h758 b752 k752 .char (4 : Int32) [(.int (nar .char p1)), (.int (nar .char p2)), (.int (0 : Int32)), (.int (0 : Int32))] (.int (0 : Int32)) := Arv.set Ar758 q758 S758 M758 H758 G758 (fits_nar_char _) W758 1 rfl (Nat.le_of_ble_eq_true rfl)
  have sz759 : n0 ≤ h758.size := Nat.le_trans sz756 (Keep.of_wr W758).1
  have kp760 : Keep h0 h758 [] := kp757.wr W758 (Or.inr gs_b752)
  have N758 := Fr.snoc X758 N755 ge_b752
  obtain ⟨cl761, Ar761, q761, S761, M761, H761, G761⟩ := id V758
  have hin761 : ¬ ((2 : Int32) < 0 ∨ cl761.slots.size ≤ ((2 : Int32)).toNatClampNeg) := inb_of S761 ⟨(by decide : ¬ (2 : Int32) < 0), (by decide : (2 : Int32) < (4 : Int32))⟩
  obtain ⟨T761, h761, X761, e761, W761, st761⟩ := stC X758 hx hZ e758 Ar761 (j := (2 : Int32)) hin761 (g := (mkF m 73 #[.val (.int 4), .val (.int p1), .val (.int p2), .val (.int p3), .val (.int p4)] [(.int p3), .int 2, (.ref b752), (.ref b752)])) rfl rfl (hb hby d7_73)
  have V761 : Arv Z h761 b752 k752 .char (4 : Int32) [(.int (nar .char p1)), (.int (nar .char p2)), (.int (nar .char p3)), (.int (0 : Int32))] (.int (0 : Int32)) := Arv.set Ar761 q761 S761 M761 H761 G761 (fits_nar_char _) W761 2 rfl (Nat.le_of_ble_eq_true rfl)
  have sz762 : n0 ≤ h761.size := Nat.le_trans sz759 (Keep.of_wr W761).1
  have kp763 : Keep h0 h761 [] := kp760.wr W761 (Or.inr gs_b752)
  have N761 := Fr.snoc X761 N758 ge_b752
  obtain ⟨cl764, Ar764, q764, S764, M764, H764, G764⟩ := id V761
  have hin764 : ¬ ((3 : Int32) < 0 ∨ cl764.slots.size ≤ ((3 : Int32)).toNatClampNeg) := inb_of S764 ⟨(by decide : ¬ (3 : Int32) < 0), (by decide : (3 : Int32) < (4 : Int32))⟩
  obtain ⟨T764, h764, X764, e764, W764, st764⟩ := stC X761 hx hZ e761 Ar764 (j := (3 : Int32)) hin764 (g := (mkF m 78 #[.val (.int 4), .val (.int p1), .val (.int p2), .val (.int p3), .val (.int p4)] [(.int p4), .int 3, (.ref b752), (.ref b752)])) rfl rfl (hb hby d7_78)
  have V764 : Arv Z h764 b752 k752 .char (4 : Int32) [(.int (nar .char p1)), (.int (nar .char p2)), (.int (nar .char p3)), (.int (nar .char p4))] (.int (0 : Int32)) := Arv.set Ar764 q764 S764 M764 H764 G764 (fits_nar_char _) W764 3 rfl (Nat.le_of_ble_eq_true rfl)
  have sz765 : n0 ≤ h764.size := Nat.le_trans sz762 (Keep.of_wr W764).1
  have kp766 : Keep h0 h764 [] := kp763.wr W764 (Or.inr gs_b752)
  have N764 := Fr.snoc X764 N761 ge_b752
  obtain ⟨fs, hr, hrun, hended, hW, hsame⟩ := X764.leave (v := some (.ref b752)) (fun h => by rw [Bd.returns] at h; cases h)
  refine ⟨_, _, pre0 _ ?_, hrun, hended, _, _, rfl, ?_, ⟨_, rfl⟩, hW, hsame.mono (by decide) (by decide)⟩
  · show own_S p e below s₁ (mkF m 0 #[.val (.int 4), .val (.int p1), .val (.int p2), .val (.int p3), .val (.int p4)] []) _
    refine XS.iloadN X0.here hx rfl (hb hby d7_0) rfl ?_
    refine XS.ifYes X0.here hx rfl (pc0 := 1) (pc' := 8) rfl (hb hby d7_1) rfl ((if0 _ _).trans (feq (by decide : ¬ ((4 : Int32) = (0 : Int32)))).2) (by decide) (by decide) ?_
    show own_S p e below s₁ (mkF m 8 #[.val (.int 4), .val (.int p1), .val (.int p2), .val (.int p3), .val (.int p4)] []) _
    refine XS.iloadN X0.here hx rfl (hb hby d7_8) rfl ?_
    refine XS.iconst X0.here hx rfl (hb hby d7_9) ?_
    refine XS.icmpYes X0.here hx rfl (pc0 := 10) (pc' := 21) rfl (hb hby d7_10) rfl (feq (by decide : ¬ ((4 : Int32) = (1 : Int32)))).2 (by decide) (by decide) ?_
    show own_S p e below s₁ (mkF m 21 #[.val (.int 4), .val (.int p1), .val (.int p2), .val (.int p3), .val (.int p4)] []) _
    refine XS.iloadN X0.here hx rfl (hb hby d7_21) rfl ?_
    refine XS.iconst X0.here hx rfl (hb hby d7_22) ?_
    refine XS.icmpYes X0.here hx rfl (pc0 := 23) (pc' := 38) rfl (hb hby d7_23) rfl (feq (by decide : ¬ ((4 : Int32) = (2 : Int32)))).2 (by decide) (by decide) ?_
    show own_S p e below s₁ (mkF m 38 #[.val (.int 4), .val (.int p1), .val (.int p2), .val (.int p3), .val (.int p4)] []) _
    refine XS.iloadN X0.here hx rfl (hb hby d7_38) rfl ?_
    refine XS.iconst X0.here hx rfl (hb hby d7_39) ?_
    refine XS.icmpYes X0.here hx rfl (pc0 := 40) (pc' := 59) rfl (hb hby d7_40) rfl (feq (by decide : ¬ ((4 : Int32) = (3 : Int32)))).2 (by decide) (by decide) ?_
    show own_S p e below s₁ (mkF m 59 #[.val (.int 4), .val (.int p1), .val (.int p2), .val (.int p3), .val (.int p4)] []) _
    refine XS.iconst X0.here hx rfl (hb hby d7_59) ?_
    show own_S p e below s₁ (mkF m 60 #[.val (.int 4), .val (.int p1), .val (.int p2), .val (.int p3), .val (.int p4)] [.int 4]) _
    refine st752 _ ?_
    show own_S p e below T752 (mkF m 62 #[.val (.int 4), .val (.int p1), .val (.int p2), .val (.int p3), .val (.int p4)] [(.ref b752)]) _
    refine XS.dup X752.here hx rfl (hb hby d7_62) rfl rfl ?_
    refine XS.iconst X752.here hx rfl (hb hby d7_63) ?_
    refine XS.iloadN X752.here hx rfl (hb hby d7_64) rfl ?_
    show own_S p e below T752 (mkF m 65 #[.val (.int 4), .val (.int p1), .val (.int p2), .val (.int p3), .val (.int p4)] [(.int p1), .int 0, (.ref b752), (.ref b752)]) _
    refine st755 _ ?_
    show own_S p e below T755 (mkF m 66 #[.val (.int 4), .val (.int p1), .val (.int p2), .val (.int p3), .val (.int p4)] [(.ref b752)]) _
    refine XS.dup X755.here hx rfl (hb hby d7_66) rfl rfl ?_
    refine XS.iconst X755.here hx rfl (hb hby d7_67) ?_
    refine XS.iloadN X755.here hx rfl (hb hby d7_68) rfl ?_
    show own_S p e below T755 (mkF m 69 #[.val (.int 4), .val (.int p1), .val (.int p2), .val (.int p3), .val (.int p4)] [(.int p2), .int 1, (.ref b752), (.ref b752)]) _
    refine st758 _ ?_
    show own_S p e below T758 (mkF m 70 #[.val (.int 4), .val (.int p1), .val (.int p2), .val (.int p3), .val (.int p4)] [(.ref b752)]) _
    refine XS.dup X758.here hx rfl (hb hby d7_70) rfl rfl ?_
    refine XS.iconst X758.here hx rfl (hb hby d7_71) ?_
    refine XS.iloadN X758.here hx rfl (hb hby d7_72) rfl ?_
    show own_S p e below T758 (mkF m 73 #[.val (.int 4), .val (.int p1), .val (.int p2), .val (.int p3), .val (.int p4)] [(.int p3), .int 2, (.ref b752), (.ref b752)]) _
    refine st761 _ ?_
    show own_S p e below T761 (mkF m 74 #[.val (.int 4), .val (.int p1), .val (.int p2), .val (.int p3), .val (.int p4)] [(.ref b752)]) _
    refine XS.dup X761.here hx rfl (hb hby d7_74) rfl rfl ?_
    refine XS.iconst X761.here hx rfl (hb hby d7_75) ?_
    refine XS.iload X761.here hx rfl (hb hby d7_76) rfl ?_
    show own_S p e below T761 (mkF m 78 #[.val (.int 4), .val (.int p1), .val (.int p2), .val (.int p3), .val (.int p4)] [(.int p4), .int 3, (.ref b752), (.ref b752)]) _
    refine st764 _ ?_
    show own_S p e below T764 (mkF m 79 #[.val (.int 4), .val (.int p1), .val (.int p2), .val (.int p3), .val (.int p4)] [(.ref b752)]) _
    exact Jvm.RoadKit.retOut X764 hx Bd.returns rfl (Or.inr (Or.inr (Or.inr (Or.inr ⟨rfl, rfl, rfl⟩)))) (hb hby d7_79) hr
  · show Q7_4 Z p1 p2 p3 p4 h0 n0 _ T764.heap _
    rw [e764]
    exact ⟨b752, k752, rfl, N764, kp766, ge_b752, gs_b752, V764⟩
def own_Qm (n : Int32) (vs : List Value) (Z : State) (h0 : Heap) (n0 : Nat) (v : Option Value) (h : Heap) (L : List Loc) : Prop := ∃ (r : Addr) (kc : ClassId), v = some (.ref r) ∧ Fr n0 L ∧ Keep h0 h [] ∧ n0 ≤ r ∧ h0.size ≤ r ∧ Arv Z h r kc .char n vs (.int (0 : Int32))
theorem rm7 (l : Launch) (Z : State) (ag : Array Value) (hw : ∀ d ∈ tables_1, d.before ag Z = true) (ws : List Jvm.Cond) (p0 p1 p2 p3 p4 : Int32) (h0 : Heap) (n0 : Nat) (Z0 : n0 ≤ h0.size) (hn : own_n5 p0) :
    MetFree l (⟨"com/example/citeloom/citeloom/references/FieldTextAfterSeparatorsPinLaw", "make", "(ICCCC)[C"⟩ : MethodName) (head1 (Jvm.Cond.code (⟨"com/example/citeloom/citeloom/references/FieldTextAfterSeparatorsPinLaw", "make", "(ICCCC)[C"⟩ : MethodName) method_4_code 5 (some (.array .char)) :: ws) ({ frames := 0, cells := 1, slots := 4, locals := 0 } : Room)) (fun a U => a = #[(.int p0), (.int p1), (.int p2), (.int p3), (.int p4)] ∧ Z.Warmed39 U.vm ∧ U.heap = h0) (fun _ _ _ _ _ => True) (fun _ U o U' => ∃ v L, o = .returned v ∧ own_Qm p0 (own_mv p0 (nar .char p1) (nar .char p2) (nar .char p3) (nar .char p4)) Z h0 n0 v U'.heap L ∧ FrameEnd U o U' L ({ frames := 0, cells := 1, slots := 4, locals := 0 } : Room).cells ({ frames := 0, cells := 1, slots := 4, locals := 0 } : Room).slots) := by
  rcases hn with rfl | rfl | rfl | rfl | rfl
  · rw [own_mv_0]; exact rm7_0 l Z ag hw ws p1 p2 p3 p4 h0 n0 Z0
  · rw [own_mv_1]; exact rm7_1 l Z ag hw ws p1 p2 p3 p4 h0 n0 Z0
  · rw [own_mv_2]; exact rm7_2 l Z ag hw ws p1 p2 p3 p4 h0 n0 Z0
  · rw [own_mv_3]; exact rm7_3 l Z ag hw ws p1 p2 p3 p4 h0 n0 Z0
  · rw [own_mv_4]; exact rm7_4 l Z ag hw ws p1 p2 p3 p4 h0 n0 Z0
theorem own_eight (f : Int32) (h : 0 ≤ f.toInt ∧ f.toInt < 8) : f = (0 : Int32) ∨ f = (1 : Int32) ∨ f = (2 : Int32) ∨ f = (3 : Int32) ∨ f = (4 : Int32) ∨ f = (5 : Int32) ∨ f = (6 : Int32) ∨ f = (7 : Int32) := by
  simp only [← Int32.toInt_inj, show (0 : Int32).toInt = 0 from rfl, show (1 : Int32).toInt = 1 from rfl, show (2 : Int32).toInt = 2 from rfl, show (3 : Int32).toInt = 3 from rfl, show (4 : Int32).toInt = 4 from rfl, show (5 : Int32).toInt = 5 from rfl, show (6 : Int32).toInt = 6 from rfl, show (7 : Int32).toInt = 7 from rfl]; omega
def own_lp : Nat → List Int32 → Int32 → Int32
  | 0, _, p => p
  | n + 1, us, p => if p < (Int32.ofNat us.length) then (if (own_io (us.getD (p).toNatClampNeg 0)) < (0 : Int32) then p else own_lp n us (p + (1 : Int32))) else p
theorem own_lp_stop {n : Nat} {us : List Int32} {p : Int32} (h : ¬ p < (Int32.ofNat us.length)) : own_lp (n + 1) us p = p := by rw [own_lp, if_neg h]
theorem own_lp_hit {n : Nat} {us : List Int32} {p : Int32} (h : p < (Int32.ofNat us.length)) (q : (own_io (us.getD (p).toNatClampNeg 0)) < (0 : Int32)) : own_lp (n + 1) us p = p := by rw [own_lp, if_pos h, if_pos q]
theorem own_lp_go {n : Nat} {us : List Int32} {p : Int32} (h : p < (Int32.ofNat us.length)) (q : ¬ (own_io (us.getD (p).toNatClampNeg 0)) < (0 : Int32)) : own_lp (n + 1) us p = own_lp n us (p + (1 : Int32)) := by rw [own_lp, if_pos h, if_neg q]
def own_as (us : List Int32) (p : Int32) : Int32 := own_lp 4 us p
theorem own_pi (p : Int32) (h : 0 ≤ p.toInt ∧ p.toInt < 8) : (0 ≤ (p + (1 : Int32)).toInt ∧ (p + (1 : Int32)).toInt < 9) ∧ (0 ≤ ((p + (1 : Int32)) + (1 : Int32)).toInt ∧ ((p + (1 : Int32)) + (1 : Int32)).toInt < 10) ∧ (0 ≤ (((p + (1 : Int32)) + (1 : Int32)) + (1 : Int32)).toInt ∧ (((p + (1 : Int32)) + (1 : Int32)) + (1 : Int32)).toInt < 11) ∧ 4 ≤ ((((p + (1 : Int32)) + (1 : Int32)) + (1 : Int32)) + (1 : Int32)).toInt := by
  rcases own_eight p h with rfl | rfl | rfl | rfl | rfl | rfl | rfl | rfl <;> decide
theorem own_us_lt' (us : List Int32) (h4 : us.length ≤ 4) (j : Int32) (h0 : 0 ≤ j.toInt) (h : j < (Int32.ofNat us.length)) : j.toNatClampNeg < us.length := by
  rw [Int32.lt_iff_toInt_lt] at h
  have e : (Int32.ofNat us.length).toInt = us.length := by rcases own_five us.length h4 with q | q | q | q | q <;> rw [q] <;> rfl
  have e2 : (j.toNatClampNeg : Int) = j.toInt := Int.toNat_of_nonneg h0
  omega
theorem own_ge4 (p : Int32) (h : 4 ≤ p.toInt) : ¬ p < (4 : Int32) := by rw [Int32.lt_iff_toInt_lt, show (4 : Int32).toInt = 4 from rfl]; omega
theorem pn_0 : plainName "com/example/citeloom/citeloom/references/FieldText" = true := by first | (simp [plainName, overriddenIn]; done) | decide +kernel
theorem ef_11 (m : MethodId) (a0 : Addr) (p1 : Int32) : entryFrame m #[(.ref a0), (.int p1)] 3 = mkF m 0 #[.val (.ref a0), .val (.int p1), .unset] [] := by first | (simp [entryFrame, mkF, argsToLocals, Value.category]; done) | rfl
theorem d11_0 : decode prog_34_method_4_code 0 = .ok (.iload_n 1, 1) := by decide +kernel
theorem d11_1 : decode prog_34_method_4_code 1 = .ok (.istore_n 2, 1) := by decide +kernel
theorem d11_2 : decode prog_34_method_4_code 2 = .ok (.iload_n 2, 1) := by decide +kernel
theorem d11_3 : decode prog_34_method_4_code 3 = .ok (.aload_n 0, 1) := by decide +kernel
theorem d11_4 : decode prog_34_method_4_code 4 = .ok (.invokevirtual 80, 3) := by decide +kernel
theorem d11_7 : decode prog_34_method_4_code 7 = .ok (.if_icmp .ge 22, 3) := by decide +kernel
theorem d11_10 : decode prog_34_method_4_code 10 = .ok (.ldc 101, 2) := by decide +kernel
theorem d11_12 : decode prog_34_method_4_code 12 = .ok (.aload_n 0, 1) := by decide +kernel
theorem d11_13 : decode prog_34_method_4_code 13 = .ok (.iload_n 2, 1) := by decide +kernel
theorem d11_14 : decode prog_34_method_4_code 14 = .ok (.invokevirtual 38, 3) := by decide +kernel
theorem d11_17 : decode prog_34_method_4_code 17 = .ok (.invokevirtual 83, 3) := by decide +kernel
theorem d11_20 : decode prog_34_method_4_code 20 = .ok (.ifCond .lt 9, 3) := by decide +kernel
theorem d11_29 : decode prog_34_method_4_code 29 = .ok (.iload_n 2, 1) := by decide +kernel
theorem d11_30 : decode prog_34_method_4_code 30 = .ok (.ireturn, 1) := by decide +kernel
theorem d11_23 : decode prog_34_method_4_code 23 = .ok (.iinc 2 1, 3) := by decide +kernel
theorem d11_26 : decode prog_34_method_4_code 26 = .ok (.goto (-24), 3) := by decide +kernel
abbrev own_loc53 (a0 : Addr) (p1 : Int32) : Array Slot := #[.val (.ref a0), .val (.int p1), .val (.int ((((p1 + (1 : Int32)) + (1 : Int32)) + (1 : Int32)) + (1 : Int32)))]
def Q11 (Z : State) (a0 : Addr) (p1 : Int32) (us : List Int32) (cs : Int32) (gf : Value) (h0 : Heap) (n0 : Nat) (v : Option Value) (h : Heap) (L : List Loc) : Prop := v = some (.int (own_as us p1)) ∧ Fr n0 L ∧ Keep h0 h []
set_option maxRecDepth 65536 in
set_option maxHeartbeats 40000000 in
theorem rm11 (l : Launch) (Z : State) (ag : Array Value) (hw : ∀ d ∈ tables_1, d.before ag Z = true) (ws : List Jvm.Cond) (a0 : Addr) (p1 : Int32) (us : List Int32) (cs : Int32) (gf : Value) (h0 : Heap) (n0 : Nat) (Z0 : n0 ≤ h0.size) (T_ : own_str Z h0 a0 us) (hus : us.length ≤ 4) (hp : 0 ≤ p1.toInt ∧ p1.toInt < 8) (O_ : Old Z n0 h0) (S_cs : Sta Z Z.heap "java/lang/String" "COMPACT_STRINGS" "Z" (.int cs)) (hcs : ¬ cs = (0 : Int32)) (S_gf : Sta Z Z.heap "jdk/internal/util/Preconditions" "SIOOBE_FORMATTER" "Ljava/util/function/BiFunction;" gf) (rv_gf : gf.isRef = true) (S_ad : Sta Z Z.heap "java/lang/StringUTF16" "$assertionsDisabled" "Z" (.int (1 : Int32))) (S_hi : Sta Z Z.heap "java/lang/StringUTF16" "HI_BYTE_SHIFT" "I" (.int (0 : Int32))) (S_lo : Sta Z Z.heap "java/lang/StringUTF16" "LO_BYTE_SHIFT" "I" (.int (8 : Int32))) :
    MetFree l (⟨"com/example/citeloom/citeloom/references/FieldText", "afterSeparators", "(Ljava/lang/String;I)I"⟩ : MethodName) (head1 (Jvm.Cond.code (⟨"com/example/citeloom/citeloom/references/FieldText", "afterSeparators", "(Ljava/lang/String;I)I"⟩ : MethodName) prog_34_method_4_code 3 (some .int) :: ws) ({ frames := 6, cells := 8, slots := 112, locals := 84 } : Room)) (fun a U => a = #[(.ref a0), (.int p1)] ∧ Z.Warmed39 U.vm ∧ U.heap = h0 ∧ CHv Z own_EL U.vm h0) (fun _ _ _ _ _ => True) (fun _ U o U' => ∃ v L, o = .returned v ∧ Q11 Z a0 p1 us cs gf h0 n0 v U'.heap L ∧ CHr Z own_EL U.vm U.heap U'.vm U'.heap ∧ ReturnedEndW U o U' L ({ frames := 6, cells := 8, slots := 112, locals := 84 } : Room).cells ({ frames := 6, cells := 8, slots := 112, locals := 84 } : Room).slots) := by
  refine MetFree.of_bodySF (plainFor_of_name pn_0) hisR ?_
  intro p e s m args below meth c s₁ Bd hml0 hP hK
  obtain ⟨rfl, hZ, hh, hI⟩ := hP
  have hx := Bd.exec
  have hby := Bd.bytes
  have hml : c.maxLocals = 3 := hml0
  have hown : s.vm.findClass "com/example/citeloom/citeloom/references/FieldText" = some m.cls := findClass_of_methodNamed Bd.named
  have hnm := (name_of_methodNamed Bd.named Bd.method).1
  have X0 : Stand p l e ({ frames := 6, cells := 8, slots := 112, locals := 84 } : Room) s m #[(.ref a0), (.int p1)] below meth c s₁ [] 0 0 := Stand.of_body Bd
  have e0 : s₁.heap = h0 := by rw [← hh, Bd.state]; rfl
  have N0 := Fr.nil n0
  have pre0 : ∀ t, Steps p.tables e below (s₁.setTop (mkF m 0 #[.val (.ref a0), .val (.int p1), .unset] [])) t → Steps p.tables e below (s₁.setTop (entryFrame m #[(.ref a0), (.int p1)] 3)) t := fun t k => castTop (ef_11 m a0 p1) k
  have X0 : Stand p l e ({ frames := 6, cells := 8, slots := 112, locals := 84 } : Room) (s.setVm s.vm) m #[(.ref a0), (.int p1)] below meth c s₁ [] 0 0 := X0
  have hS : s.Since s.vm 0 := (State.WarmedH.refl s).since 0
  have hkS : 0 ≤ h0.size := Nat.zero_le _
  have hC : CHr Z own_EL s.vm h0 s.vm h0 := CHr.refl hI
  have hEL : EW Z ag own_EL := own_ew hw
  have hwS : ∀ d ∈ Bundle.stringAtoms, d.before ag Z = true := fun d hd => hw d ((by decide +kernel : ∀ d ∈ Bundle.stringAtoms, d ∈ tables_1) d hd)
  obtain ⟨cq767, kq767, q767a, q767b, q767c⟩ := isOf hZ e0 T_.1
  obtain ⟨_, _, ⟨T767, L767, k767, n767⟩, -, X767, ⟨Lc767, hQ767, l767, y767, z767⟩, st767⟩ := X0.virtualBack hx (y := (⟨"java/lang/String", "length", "()I"⟩ : MethodName)) (z := (⟨"java/lang/String", "length", "()I"⟩ : MethodName)) hown (mvT hZ (own_wk hw 57 rfl)) (mvT hZ (own_wk hw 58 rfl)) (notFace_of_selects (args := #[]) (mvT hZ (own_wk hw 60 rfl))) (mvT hZ (own_wk hw 60 rfl)) (mvT hZ (own_wk hw 59 rfl)) (by decide) (backOf (W := 1) (rm12 l Z ag hw [] a0 us cs h0 n0 Z0 T_ O_ S_cs hcs) hZ (own_wk hw 61 rfl) (own_wk hw 5 rfl) (by decide) (by decide)) q767a q767c (g := (mkF m 4 #[.val (.ref a0), .val (.int p1), .val (.int p1)] [(.ref a0), (.int p1)])) rfl (by rw [hml]; rfl) (Steps.refl _) (argsL := []) (rest := [(.int p1)]) (lenOf pd_1 rfl) rfl (by show 2 * 0 + _ ≤ _; exact Nat.le_of_eq rfl) (hb hby d11_4) (fun _ _ => ⟨rfl, e0, (by decide : 0 + 0 ≤ _), (by decide : 0 + 0 ≤ _)⟩)
  dsimp only [Pt.U, Pt.locs, Pt.cells, Pt.slots] at X767 l767 y767 z767 st767 hQ767
  subst l767 y767 z767
  obtain ⟨rfl, N767q, e767⟩ := hQ767
  have N767 := Fr.app N0 N767q
  have cp769 : ∀ target, own_S p e below T767 (mkF m 7 #[.val (.ref a0), .val (.int p1), .val (.int p1)] [(.int (Int32.ofNat us.length)), (.int p1)]) target → own_S p e below s₁ (mkF m 0 #[.val (.ref a0), .val (.int p1), .unset] []) target := by
    intro target kt
    show own_S p e below s₁ (mkF m 0 #[.val (.ref a0), .val (.int p1), .unset] []) _
    refine XS.iloadN X0.here hx rfl (hb hby d11_0) rfl ?_
    refine XS.istoreN X0.here hx rfl (hb hby d11_1) rfl (l' := #[.val (.ref a0), .val (.int p1), .val (.int p1)]) rfl ?_
    show own_S p e below s₁ (mkF m 2 #[.val (.ref a0), .val (.int p1), .val (.int p1)] []) _
    refine XS.iloadN X0.here hx rfl (hb hby d11_2) rfl ?_
    refine XS.aloadN X0.here hx rfl (hb hby d11_3) rfl rfl ?_
    show own_S p e below s₁ (mkF m 4 #[.val (.ref a0), .val (.int p1), .val (.int p1)] [(.ref a0), (.int p1)]) _
    refine st767.trans ?_
    exact kt
  by_cases hc768 : p1 < (Int32.ofNat us.length)
  · obtain ⟨sa770, T770, h770, kS770, sb770, kb770, X770, e770, E770, hS, hkS770, hZ, hown, Es770, Fc770, Fv770, Vs770, lta770, ltb770, hCs770, hLit770, hSf770, st770⟩ := ldcCH X767 hx hZ hown (own_wk hw 85 rfl) hwS e767 hS hkS hEL (by decide) hC.1 (vs := [(.int (46 : Int32)), (.int (44 : Int32)), (.int (59 : Int32)), (.int (58 : Int32)), (.int (47 : Int32)), (.int (32 : Int32))]) (z := (6 : Int32)) ⟨by decide, rfl⟩ (by decide) (by decide) (g := (mkF m 10 #[.val (.ref a0), .val (.int p1), .val (.int p1)] [])) rfl (hb hby d11_10) (n := 24) (by decide) (by decide) (by decide) (by decide)
    have x771 := T_.ext E770
    have x772 := O_.ext E770
    have sz773 : n0 ≤ h770.size := Nat.le_trans Z0 E770.1
    have hkS := Nat.le_trans hkS E770.1
    have hC := hC.trans hCs770
    have kp774 : Keep h0 h770 [] := (Keep.refl h0 []).ext E770
    have hkS := hkS770
    obtain ⟨cq775, kq775, q775a, q775b, q775c⟩ := isOf hZ e770 x771.1
    obtain ⟨_, _, ⟨T775, L775, k775, n775⟩, -, X775, ⟨Lc775, hQ775, l775, y775, z775⟩, st775⟩ := X770.virtualBack hx (y := (⟨"java/lang/String", "charAt", "(I)C"⟩ : MethodName)) (z := (⟨"java/lang/String", "charAt", "(I)C"⟩ : MethodName)) hown (mvT hZ (own_wk hw 86 rfl)) (mvT hZ (own_wk hw 13 rfl)) (notFace_of_selects (args := #[]) (mvT hZ (own_wk hw 15 rfl))) (mvT hZ (own_wk hw 15 rfl)) (mvT hZ (own_wk hw 14 rfl)) (by decide) (backOf (W := 1) (rm2 l Z ag hw [] a0 p1 us cs gf h770 n0 sz773 x771 (own_nn _ hp.1) (own_us_lt' us hus _ hp.1 hc768) x772 S_cs hcs S_gf rv_gf S_ad S_hi S_lo) hZ (own_wk hw 16 rfl) (own_wk hw 5 rfl) (by decide) (by decide)) q775a q775c (g := (mkF m 14 #[.val (.ref a0), .val (.int p1), .val (.int p1)] [(.int p1), (.ref a0), (.ref sa770)])) rfl (by rw [hml]; rfl) (Steps.refl _) (argsL := [(.int p1)]) (rest := [(.ref sa770)]) (lenOf pd_5 rfl) rfl (by show 2 * 0 + _ ≤ _; exact Nat.le_of_eq rfl) (hb hby d11_14) (fun _ _ => ⟨rfl, e770, (by decide : 2 + 0 ≤ _), (by decide : 28 + 0 ≤ _)⟩)
    dsimp only [Pt.U, Pt.locs, Pt.cells, Pt.slots] at X775 l775 y775 z775 st775 hQ775
    subst l775 y775 z775
    obtain ⟨rfl, N775q, e775⟩ := hQ775
    have N775 := Fr.app N767 N775q
    obtain ⟨cq776, kq776, q776a, q776b, q776c⟩ := isOf hZ e775 Es770
    obtain ⟨_, _, ⟨T776, L776, k776, n776⟩, -, X776, ⟨Lc776, hQ776, l776, y776, z776⟩, st776⟩ := X775.virtualBack hx (y := (⟨"java/lang/String", "indexOf", "(I)I"⟩ : MethodName)) (z := (⟨"java/lang/String", "indexOf", "(I)I"⟩ : MethodName)) hown (mvT hZ (own_wk hw 87 rfl)) (mvT hZ (own_wk hw 88 rfl)) (notFace_of_selects (args := #[]) (mvT hZ (own_wk hw 90 rfl))) (mvT hZ (own_wk hw 90 rfl)) (mvT hZ (own_wk hw 89 rfl)) (by decide) (backOf (W := 0) (rm19 l Z ag hw [] sa770 (us.getD (p1).toNatClampNeg 0) sb770 kb770 cs h770 n0 sz773 Es770 Fv770 Fc770 Vs770 x772 S_cs hcs) hZ (own_wk hw 91 rfl) (own_wk hw 5 rfl) (by decide) (by decide)) q776a q776c (g := (mkF m 17 #[.val (.ref a0), .val (.int p1), .val (.int p1)] [(.int (us.getD (p1).toNatClampNeg 0)), (.ref sa770)])) rfl (by rw [hml]; rfl) (Steps.refl _) (argsL := [(.int (us.getD (p1).toNatClampNeg 0))]) (rest := []) (lenOf pd_6 rfl) rfl (by show 2 * 0 + _ ≤ _; exact Nat.le_of_eq rfl) (hb hby d11_17) (fun _ _ => ⟨rfl, e775, (by decide : 2 + 0 ≤ _), (by decide : 28 + 0 ≤ _)⟩)
    dsimp only [Pt.U, Pt.locs, Pt.cells, Pt.slots] at X776 l776 y776 z776 st776 hQ776
    subst l776 y776 z776
    obtain ⟨rfl, N776q, e776⟩ := hQ776
    have N776 := Fr.app N775 N776q
    have cp778 : ∀ target, own_S p e below T776 (mkF m 20 #[.val (.ref a0), .val (.int p1), .val (.int p1)] [(.int (own_io (us.getD (p1).toNatClampNeg 0)))]) target → own_S p e below s₁ (mkF m 0 #[.val (.ref a0), .val (.int p1), .unset] []) target := by
      intro target kt
      show own_S p e below s₁ (mkF m 0 #[.val (.ref a0), .val (.int p1), .unset] []) _
      refine cp769 _ ?_
      show own_S p e below T767 (mkF m 7 #[.val (.ref a0), .val (.int p1), .val (.int p1)] [(.int (Int32.ofNat us.length)), (.int p1)]) _
      refine XS.icmpNo X767.here hx rfl (hb hby d11_7) rfl (tlt hc768).2.1 ?_
      show own_S p e below T767 (mkF m 10 #[.val (.ref a0), .val (.int p1), .val (.int p1)] []) _
      refine st770 _ ?_
      show own_S p e below T770 (mkF m 12 #[.val (.ref a0), .val (.int p1), .val (.int p1)] [(.ref sa770)]) _
      refine XS.aloadN X770.here hx rfl (hb hby d11_12) rfl rfl ?_
      refine XS.iloadN X770.here hx rfl (hb hby d11_13) rfl ?_
      show own_S p e below T770 (mkF m 14 #[.val (.ref a0), .val (.int p1), .val (.int p1)] [(.int p1), (.ref a0), (.ref sa770)]) _
      refine st775.trans ?_
      show own_S p e below T775 (mkF m 17 #[.val (.ref a0), .val (.int p1), .val (.int p1)] [(.int (us.getD (p1).toNatClampNeg 0)), (.ref sa770)]) _
      refine st776.trans ?_
      exact kt
    by_cases hc777 : (own_io (us.getD (p1).toNatClampNeg 0)) < (0 : Int32)
    · obtain ⟨fs, hr, hrun, hended, hEnd⟩ := X776.leaveW hS (by rw [e776]; exact hkS) (v := some (.int p1)) (fun h => by rw [Bd.returns] at h; cases h)
      refine ⟨_, _, pre0 _ ?_, hrun, hended, _, _, rfl, ?_, ?_, hEnd.1, hEnd.2.1, hEnd.2.2.1, hEnd.2.2.2.mono (by decide) (by decide)⟩
      · show own_S p e below s₁ (mkF m 0 #[.val (.ref a0), .val (.int p1), .unset] []) _
        refine cp778 _ ?_
        show own_S p e below T776 (mkF m 20 #[.val (.ref a0), .val (.int p1), .val (.int p1)] [(.int (own_io (us.getD (p1).toNatClampNeg 0)))]) _
        refine XS.ifYes X776.here hx rfl (pc0 := 20) (pc' := 29) rfl (hb hby d11_20) rfl ((if0 _ _).trans (tlt hc777).1) (by decide) (by decide) ?_
        show own_S p e below T776 (mkF m 29 #[.val (.ref a0), .val (.int p1), .val (.int p1)] []) _
        refine XS.iloadN X776.here hx rfl (hb hby d11_29) rfl ?_
        show own_S p e below T776 (mkF m 30 #[.val (.ref a0), .val (.int p1), .val (.int p1)] [(.int p1)]) _
        exact retI X776 hx Bd.returns (hb hby d11_30) hr
      · show Q11 Z a0 p1 us cs gf h0 n0 _ T776.heap _
        rw [e776]
        exact ⟨congrArg (fun z => some (Value.int z)) (show _ = own_as us p1 from by unfold own_as; rw [own_lp_hit hc768 hc777]), N776, kp774⟩
      · show CHr Z own_EL s.vm s.heap T776.vm T776.heap
        rw [hh, show T776.heap = h770 from e776]
        exact hC.trans (CHv.at X776 hZ hEL hC.1)
    · obtain ⟨cq779, kq779, q779a, q779b, q779c⟩ := isOf hZ e776 x771.1
      obtain ⟨_, _, ⟨T779, L779, k779, n779⟩, -, X779, ⟨Lc779, hQ779, l779, y779, z779⟩, st779⟩ := X776.virtualBack hx (y := (⟨"java/lang/String", "length", "()I"⟩ : MethodName)) (z := (⟨"java/lang/String", "length", "()I"⟩ : MethodName)) hown (mvT hZ (own_wk hw 57 rfl)) (mvT hZ (own_wk hw 58 rfl)) (notFace_of_selects (args := #[]) (mvT hZ (own_wk hw 60 rfl))) (mvT hZ (own_wk hw 60 rfl)) (mvT hZ (own_wk hw 59 rfl)) (by decide) (backOf (W := 1) (rm12 l Z ag hw [] a0 us cs h770 n0 sz773 x771 x772 S_cs hcs) hZ (own_wk hw 61 rfl) (own_wk hw 5 rfl) (by decide) (by decide)) q779a q779c (g := (mkF m 4 #[.val (.ref a0), .val (.int p1), .val (.int (p1 + (1 : Int32)))] [(.ref a0), (.int (p1 + (1 : Int32)))])) rfl (by rw [hml]; rfl) (Steps.refl _) (argsL := []) (rest := [(.int (p1 + (1 : Int32)))]) (lenOf pd_1 rfl) rfl (by show 2 * 0 + _ ≤ _; exact Nat.le_of_eq rfl) (hb hby d11_4) (fun _ _ => ⟨rfl, e776, (by decide : 2 + 0 ≤ _), (by decide : 28 + 0 ≤ _)⟩)
      dsimp only [Pt.U, Pt.locs, Pt.cells, Pt.slots] at X779 l779 y779 z779 st779 hQ779
      subst l779 y779 z779
      obtain ⟨rfl, N779q, e779⟩ := hQ779
      have N779 := Fr.app N776 N779q
      have cp781 : ∀ target, own_S p e below T779 (mkF m 7 #[.val (.ref a0), .val (.int p1), .val (.int (p1 + (1 : Int32)))] [(.int (Int32.ofNat us.length)), (.int (p1 + (1 : Int32)))]) target → own_S p e below s₁ (mkF m 0 #[.val (.ref a0), .val (.int p1), .unset] []) target := by
        intro target kt
        show own_S p e below s₁ (mkF m 0 #[.val (.ref a0), .val (.int p1), .unset] []) _
        refine cp778 _ ?_
        show own_S p e below T776 (mkF m 20 #[.val (.ref a0), .val (.int p1), .val (.int p1)] [(.int (own_io (us.getD (p1).toNatClampNeg 0)))]) _
        refine XS.ifNo X776.here hx rfl (hb hby d11_20) rfl ((if0 _ _).trans (flt hc777).1) ?_
        show own_S p e below T776 (mkF m 23 #[.val (.ref a0), .val (.int p1), .val (.int p1)] []) _
        refine XS.iinc X776.here hx rfl (hb hby d11_23) rfl (l' := #[.val (.ref a0), .val (.int p1), .val (.int (p1 + (1 : Int32)))]) rfl ?_
        show own_S p e below T776 (mkF m 26 #[.val (.ref a0), .val (.int p1), .val (.int (p1 + (1 : Int32)))] []) _
        refine XS.goto X776.here hx rfl (pc0 := 26) (pc' := 2) rfl (hb hby d11_26) (by decide) (by decide) ?_
        show own_S p e below T776 (mkF m 2 #[.val (.ref a0), .val (.int p1), .val (.int (p1 + (1 : Int32)))] []) _
        refine XS.iloadN X776.here hx rfl (hb hby d11_2) rfl ?_
        refine XS.aloadN X776.here hx rfl (hb hby d11_3) rfl rfl ?_
        show own_S p e below T776 (mkF m 4 #[.val (.ref a0), .val (.int p1), .val (.int (p1 + (1 : Int32)))] [(.ref a0), (.int (p1 + (1 : Int32)))]) _
        refine st779.trans ?_
        exact kt
      by_cases hc780 : (p1 + (1 : Int32)) < (Int32.ofNat us.length)
      · obtain ⟨sa782, T782, h782, kS782, sb782, kb782, X782, e782, E782, hS, hkS782, hZ, hown, Es782, Fc782, Fv782, Vs782, lta782, ltb782, hCs782, hLit782, hSf782, st782⟩ := ldcCH X779 hx hZ hown (own_wk hw 85 rfl) hwS e779 hS hkS hEL (by decide) hC.1 (vs := [(.int (46 : Int32)), (.int (44 : Int32)), (.int (59 : Int32)), (.int (58 : Int32)), (.int (47 : Int32)), (.int (32 : Int32))]) (z := (6 : Int32)) ⟨by decide, rfl⟩ (by decide) (by decide) (g := (mkF m 10 #[.val (.ref a0), .val (.int p1), .val (.int (p1 + (1 : Int32)))] [])) rfl (hb hby d11_10) (n := 24) (by decide) (by decide) (by decide) (by decide)
        have x783 := x771.ext E782
        have x784 := x772.ext E782
        have sz785 : n0 ≤ h782.size := Nat.le_trans sz773 E782.1
        have hkS := Nat.le_trans hkS E782.1
        have hC := hC.trans hCs782
        have kp786 : Keep h0 h782 [] := kp774.ext E782
        have hkS := hkS782
        obtain ⟨cq787, kq787, q787a, q787b, q787c⟩ := isOf hZ e782 x783.1
        obtain ⟨_, _, ⟨T787, L787, k787, n787⟩, -, X787, ⟨Lc787, hQ787, l787, y787, z787⟩, st787⟩ := X782.virtualBack hx (y := (⟨"java/lang/String", "charAt", "(I)C"⟩ : MethodName)) (z := (⟨"java/lang/String", "charAt", "(I)C"⟩ : MethodName)) hown (mvT hZ (own_wk hw 86 rfl)) (mvT hZ (own_wk hw 13 rfl)) (notFace_of_selects (args := #[]) (mvT hZ (own_wk hw 15 rfl))) (mvT hZ (own_wk hw 15 rfl)) (mvT hZ (own_wk hw 14 rfl)) (by decide) (backOf (W := 1) (rm2 l Z ag hw [] a0 (p1 + (1 : Int32)) us cs gf h782 n0 sz785 x783 (own_nn _ (own_pi p1 hp).1.1) (own_us_lt' us hus _ (own_pi p1 hp).1.1 hc780) x784 S_cs hcs S_gf rv_gf S_ad S_hi S_lo) hZ (own_wk hw 16 rfl) (own_wk hw 5 rfl) (by decide) (by decide)) q787a q787c (g := (mkF m 14 #[.val (.ref a0), .val (.int p1), .val (.int (p1 + (1 : Int32)))] [(.int (p1 + (1 : Int32))), (.ref a0), (.ref sa782)])) rfl (by rw [hml]; rfl) (Steps.refl _) (argsL := [(.int (p1 + (1 : Int32)))]) (rest := [(.ref sa782)]) (lenOf pd_5 rfl) rfl (by show 2 * 0 + _ ≤ _; exact Nat.le_of_eq rfl) (hb hby d11_14) (fun _ _ => ⟨rfl, e782, (by decide : 4 + 0 ≤ _), (by decide : 56 + 0 ≤ _)⟩)
        dsimp only [Pt.U, Pt.locs, Pt.cells, Pt.slots] at X787 l787 y787 z787 st787 hQ787
        subst l787 y787 z787
        obtain ⟨rfl, N787q, e787⟩ := hQ787
        have N787 := Fr.app N779 N787q
        obtain ⟨cq788, kq788, q788a, q788b, q788c⟩ := isOf hZ e787 Es782
        obtain ⟨_, _, ⟨T788, L788, k788, n788⟩, -, X788, ⟨Lc788, hQ788, l788, y788, z788⟩, st788⟩ := X787.virtualBack hx (y := (⟨"java/lang/String", "indexOf", "(I)I"⟩ : MethodName)) (z := (⟨"java/lang/String", "indexOf", "(I)I"⟩ : MethodName)) hown (mvT hZ (own_wk hw 87 rfl)) (mvT hZ (own_wk hw 88 rfl)) (notFace_of_selects (args := #[]) (mvT hZ (own_wk hw 90 rfl))) (mvT hZ (own_wk hw 90 rfl)) (mvT hZ (own_wk hw 89 rfl)) (by decide) (backOf (W := 0) (rm19 l Z ag hw [] sa782 (us.getD ((p1 + (1 : Int32))).toNatClampNeg 0) sb782 kb782 cs h782 n0 sz785 Es782 Fv782 Fc782 Vs782 x784 S_cs hcs) hZ (own_wk hw 91 rfl) (own_wk hw 5 rfl) (by decide) (by decide)) q788a q788c (g := (mkF m 17 #[.val (.ref a0), .val (.int p1), .val (.int (p1 + (1 : Int32)))] [(.int (us.getD ((p1 + (1 : Int32))).toNatClampNeg 0)), (.ref sa782)])) rfl (by rw [hml]; rfl) (Steps.refl _) (argsL := [(.int (us.getD ((p1 + (1 : Int32))).toNatClampNeg 0))]) (rest := []) (lenOf pd_6 rfl) rfl (by show 2 * 0 + _ ≤ _; exact Nat.le_of_eq rfl) (hb hby d11_17) (fun _ _ => ⟨rfl, e787, (by decide : 4 + 0 ≤ _), (by decide : 56 + 0 ≤ _)⟩)
        dsimp only [Pt.U, Pt.locs, Pt.cells, Pt.slots] at X788 l788 y788 z788 st788 hQ788
        subst l788 y788 z788
        obtain ⟨rfl, N788q, e788⟩ := hQ788
        have N788 := Fr.app N787 N788q
        have cp790 : ∀ target, own_S p e below T788 (mkF m 20 #[.val (.ref a0), .val (.int p1), .val (.int (p1 + (1 : Int32)))] [(.int (own_io (us.getD ((p1 + (1 : Int32))).toNatClampNeg 0)))]) target → own_S p e below s₁ (mkF m 0 #[.val (.ref a0), .val (.int p1), .unset] []) target := by
          intro target kt
          show own_S p e below s₁ (mkF m 0 #[.val (.ref a0), .val (.int p1), .unset] []) _
          refine cp781 _ ?_
          show own_S p e below T779 (mkF m 7 #[.val (.ref a0), .val (.int p1), .val (.int (p1 + (1 : Int32)))] [(.int (Int32.ofNat us.length)), (.int (p1 + (1 : Int32)))]) _
          refine XS.icmpNo X779.here hx rfl (hb hby d11_7) rfl (tlt hc780).2.1 ?_
          show own_S p e below T779 (mkF m 10 #[.val (.ref a0), .val (.int p1), .val (.int (p1 + (1 : Int32)))] []) _
          refine st782 _ ?_
          show own_S p e below T782 (mkF m 12 #[.val (.ref a0), .val (.int p1), .val (.int (p1 + (1 : Int32)))] [(.ref sa782)]) _
          refine XS.aloadN X782.here hx rfl (hb hby d11_12) rfl rfl ?_
          refine XS.iloadN X782.here hx rfl (hb hby d11_13) rfl ?_
          show own_S p e below T782 (mkF m 14 #[.val (.ref a0), .val (.int p1), .val (.int (p1 + (1 : Int32)))] [(.int (p1 + (1 : Int32))), (.ref a0), (.ref sa782)]) _
          refine st787.trans ?_
          show own_S p e below T787 (mkF m 17 #[.val (.ref a0), .val (.int p1), .val (.int (p1 + (1 : Int32)))] [(.int (us.getD ((p1 + (1 : Int32))).toNatClampNeg 0)), (.ref sa782)]) _
          refine st788.trans ?_
          exact kt
        by_cases hc789 : (own_io (us.getD ((p1 + (1 : Int32))).toNatClampNeg 0)) < (0 : Int32)
        · obtain ⟨fs, hr, hrun, hended, hEnd⟩ := X788.leaveW hS (by rw [e788]; exact hkS) (v := some (.int (p1 + (1 : Int32)))) (fun h => by rw [Bd.returns] at h; cases h)
          refine ⟨_, _, pre0 _ ?_, hrun, hended, _, _, rfl, ?_, ?_, hEnd.1, hEnd.2.1, hEnd.2.2.1, hEnd.2.2.2.mono (by decide) (by decide)⟩
          · show own_S p e below s₁ (mkF m 0 #[.val (.ref a0), .val (.int p1), .unset] []) _
            refine cp790 _ ?_
            show own_S p e below T788 (mkF m 20 #[.val (.ref a0), .val (.int p1), .val (.int (p1 + (1 : Int32)))] [(.int (own_io (us.getD ((p1 + (1 : Int32))).toNatClampNeg 0)))]) _
            refine XS.ifYes X788.here hx rfl (pc0 := 20) (pc' := 29) rfl (hb hby d11_20) rfl ((if0 _ _).trans (tlt hc789).1) (by decide) (by decide) ?_
            show own_S p e below T788 (mkF m 29 #[.val (.ref a0), .val (.int p1), .val (.int (p1 + (1 : Int32)))] []) _
            refine XS.iloadN X788.here hx rfl (hb hby d11_29) rfl ?_
            show own_S p e below T788 (mkF m 30 #[.val (.ref a0), .val (.int p1), .val (.int (p1 + (1 : Int32)))] [(.int (p1 + (1 : Int32)))]) _
            exact retI X788 hx Bd.returns (hb hby d11_30) hr
          · show Q11 Z a0 p1 us cs gf h0 n0 _ T788.heap _
            rw [e788]
            exact ⟨congrArg (fun z => some (Value.int z)) (show _ = own_as us p1 from by unfold own_as; rw [own_lp_go hc768 hc777, own_lp_hit hc780 hc789]), N788, kp786⟩
          · show CHr Z own_EL s.vm s.heap T788.vm T788.heap
            rw [hh, show T788.heap = h782 from e788]
            exact hC.trans (CHv.at X788 hZ hEL hC.1)
        · obtain ⟨cq791, kq791, q791a, q791b, q791c⟩ := isOf hZ e788 x783.1
          obtain ⟨_, _, ⟨T791, L791, k791, n791⟩, -, X791, ⟨Lc791, hQ791, l791, y791, z791⟩, st791⟩ := X788.virtualBack hx (y := (⟨"java/lang/String", "length", "()I"⟩ : MethodName)) (z := (⟨"java/lang/String", "length", "()I"⟩ : MethodName)) hown (mvT hZ (own_wk hw 57 rfl)) (mvT hZ (own_wk hw 58 rfl)) (notFace_of_selects (args := #[]) (mvT hZ (own_wk hw 60 rfl))) (mvT hZ (own_wk hw 60 rfl)) (mvT hZ (own_wk hw 59 rfl)) (by decide) (backOf (W := 1) (rm12 l Z ag hw [] a0 us cs h782 n0 sz785 x783 x784 S_cs hcs) hZ (own_wk hw 61 rfl) (own_wk hw 5 rfl) (by decide) (by decide)) q791a q791c (g := (mkF m 4 #[.val (.ref a0), .val (.int p1), .val (.int ((p1 + (1 : Int32)) + (1 : Int32)))] [(.ref a0), (.int ((p1 + (1 : Int32)) + (1 : Int32)))])) rfl (by rw [hml]; rfl) (Steps.refl _) (argsL := []) (rest := [(.int ((p1 + (1 : Int32)) + (1 : Int32)))]) (lenOf pd_1 rfl) rfl (by show 2 * 0 + _ ≤ _; exact Nat.le_of_eq rfl) (hb hby d11_4) (fun _ _ => ⟨rfl, e788, (by decide : 4 + 0 ≤ _), (by decide : 56 + 0 ≤ _)⟩)
          dsimp only [Pt.U, Pt.locs, Pt.cells, Pt.slots] at X791 l791 y791 z791 st791 hQ791
          subst l791 y791 z791
          obtain ⟨rfl, N791q, e791⟩ := hQ791
          have N791 := Fr.app N788 N791q
          have cp793 : ∀ target, own_S p e below T791 (mkF m 7 #[.val (.ref a0), .val (.int p1), .val (.int ((p1 + (1 : Int32)) + (1 : Int32)))] [(.int (Int32.ofNat us.length)), (.int ((p1 + (1 : Int32)) + (1 : Int32)))]) target → own_S p e below s₁ (mkF m 0 #[.val (.ref a0), .val (.int p1), .unset] []) target := by
            intro target kt
            show own_S p e below s₁ (mkF m 0 #[.val (.ref a0), .val (.int p1), .unset] []) _
            refine cp790 _ ?_
            show own_S p e below T788 (mkF m 20 #[.val (.ref a0), .val (.int p1), .val (.int (p1 + (1 : Int32)))] [(.int (own_io (us.getD ((p1 + (1 : Int32))).toNatClampNeg 0)))]) _
            refine XS.ifNo X788.here hx rfl (hb hby d11_20) rfl ((if0 _ _).trans (flt hc789).1) ?_
            show own_S p e below T788 (mkF m 23 #[.val (.ref a0), .val (.int p1), .val (.int (p1 + (1 : Int32)))] []) _
            refine XS.iinc X788.here hx rfl (hb hby d11_23) rfl (l' := #[.val (.ref a0), .val (.int p1), .val (.int ((p1 + (1 : Int32)) + (1 : Int32)))]) rfl ?_
            show own_S p e below T788 (mkF m 26 #[.val (.ref a0), .val (.int p1), .val (.int ((p1 + (1 : Int32)) + (1 : Int32)))] []) _
            refine XS.goto X788.here hx rfl (pc0 := 26) (pc' := 2) rfl (hb hby d11_26) (by decide) (by decide) ?_
            show own_S p e below T788 (mkF m 2 #[.val (.ref a0), .val (.int p1), .val (.int ((p1 + (1 : Int32)) + (1 : Int32)))] []) _
            refine XS.iloadN X788.here hx rfl (hb hby d11_2) rfl ?_
            refine XS.aloadN X788.here hx rfl (hb hby d11_3) rfl rfl ?_
            show own_S p e below T788 (mkF m 4 #[.val (.ref a0), .val (.int p1), .val (.int ((p1 + (1 : Int32)) + (1 : Int32)))] [(.ref a0), (.int ((p1 + (1 : Int32)) + (1 : Int32)))]) _
            refine st791.trans ?_
            exact kt
          by_cases hc792 : ((p1 + (1 : Int32)) + (1 : Int32)) < (Int32.ofNat us.length)
          · obtain ⟨sa794, T794, h794, kS794, sb794, kb794, X794, e794, E794, hS, hkS794, hZ, hown, Es794, Fc794, Fv794, Vs794, lta794, ltb794, hCs794, hLit794, hSf794, st794⟩ := ldcCH X791 hx hZ hown (own_wk hw 85 rfl) hwS e791 hS hkS hEL (by decide) hC.1 (vs := [(.int (46 : Int32)), (.int (44 : Int32)), (.int (59 : Int32)), (.int (58 : Int32)), (.int (47 : Int32)), (.int (32 : Int32))]) (z := (6 : Int32)) ⟨by decide, rfl⟩ (by decide) (by decide) (g := (mkF m 10 #[.val (.ref a0), .val (.int p1), .val (.int ((p1 + (1 : Int32)) + (1 : Int32)))] [])) rfl (hb hby d11_10) (n := 24) (by decide) (by decide) (by decide) (by decide)
            have x795 := x783.ext E794
            have x796 := x784.ext E794
            have sz797 : n0 ≤ h794.size := Nat.le_trans sz785 E794.1
            have hkS := Nat.le_trans hkS E794.1
            have hC := hC.trans hCs794
            have kp798 : Keep h0 h794 [] := kp786.ext E794
            have hkS := hkS794
            obtain ⟨cq799, kq799, q799a, q799b, q799c⟩ := isOf hZ e794 x795.1
            obtain ⟨_, _, ⟨T799, L799, k799, n799⟩, -, X799, ⟨Lc799, hQ799, l799, y799, z799⟩, st799⟩ := X794.virtualBack hx (y := (⟨"java/lang/String", "charAt", "(I)C"⟩ : MethodName)) (z := (⟨"java/lang/String", "charAt", "(I)C"⟩ : MethodName)) hown (mvT hZ (own_wk hw 86 rfl)) (mvT hZ (own_wk hw 13 rfl)) (notFace_of_selects (args := #[]) (mvT hZ (own_wk hw 15 rfl))) (mvT hZ (own_wk hw 15 rfl)) (mvT hZ (own_wk hw 14 rfl)) (by decide) (backOf (W := 1) (rm2 l Z ag hw [] a0 ((p1 + (1 : Int32)) + (1 : Int32)) us cs gf h794 n0 sz797 x795 (own_nn _ (own_pi p1 hp).2.1.1) (own_us_lt' us hus _ (own_pi p1 hp).2.1.1 hc792) x796 S_cs hcs S_gf rv_gf S_ad S_hi S_lo) hZ (own_wk hw 16 rfl) (own_wk hw 5 rfl) (by decide) (by decide)) q799a q799c (g := (mkF m 14 #[.val (.ref a0), .val (.int p1), .val (.int ((p1 + (1 : Int32)) + (1 : Int32)))] [(.int ((p1 + (1 : Int32)) + (1 : Int32))), (.ref a0), (.ref sa794)])) rfl (by rw [hml]; rfl) (Steps.refl _) (argsL := [(.int ((p1 + (1 : Int32)) + (1 : Int32)))]) (rest := [(.ref sa794)]) (lenOf pd_5 rfl) rfl (by show 2 * 0 + _ ≤ _; exact Nat.le_of_eq rfl) (hb hby d11_14) (fun _ _ => ⟨rfl, e794, (by decide : 6 + 0 ≤ _), (by decide : 84 + 0 ≤ _)⟩)
            dsimp only [Pt.U, Pt.locs, Pt.cells, Pt.slots] at X799 l799 y799 z799 st799 hQ799
            subst l799 y799 z799
            obtain ⟨rfl, N799q, e799⟩ := hQ799
            have N799 := Fr.app N791 N799q
            obtain ⟨cq800, kq800, q800a, q800b, q800c⟩ := isOf hZ e799 Es794
            obtain ⟨_, _, ⟨T800, L800, k800, n800⟩, -, X800, ⟨Lc800, hQ800, l800, y800, z800⟩, st800⟩ := X799.virtualBack hx (y := (⟨"java/lang/String", "indexOf", "(I)I"⟩ : MethodName)) (z := (⟨"java/lang/String", "indexOf", "(I)I"⟩ : MethodName)) hown (mvT hZ (own_wk hw 87 rfl)) (mvT hZ (own_wk hw 88 rfl)) (notFace_of_selects (args := #[]) (mvT hZ (own_wk hw 90 rfl))) (mvT hZ (own_wk hw 90 rfl)) (mvT hZ (own_wk hw 89 rfl)) (by decide) (backOf (W := 0) (rm19 l Z ag hw [] sa794 (us.getD (((p1 + (1 : Int32)) + (1 : Int32))).toNatClampNeg 0) sb794 kb794 cs h794 n0 sz797 Es794 Fv794 Fc794 Vs794 x796 S_cs hcs) hZ (own_wk hw 91 rfl) (own_wk hw 5 rfl) (by decide) (by decide)) q800a q800c (g := (mkF m 17 #[.val (.ref a0), .val (.int p1), .val (.int ((p1 + (1 : Int32)) + (1 : Int32)))] [(.int (us.getD (((p1 + (1 : Int32)) + (1 : Int32))).toNatClampNeg 0)), (.ref sa794)])) rfl (by rw [hml]; rfl) (Steps.refl _) (argsL := [(.int (us.getD (((p1 + (1 : Int32)) + (1 : Int32))).toNatClampNeg 0))]) (rest := []) (lenOf pd_6 rfl) rfl (by show 2 * 0 + _ ≤ _; exact Nat.le_of_eq rfl) (hb hby d11_17) (fun _ _ => ⟨rfl, e799, (by decide : 6 + 0 ≤ _), (by decide : 84 + 0 ≤ _)⟩)
            dsimp only [Pt.U, Pt.locs, Pt.cells, Pt.slots] at X800 l800 y800 z800 st800 hQ800
            subst l800 y800 z800
            obtain ⟨rfl, N800q, e800⟩ := hQ800
            have N800 := Fr.app N799 N800q
            have cp802 : ∀ target, own_S p e below T800 (mkF m 20 #[.val (.ref a0), .val (.int p1), .val (.int ((p1 + (1 : Int32)) + (1 : Int32)))] [(.int (own_io (us.getD (((p1 + (1 : Int32)) + (1 : Int32))).toNatClampNeg 0)))]) target → own_S p e below s₁ (mkF m 0 #[.val (.ref a0), .val (.int p1), .unset] []) target := by
              intro target kt
              show own_S p e below s₁ (mkF m 0 #[.val (.ref a0), .val (.int p1), .unset] []) _
              refine cp793 _ ?_
              show own_S p e below T791 (mkF m 7 #[.val (.ref a0), .val (.int p1), .val (.int ((p1 + (1 : Int32)) + (1 : Int32)))] [(.int (Int32.ofNat us.length)), (.int ((p1 + (1 : Int32)) + (1 : Int32)))]) _
              refine XS.icmpNo X791.here hx rfl (hb hby d11_7) rfl (tlt hc792).2.1 ?_
              show own_S p e below T791 (mkF m 10 #[.val (.ref a0), .val (.int p1), .val (.int ((p1 + (1 : Int32)) + (1 : Int32)))] []) _
              refine st794 _ ?_
              show own_S p e below T794 (mkF m 12 #[.val (.ref a0), .val (.int p1), .val (.int ((p1 + (1 : Int32)) + (1 : Int32)))] [(.ref sa794)]) _
              refine XS.aloadN X794.here hx rfl (hb hby d11_12) rfl rfl ?_
              refine XS.iloadN X794.here hx rfl (hb hby d11_13) rfl ?_
              show own_S p e below T794 (mkF m 14 #[.val (.ref a0), .val (.int p1), .val (.int ((p1 + (1 : Int32)) + (1 : Int32)))] [(.int ((p1 + (1 : Int32)) + (1 : Int32))), (.ref a0), (.ref sa794)]) _
              refine st799.trans ?_
              show own_S p e below T799 (mkF m 17 #[.val (.ref a0), .val (.int p1), .val (.int ((p1 + (1 : Int32)) + (1 : Int32)))] [(.int (us.getD (((p1 + (1 : Int32)) + (1 : Int32))).toNatClampNeg 0)), (.ref sa794)]) _
              refine st800.trans ?_
              exact kt
            by_cases hc801 : (own_io (us.getD (((p1 + (1 : Int32)) + (1 : Int32))).toNatClampNeg 0)) < (0 : Int32)
            · obtain ⟨fs, hr, hrun, hended, hEnd⟩ := X800.leaveW hS (by rw [e800]; exact hkS) (v := some (.int ((p1 + (1 : Int32)) + (1 : Int32)))) (fun h => by rw [Bd.returns] at h; cases h)
              refine ⟨_, _, pre0 _ ?_, hrun, hended, _, _, rfl, ?_, ?_, hEnd.1, hEnd.2.1, hEnd.2.2.1, hEnd.2.2.2.mono (by decide) (by decide)⟩
              · show own_S p e below s₁ (mkF m 0 #[.val (.ref a0), .val (.int p1), .unset] []) _
                refine cp802 _ ?_
                show own_S p e below T800 (mkF m 20 #[.val (.ref a0), .val (.int p1), .val (.int ((p1 + (1 : Int32)) + (1 : Int32)))] [(.int (own_io (us.getD (((p1 + (1 : Int32)) + (1 : Int32))).toNatClampNeg 0)))]) _
                refine XS.ifYes X800.here hx rfl (pc0 := 20) (pc' := 29) rfl (hb hby d11_20) rfl ((if0 _ _).trans (tlt hc801).1) (by decide) (by decide) ?_
                show own_S p e below T800 (mkF m 29 #[.val (.ref a0), .val (.int p1), .val (.int ((p1 + (1 : Int32)) + (1 : Int32)))] []) _
                refine XS.iloadN X800.here hx rfl (hb hby d11_29) rfl ?_
                show own_S p e below T800 (mkF m 30 #[.val (.ref a0), .val (.int p1), .val (.int ((p1 + (1 : Int32)) + (1 : Int32)))] [(.int ((p1 + (1 : Int32)) + (1 : Int32)))]) _
                exact retI X800 hx Bd.returns (hb hby d11_30) hr
              · show Q11 Z a0 p1 us cs gf h0 n0 _ T800.heap _
                rw [e800]
                exact ⟨congrArg (fun z => some (Value.int z)) (show _ = own_as us p1 from by unfold own_as; rw [own_lp_go hc768 hc777, own_lp_go hc780 hc789, own_lp_hit hc792 hc801]), N800, kp798⟩
              · show CHr Z own_EL s.vm s.heap T800.vm T800.heap
                rw [hh, show T800.heap = h794 from e800]
                exact hC.trans (CHv.at X800 hZ hEL hC.1)
            · obtain ⟨cq803, kq803, q803a, q803b, q803c⟩ := isOf hZ e800 x795.1
              obtain ⟨_, _, ⟨T803, L803, k803, n803⟩, -, X803, ⟨Lc803, hQ803, l803, y803, z803⟩, st803⟩ := X800.virtualBack hx (y := (⟨"java/lang/String", "length", "()I"⟩ : MethodName)) (z := (⟨"java/lang/String", "length", "()I"⟩ : MethodName)) hown (mvT hZ (own_wk hw 57 rfl)) (mvT hZ (own_wk hw 58 rfl)) (notFace_of_selects (args := #[]) (mvT hZ (own_wk hw 60 rfl))) (mvT hZ (own_wk hw 60 rfl)) (mvT hZ (own_wk hw 59 rfl)) (by decide) (backOf (W := 1) (rm12 l Z ag hw [] a0 us cs h794 n0 sz797 x795 x796 S_cs hcs) hZ (own_wk hw 61 rfl) (own_wk hw 5 rfl) (by decide) (by decide)) q803a q803c (g := (mkF m 4 #[.val (.ref a0), .val (.int p1), .val (.int (((p1 + (1 : Int32)) + (1 : Int32)) + (1 : Int32)))] [(.ref a0), (.int (((p1 + (1 : Int32)) + (1 : Int32)) + (1 : Int32)))])) rfl (by rw [hml]; rfl) (Steps.refl _) (argsL := []) (rest := [(.int (((p1 + (1 : Int32)) + (1 : Int32)) + (1 : Int32)))]) (lenOf pd_1 rfl) rfl (by show 2 * 0 + _ ≤ _; exact Nat.le_of_eq rfl) (hb hby d11_4) (fun _ _ => ⟨rfl, e800, (by decide : 6 + 0 ≤ _), (by decide : 84 + 0 ≤ _)⟩)
              dsimp only [Pt.U, Pt.locs, Pt.cells, Pt.slots] at X803 l803 y803 z803 st803 hQ803
              subst l803 y803 z803
              obtain ⟨rfl, N803q, e803⟩ := hQ803
              have N803 := Fr.app N800 N803q
              have cp805 : ∀ target, own_S p e below T803 (mkF m 7 #[.val (.ref a0), .val (.int p1), .val (.int (((p1 + (1 : Int32)) + (1 : Int32)) + (1 : Int32)))] [(.int (Int32.ofNat us.length)), (.int (((p1 + (1 : Int32)) + (1 : Int32)) + (1 : Int32)))]) target → own_S p e below s₁ (mkF m 0 #[.val (.ref a0), .val (.int p1), .unset] []) target := by
                intro target kt
                show own_S p e below s₁ (mkF m 0 #[.val (.ref a0), .val (.int p1), .unset] []) _
                refine cp802 _ ?_
                show own_S p e below T800 (mkF m 20 #[.val (.ref a0), .val (.int p1), .val (.int ((p1 + (1 : Int32)) + (1 : Int32)))] [(.int (own_io (us.getD (((p1 + (1 : Int32)) + (1 : Int32))).toNatClampNeg 0)))]) _
                refine XS.ifNo X800.here hx rfl (hb hby d11_20) rfl ((if0 _ _).trans (flt hc801).1) ?_
                show own_S p e below T800 (mkF m 23 #[.val (.ref a0), .val (.int p1), .val (.int ((p1 + (1 : Int32)) + (1 : Int32)))] []) _
                refine XS.iinc X800.here hx rfl (hb hby d11_23) rfl (l' := #[.val (.ref a0), .val (.int p1), .val (.int (((p1 + (1 : Int32)) + (1 : Int32)) + (1 : Int32)))]) rfl ?_
                show own_S p e below T800 (mkF m 26 #[.val (.ref a0), .val (.int p1), .val (.int (((p1 + (1 : Int32)) + (1 : Int32)) + (1 : Int32)))] []) _
                refine XS.goto X800.here hx rfl (pc0 := 26) (pc' := 2) rfl (hb hby d11_26) (by decide) (by decide) ?_
                show own_S p e below T800 (mkF m 2 #[.val (.ref a0), .val (.int p1), .val (.int (((p1 + (1 : Int32)) + (1 : Int32)) + (1 : Int32)))] []) _
                refine XS.iloadN X800.here hx rfl (hb hby d11_2) rfl ?_
                refine XS.aloadN X800.here hx rfl (hb hby d11_3) rfl rfl ?_
                show own_S p e below T800 (mkF m 4 #[.val (.ref a0), .val (.int p1), .val (.int (((p1 + (1 : Int32)) + (1 : Int32)) + (1 : Int32)))] [(.ref a0), (.int (((p1 + (1 : Int32)) + (1 : Int32)) + (1 : Int32)))]) _
                refine st803.trans ?_
                exact kt
              by_cases hc804 : (((p1 + (1 : Int32)) + (1 : Int32)) + (1 : Int32)) < (Int32.ofNat us.length)
              · obtain ⟨sa806, T806, h806, kS806, sb806, kb806, X806, e806, E806, hS, hkS806, hZ, hown, Es806, Fc806, Fv806, Vs806, lta806, ltb806, hCs806, hLit806, hSf806, st806⟩ := ldcCH X803 hx hZ hown (own_wk hw 85 rfl) hwS e803 hS hkS hEL (by decide) hC.1 (vs := [(.int (46 : Int32)), (.int (44 : Int32)), (.int (59 : Int32)), (.int (58 : Int32)), (.int (47 : Int32)), (.int (32 : Int32))]) (z := (6 : Int32)) ⟨by decide, rfl⟩ (by decide) (by decide) (g := (mkF m 10 #[.val (.ref a0), .val (.int p1), .val (.int (((p1 + (1 : Int32)) + (1 : Int32)) + (1 : Int32)))] [])) rfl (hb hby d11_10) (n := 24) (by decide) (by decide) (by decide) (by decide)
                have x807 := x795.ext E806
                have x808 := x796.ext E806
                have sz809 : n0 ≤ h806.size := Nat.le_trans sz797 E806.1
                have hkS := Nat.le_trans hkS E806.1
                have hC := hC.trans hCs806
                have kp810 : Keep h0 h806 [] := kp798.ext E806
                have hkS := hkS806
                obtain ⟨cq811, kq811, q811a, q811b, q811c⟩ := isOf hZ e806 x807.1
                obtain ⟨_, _, ⟨T811, L811, k811, n811⟩, -, X811, ⟨Lc811, hQ811, l811, y811, z811⟩, st811⟩ := X806.virtualBack hx (y := (⟨"java/lang/String", "charAt", "(I)C"⟩ : MethodName)) (z := (⟨"java/lang/String", "charAt", "(I)C"⟩ : MethodName)) hown (mvT hZ (own_wk hw 86 rfl)) (mvT hZ (own_wk hw 13 rfl)) (notFace_of_selects (args := #[]) (mvT hZ (own_wk hw 15 rfl))) (mvT hZ (own_wk hw 15 rfl)) (mvT hZ (own_wk hw 14 rfl)) (by decide) (backOf (W := 1) (rm2 l Z ag hw [] a0 (((p1 + (1 : Int32)) + (1 : Int32)) + (1 : Int32)) us cs gf h806 n0 sz809 x807 (own_nn _ (own_pi p1 hp).2.2.1.1) (own_us_lt' us hus _ (own_pi p1 hp).2.2.1.1 hc804) x808 S_cs hcs S_gf rv_gf S_ad S_hi S_lo) hZ (own_wk hw 16 rfl) (own_wk hw 5 rfl) (by decide) (by decide)) q811a q811c (g := (mkF m 14 #[.val (.ref a0), .val (.int p1), .val (.int (((p1 + (1 : Int32)) + (1 : Int32)) + (1 : Int32)))] [(.int (((p1 + (1 : Int32)) + (1 : Int32)) + (1 : Int32))), (.ref a0), (.ref sa806)])) rfl (by rw [hml]; rfl) (Steps.refl _) (argsL := [(.int (((p1 + (1 : Int32)) + (1 : Int32)) + (1 : Int32)))]) (rest := [(.ref sa806)]) (lenOf pd_5 rfl) rfl (by show 2 * 0 + _ ≤ _; exact Nat.le_of_eq rfl) (hb hby d11_14) (fun _ _ => ⟨rfl, e806, (by decide : 8 + 0 ≤ _), (by decide : 112 + 0 ≤ _)⟩)
                dsimp only [Pt.U, Pt.locs, Pt.cells, Pt.slots] at X811 l811 y811 z811 st811 hQ811
                subst l811 y811 z811
                obtain ⟨rfl, N811q, e811⟩ := hQ811
                have N811 := Fr.app N803 N811q
                obtain ⟨cq812, kq812, q812a, q812b, q812c⟩ := isOf hZ e811 Es806
                obtain ⟨_, _, ⟨T812, L812, k812, n812⟩, -, X812, ⟨Lc812, hQ812, l812, y812, z812⟩, st812⟩ := X811.virtualBack hx (y := (⟨"java/lang/String", "indexOf", "(I)I"⟩ : MethodName)) (z := (⟨"java/lang/String", "indexOf", "(I)I"⟩ : MethodName)) hown (mvT hZ (own_wk hw 87 rfl)) (mvT hZ (own_wk hw 88 rfl)) (notFace_of_selects (args := #[]) (mvT hZ (own_wk hw 90 rfl))) (mvT hZ (own_wk hw 90 rfl)) (mvT hZ (own_wk hw 89 rfl)) (by decide) (backOf (W := 0) (rm19 l Z ag hw [] sa806 (us.getD ((((p1 + (1 : Int32)) + (1 : Int32)) + (1 : Int32))).toNatClampNeg 0) sb806 kb806 cs h806 n0 sz809 Es806 Fv806 Fc806 Vs806 x808 S_cs hcs) hZ (own_wk hw 91 rfl) (own_wk hw 5 rfl) (by decide) (by decide)) q812a q812c (g := (mkF m 17 #[.val (.ref a0), .val (.int p1), .val (.int (((p1 + (1 : Int32)) + (1 : Int32)) + (1 : Int32)))] [(.int (us.getD ((((p1 + (1 : Int32)) + (1 : Int32)) + (1 : Int32))).toNatClampNeg 0)), (.ref sa806)])) rfl (by rw [hml]; rfl) (Steps.refl _) (argsL := [(.int (us.getD ((((p1 + (1 : Int32)) + (1 : Int32)) + (1 : Int32))).toNatClampNeg 0))]) (rest := []) (lenOf pd_6 rfl) rfl (by show 2 * 0 + _ ≤ _; exact Nat.le_of_eq rfl) (hb hby d11_17) (fun _ _ => ⟨rfl, e811, (by decide : 8 + 0 ≤ _), (by decide : 112 + 0 ≤ _)⟩)
                dsimp only [Pt.U, Pt.locs, Pt.cells, Pt.slots] at X812 l812 y812 z812 st812 hQ812
                subst l812 y812 z812
                obtain ⟨rfl, N812q, e812⟩ := hQ812
                have N812 := Fr.app N811 N812q
                have cp814 : ∀ target, own_S p e below T812 (mkF m 20 #[.val (.ref a0), .val (.int p1), .val (.int (((p1 + (1 : Int32)) + (1 : Int32)) + (1 : Int32)))] [(.int (own_io (us.getD ((((p1 + (1 : Int32)) + (1 : Int32)) + (1 : Int32))).toNatClampNeg 0)))]) target → own_S p e below s₁ (mkF m 0 #[.val (.ref a0), .val (.int p1), .unset] []) target := by
                  intro target kt
                  show own_S p e below s₁ (mkF m 0 #[.val (.ref a0), .val (.int p1), .unset] []) _
                  refine cp805 _ ?_
                  show own_S p e below T803 (mkF m 7 #[.val (.ref a0), .val (.int p1), .val (.int (((p1 + (1 : Int32)) + (1 : Int32)) + (1 : Int32)))] [(.int (Int32.ofNat us.length)), (.int (((p1 + (1 : Int32)) + (1 : Int32)) + (1 : Int32)))]) _
                  refine XS.icmpNo X803.here hx rfl (hb hby d11_7) rfl (tlt hc804).2.1 ?_
                  show own_S p e below T803 (mkF m 10 #[.val (.ref a0), .val (.int p1), .val (.int (((p1 + (1 : Int32)) + (1 : Int32)) + (1 : Int32)))] []) _
                  refine st806 _ ?_
                  show own_S p e below T806 (mkF m 12 #[.val (.ref a0), .val (.int p1), .val (.int (((p1 + (1 : Int32)) + (1 : Int32)) + (1 : Int32)))] [(.ref sa806)]) _
                  refine XS.aloadN X806.here hx rfl (hb hby d11_12) rfl rfl ?_
                  refine XS.iloadN X806.here hx rfl (hb hby d11_13) rfl ?_
                  show own_S p e below T806 (mkF m 14 #[.val (.ref a0), .val (.int p1), .val (.int (((p1 + (1 : Int32)) + (1 : Int32)) + (1 : Int32)))] [(.int (((p1 + (1 : Int32)) + (1 : Int32)) + (1 : Int32))), (.ref a0), (.ref sa806)]) _
                  refine st811.trans ?_
                  show own_S p e below T811 (mkF m 17 #[.val (.ref a0), .val (.int p1), .val (.int (((p1 + (1 : Int32)) + (1 : Int32)) + (1 : Int32)))] [(.int (us.getD ((((p1 + (1 : Int32)) + (1 : Int32)) + (1 : Int32))).toNatClampNeg 0)), (.ref sa806)]) _
                  refine st812.trans ?_
                  exact kt
                by_cases hc813 : (own_io (us.getD ((((p1 + (1 : Int32)) + (1 : Int32)) + (1 : Int32))).toNatClampNeg 0)) < (0 : Int32)
                · obtain ⟨fs, hr, hrun, hended, hEnd⟩ := X812.leaveW hS (by rw [e812]; exact hkS) (v := some (.int (((p1 + (1 : Int32)) + (1 : Int32)) + (1 : Int32)))) (fun h => by rw [Bd.returns] at h; cases h)
                  refine ⟨_, _, pre0 _ ?_, hrun, hended, _, _, rfl, ?_, ?_, hEnd.1, hEnd.2.1, hEnd.2.2.1, hEnd.2.2.2.mono (by decide) (by decide)⟩
                  · show own_S p e below s₁ (mkF m 0 #[.val (.ref a0), .val (.int p1), .unset] []) _
                    refine cp814 _ ?_
                    show own_S p e below T812 (mkF m 20 #[.val (.ref a0), .val (.int p1), .val (.int (((p1 + (1 : Int32)) + (1 : Int32)) + (1 : Int32)))] [(.int (own_io (us.getD ((((p1 + (1 : Int32)) + (1 : Int32)) + (1 : Int32))).toNatClampNeg 0)))]) _
                    refine XS.ifYes X812.here hx rfl (pc0 := 20) (pc' := 29) rfl (hb hby d11_20) rfl ((if0 _ _).trans (tlt hc813).1) (by decide) (by decide) ?_
                    show own_S p e below T812 (mkF m 29 #[.val (.ref a0), .val (.int p1), .val (.int (((p1 + (1 : Int32)) + (1 : Int32)) + (1 : Int32)))] []) _
                    refine XS.iloadN X812.here hx rfl (hb hby d11_29) rfl ?_
                    show own_S p e below T812 (mkF m 30 #[.val (.ref a0), .val (.int p1), .val (.int (((p1 + (1 : Int32)) + (1 : Int32)) + (1 : Int32)))] [(.int (((p1 + (1 : Int32)) + (1 : Int32)) + (1 : Int32)))]) _
                    exact retI X812 hx Bd.returns (hb hby d11_30) hr
                  · show Q11 Z a0 p1 us cs gf h0 n0 _ T812.heap _
                    rw [e812]
                    exact ⟨congrArg (fun z => some (Value.int z)) (show _ = own_as us p1 from by unfold own_as; rw [own_lp_go hc768 hc777, own_lp_go hc780 hc789, own_lp_go hc792 hc801, own_lp_hit hc804 hc813]), N812, kp810⟩
                  · show CHr Z own_EL s.vm s.heap T812.vm T812.heap
                    rw [hh, show T812.heap = h806 from e812]
                    exact hC.trans (CHv.at X812 hZ hEL hC.1)
                · obtain ⟨cq815, kq815, q815a, q815b, q815c⟩ := isOf hZ e812 x807.1
                  obtain ⟨_, _, ⟨T815, L815, k815, n815⟩, -, X815, ⟨Lc815, hQ815, l815, y815, z815⟩, st815⟩ := X812.virtualBack hx (y := (⟨"java/lang/String", "length", "()I"⟩ : MethodName)) (z := (⟨"java/lang/String", "length", "()I"⟩ : MethodName)) hown (mvT hZ (own_wk hw 57 rfl)) (mvT hZ (own_wk hw 58 rfl)) (notFace_of_selects (args := #[]) (mvT hZ (own_wk hw 60 rfl))) (mvT hZ (own_wk hw 60 rfl)) (mvT hZ (own_wk hw 59 rfl)) (by decide) (backOf (W := 1) (rm12 l Z ag hw [] a0 us cs h806 n0 sz809 x807 x808 S_cs hcs) hZ (own_wk hw 61 rfl) (own_wk hw 5 rfl) (by decide) (by decide)) q815a q815c (g := (mkF m 4 (own_loc53 a0 p1) [(.ref a0), (.int ((((p1 + (1 : Int32)) + (1 : Int32)) + (1 : Int32)) + (1 : Int32)))])) rfl (by rw [hml]; rfl) (Steps.refl _) (argsL := []) (rest := [(.int ((((p1 + (1 : Int32)) + (1 : Int32)) + (1 : Int32)) + (1 : Int32)))]) (lenOf pd_1 rfl) rfl (by show 2 * 0 + _ ≤ _; exact Nat.le_of_eq rfl) (hb hby d11_4) (fun _ _ => ⟨rfl, e812, (by decide : 8 + 0 ≤ _), (by decide : 112 + 0 ≤ _)⟩)
                  dsimp only [Pt.U, Pt.locs, Pt.cells, Pt.slots] at X815 l815 y815 z815 st815 hQ815
                  subst l815 y815 z815
                  obtain ⟨rfl, N815q, e815⟩ := hQ815
                  have N815 := Fr.app N812 N815q
                  obtain ⟨fs, hr, hrun, hended, hEnd⟩ := X815.leaveW hS (by rw [e815]; exact hkS) (v := some (.int ((((p1 + (1 : Int32)) + (1 : Int32)) + (1 : Int32)) + (1 : Int32)))) (fun h => by rw [Bd.returns] at h; cases h)
                  refine ⟨_, _, pre0 _ ?_, hrun, hended, _, _, rfl, ?_, ?_, hEnd.1, hEnd.2.1, hEnd.2.2.1, hEnd.2.2.2.mono (by decide) (by decide)⟩
                  · show own_S p e below s₁ (mkF m 0 #[.val (.ref a0), .val (.int p1), .unset] []) _
                    refine cp814 _ ?_
                    show own_S p e below T812 (mkF m 20 #[.val (.ref a0), .val (.int p1), .val (.int (((p1 + (1 : Int32)) + (1 : Int32)) + (1 : Int32)))] [(.int (own_io (us.getD ((((p1 + (1 : Int32)) + (1 : Int32)) + (1 : Int32))).toNatClampNeg 0)))]) _
                    refine XS.ifNo X812.here hx rfl (hb hby d11_20) rfl ((if0 _ _).trans (flt hc813).1) ?_
                    show own_S p e below T812 (mkF m 23 #[.val (.ref a0), .val (.int p1), .val (.int (((p1 + (1 : Int32)) + (1 : Int32)) + (1 : Int32)))] []) _
                    refine XS.iinc X812.here hx rfl (hb hby d11_23) rfl (l' := (own_loc53 a0 p1)) rfl ?_
                    show own_S p e below T812 (mkF m 26 (own_loc53 a0 p1) []) _
                    refine XS.goto X812.here hx rfl (pc0 := 26) (pc' := 2) rfl (hb hby d11_26) (by decide) (by decide) ?_
                    show own_S p e below T812 (mkF m 2 (own_loc53 a0 p1) []) _
                    refine XS.iloadN X812.here hx rfl (hb hby d11_2) rfl ?_
                    refine XS.aloadN X812.here hx rfl (hb hby d11_3) rfl rfl ?_
                    show own_S p e below T812 (mkF m 4 (own_loc53 a0 p1) [(.ref a0), (.int ((((p1 + (1 : Int32)) + (1 : Int32)) + (1 : Int32)) + (1 : Int32)))]) _
                    refine st815.trans ?_
                    show own_S p e below T815 (mkF m 7 (own_loc53 a0 p1) [(.int (Int32.ofNat us.length)), (.int ((((p1 + (1 : Int32)) + (1 : Int32)) + (1 : Int32)) + (1 : Int32)))]) _
                    refine XS.icmpYes X815.here hx rfl (pc0 := 7) (pc' := 29) rfl (hb hby d11_7) rfl (flt (show ¬ (((((p1 + (1 : Int32)) + (1 : Int32)) + (1 : Int32)) + (1 : Int32)) < (Int32.ofNat us.length)) from own_len4 us hus _ (own_ge4 _ (own_pi p1 hp).2.2.2))).2.1 (by decide) (by decide) ?_
                    show own_S p e below T815 (mkF m 29 (own_loc53 a0 p1) []) _
                    refine XS.iloadN X815.here hx rfl (hb hby d11_29) rfl ?_
                    show own_S p e below T815 (mkF m 30 (own_loc53 a0 p1) [(.int ((((p1 + (1 : Int32)) + (1 : Int32)) + (1 : Int32)) + (1 : Int32)))]) _
                    exact retI X815 hx Bd.returns (hb hby d11_30) hr
                  · show Q11 Z a0 p1 us cs gf h0 n0 _ T815.heap _
                    rw [e815]
                    exact ⟨congrArg (fun z => some (Value.int z)) (show _ = own_as us p1 from by unfold own_as; rw [own_lp_go hc768 hc777, own_lp_go hc780 hc789, own_lp_go hc792 hc801, own_lp_go hc804 hc813]; first | done | rfl), N815, kp810⟩
                  · show CHr Z own_EL s.vm s.heap T815.vm T815.heap
                    rw [hh, show T815.heap = h806 from e815]
                    exact hC.trans (CHv.at X815 hZ hEL hC.1)
              · obtain ⟨fs, hr, hrun, hended, hEnd⟩ := X803.leaveW hS (by rw [e803]; exact hkS) (v := some (.int (((p1 + (1 : Int32)) + (1 : Int32)) + (1 : Int32)))) (fun h => by rw [Bd.returns] at h; cases h)
                refine ⟨_, _, pre0 _ ?_, hrun, hended, _, _, rfl, ?_, ?_, hEnd.1, hEnd.2.1, hEnd.2.2.1, hEnd.2.2.2.mono (by decide) (by decide)⟩
                · show own_S p e below s₁ (mkF m 0 #[.val (.ref a0), .val (.int p1), .unset] []) _
                  refine cp805 _ ?_
                  show own_S p e below T803 (mkF m 7 #[.val (.ref a0), .val (.int p1), .val (.int (((p1 + (1 : Int32)) + (1 : Int32)) + (1 : Int32)))] [(.int (Int32.ofNat us.length)), (.int (((p1 + (1 : Int32)) + (1 : Int32)) + (1 : Int32)))]) _
                  refine XS.icmpYes X803.here hx rfl (pc0 := 7) (pc' := 29) rfl (hb hby d11_7) rfl (flt hc804).2.1 (by decide) (by decide) ?_
                  show own_S p e below T803 (mkF m 29 #[.val (.ref a0), .val (.int p1), .val (.int (((p1 + (1 : Int32)) + (1 : Int32)) + (1 : Int32)))] []) _
                  refine XS.iloadN X803.here hx rfl (hb hby d11_29) rfl ?_
                  show own_S p e below T803 (mkF m 30 #[.val (.ref a0), .val (.int p1), .val (.int (((p1 + (1 : Int32)) + (1 : Int32)) + (1 : Int32)))] [(.int (((p1 + (1 : Int32)) + (1 : Int32)) + (1 : Int32)))]) _
                  exact retI X803 hx Bd.returns (hb hby d11_30) hr
                · show Q11 Z a0 p1 us cs gf h0 n0 _ T803.heap _
                  rw [e803]
                  exact ⟨congrArg (fun z => some (Value.int z)) (show _ = own_as us p1 from by unfold own_as; rw [own_lp_go hc768 hc777, own_lp_go hc780 hc789, own_lp_go hc792 hc801, own_lp_stop hc804]), N803, kp798⟩
                · show CHr Z own_EL s.vm s.heap T803.vm T803.heap
                  rw [hh, show T803.heap = h794 from e803]
                  exact hC.trans (CHv.at X803 hZ hEL hC.1)
          · obtain ⟨fs, hr, hrun, hended, hEnd⟩ := X791.leaveW hS (by rw [e791]; exact hkS) (v := some (.int ((p1 + (1 : Int32)) + (1 : Int32)))) (fun h => by rw [Bd.returns] at h; cases h)
            refine ⟨_, _, pre0 _ ?_, hrun, hended, _, _, rfl, ?_, ?_, hEnd.1, hEnd.2.1, hEnd.2.2.1, hEnd.2.2.2.mono (by decide) (by decide)⟩
            · show own_S p e below s₁ (mkF m 0 #[.val (.ref a0), .val (.int p1), .unset] []) _
              refine cp793 _ ?_
              show own_S p e below T791 (mkF m 7 #[.val (.ref a0), .val (.int p1), .val (.int ((p1 + (1 : Int32)) + (1 : Int32)))] [(.int (Int32.ofNat us.length)), (.int ((p1 + (1 : Int32)) + (1 : Int32)))]) _
              refine XS.icmpYes X791.here hx rfl (pc0 := 7) (pc' := 29) rfl (hb hby d11_7) rfl (flt hc792).2.1 (by decide) (by decide) ?_
              show own_S p e below T791 (mkF m 29 #[.val (.ref a0), .val (.int p1), .val (.int ((p1 + (1 : Int32)) + (1 : Int32)))] []) _
              refine XS.iloadN X791.here hx rfl (hb hby d11_29) rfl ?_
              show own_S p e below T791 (mkF m 30 #[.val (.ref a0), .val (.int p1), .val (.int ((p1 + (1 : Int32)) + (1 : Int32)))] [(.int ((p1 + (1 : Int32)) + (1 : Int32)))]) _
              exact retI X791 hx Bd.returns (hb hby d11_30) hr
            · show Q11 Z a0 p1 us cs gf h0 n0 _ T791.heap _
              rw [e791]
              exact ⟨congrArg (fun z => some (Value.int z)) (show _ = own_as us p1 from by unfold own_as; rw [own_lp_go hc768 hc777, own_lp_go hc780 hc789, own_lp_stop hc792]), N791, kp786⟩
            · show CHr Z own_EL s.vm s.heap T791.vm T791.heap
              rw [hh, show T791.heap = h782 from e791]
              exact hC.trans (CHv.at X791 hZ hEL hC.1)
      · obtain ⟨fs, hr, hrun, hended, hEnd⟩ := X779.leaveW hS (by rw [e779]; exact hkS) (v := some (.int (p1 + (1 : Int32)))) (fun h => by rw [Bd.returns] at h; cases h)
        refine ⟨_, _, pre0 _ ?_, hrun, hended, _, _, rfl, ?_, ?_, hEnd.1, hEnd.2.1, hEnd.2.2.1, hEnd.2.2.2.mono (by decide) (by decide)⟩
        · show own_S p e below s₁ (mkF m 0 #[.val (.ref a0), .val (.int p1), .unset] []) _
          refine cp781 _ ?_
          show own_S p e below T779 (mkF m 7 #[.val (.ref a0), .val (.int p1), .val (.int (p1 + (1 : Int32)))] [(.int (Int32.ofNat us.length)), (.int (p1 + (1 : Int32)))]) _
          refine XS.icmpYes X779.here hx rfl (pc0 := 7) (pc' := 29) rfl (hb hby d11_7) rfl (flt hc780).2.1 (by decide) (by decide) ?_
          show own_S p e below T779 (mkF m 29 #[.val (.ref a0), .val (.int p1), .val (.int (p1 + (1 : Int32)))] []) _
          refine XS.iloadN X779.here hx rfl (hb hby d11_29) rfl ?_
          show own_S p e below T779 (mkF m 30 #[.val (.ref a0), .val (.int p1), .val (.int (p1 + (1 : Int32)))] [(.int (p1 + (1 : Int32)))]) _
          exact retI X779 hx Bd.returns (hb hby d11_30) hr
        · show Q11 Z a0 p1 us cs gf h0 n0 _ T779.heap _
          rw [e779]
          exact ⟨congrArg (fun z => some (Value.int z)) (show _ = own_as us p1 from by unfold own_as; rw [own_lp_go hc768 hc777, own_lp_stop hc780]), N779, kp774⟩
        · show CHr Z own_EL s.vm s.heap T779.vm T779.heap
          rw [hh, show T779.heap = h770 from e779]
          exact hC.trans (CHv.at X779 hZ hEL hC.1)
  · obtain ⟨fs, hr, hrun, hended, hEnd⟩ := X767.leaveW hS (by rw [e767]; exact hkS) (v := some (.int p1)) (fun h => by rw [Bd.returns] at h; cases h)
    refine ⟨_, _, pre0 _ ?_, hrun, hended, _, _, rfl, ?_, ?_, hEnd.1, hEnd.2.1, hEnd.2.2.1, hEnd.2.2.2.mono (by decide) (by decide)⟩
    · show own_S p e below s₁ (mkF m 0 #[.val (.ref a0), .val (.int p1), .unset] []) _
      refine cp769 _ ?_
      show own_S p e below T767 (mkF m 7 #[.val (.ref a0), .val (.int p1), .val (.int p1)] [(.int (Int32.ofNat us.length)), (.int p1)]) _
      refine XS.icmpYes X767.here hx rfl (pc0 := 7) (pc' := 29) rfl (hb hby d11_7) rfl (flt hc768).2.1 (by decide) (by decide) ?_
      show own_S p e below T767 (mkF m 29 #[.val (.ref a0), .val (.int p1), .val (.int p1)] []) _
      refine XS.iloadN X767.here hx rfl (hb hby d11_29) rfl ?_
      show own_S p e below T767 (mkF m 30 #[.val (.ref a0), .val (.int p1), .val (.int p1)] [(.int p1)]) _
      exact retI X767 hx Bd.returns (hb hby d11_30) hr
    · show Q11 Z a0 p1 us cs gf h0 n0 _ T767.heap _
      rw [e767]
      exact ⟨congrArg (fun z => some (Value.int z)) (show _ = own_as us p1 from by unfold own_as; rw [own_lp_stop hc768]), N767, (Keep.refl h0 [])⟩
    · show CHr Z own_EL s.vm s.heap T767.vm T767.heap
      rw [hh, show T767.heap = h0 from e767]
      exact hC.trans (CHv.at X767 hZ hEL hC.1)
def own_ir (p0 p1 p2 p3 p4 p5 p6 : Int32) : Int32 := if p0 < p1 then (1 : Int32) else if p0 < p2 then (nar .boolean (own_is (own_pick p0 p3 p4 p5 p6))) else (1 : Int32)
theorem ef_15 (m : MethodId) (p0 : Int32) (p1 : Int32) (p2 : Int32) (p3 : Int32) (p4 : Int32) (p5 : Int32) (p6 : Int32) : entryFrame m #[(.int p0), (.int p1), (.int p2), (.int p3), (.int p4), (.int p5), (.int p6)] 7 = mkF m 0 #[.val (.int p0), .val (.int p1), .val (.int p2), .val (.int p3), .val (.int p4), .val (.int p5), .val (.int p6)] [] := by first | (simp [entryFrame, mkF, argsToLocals, Value.category]; done) | rfl
abbrev own_loc54 (p0 : Int32) (p1 : Int32) (p2 : Int32) (p3 : Int32) (p4 : Int32) (p5 : Int32) (p6 : Int32) : Array Slot := #[.val (.int p0), .val (.int p1), .val (.int p2), .val (.int p3), .val (.int p4), .val (.int p5), .val (.int p6)]
theorem d15_0 : decode method_6_code 0 = .ok (.iload_n 1, 1) := by decide +kernel
theorem d15_1 : decode method_6_code 1 = .ok (.iload_n 0, 1) := by decide +kernel
theorem d15_2 : decode method_6_code 2 = .ok (.if_icmp .gt 23, 3) := by decide +kernel
theorem d15_25 : decode method_6_code 25 = .ok (.iconst 1, 1) := by decide +kernel
theorem d15_26 : decode method_6_code 26 = .ok (.ireturn, 1) := by decide +kernel
theorem d15_5 : decode method_6_code 5 = .ok (.iload_n 0, 1) := by decide +kernel
theorem d15_6 : decode method_6_code 6 = .ok (.iload_n 2, 1) := by decide +kernel
theorem d15_7 : decode method_6_code 7 = .ok (.if_icmp .ge 18, 3) := by decide +kernel
theorem d15_10 : decode method_6_code 10 = .ok (.iload_n 0, 1) := by decide +kernel
theorem d15_11 : decode method_6_code 11 = .ok (.iload_n 3, 1) := by decide +kernel
theorem d15_12 : decode method_6_code 12 = .ok (.iload 4, 2) := by decide +kernel
theorem d15_14 : decode method_6_code 14 = .ok (.iload 5, 2) := by decide +kernel
theorem d15_16 : decode method_6_code 16 = .ok (.iload 6, 2) := by decide +kernel
theorem pd_9 : parseMethodDescriptor "(ICCCC)C" = some ⟨[.int, .char, .char, .char, .char], some .char⟩ := by decide +kernel
theorem d15_18 : decode method_6_code 18 = .ok (.invokestatic 16, 3) := by decide +kernel
theorem pd_4 : parseMethodDescriptor "(C)Z" = some ⟨[.char], some .boolean⟩ := by decide +kernel
theorem d15_21 : decode method_6_code 21 = .ok (.invokestatic 22, 3) := by decide +kernel
theorem d15_24 : decode method_6_code 24 = .ok (.ireturn, 1) := by decide +kernel
def Q15 (Z : State) (p0 : Int32) (p1 : Int32) (p2 : Int32) (p3 : Int32) (p4 : Int32) (p5 : Int32) (p6 : Int32) (h0 : Heap) (n0 : Nat) (v : Option Value) (h : Heap) (L : List Loc) : Prop := v = some (.int (own_ir p0 p1 p2 p3 p4 p5 p6)) ∧ Fr n0 L ∧ h = h0
set_option maxRecDepth 65536 in
set_option maxHeartbeats 40000000 in
theorem rm15 (l : Launch) (Z : State) (ag : Array Value) (hw : ∀ d ∈ tables_1, d.before ag Z = true) (ws : List Jvm.Cond) (p0 : Int32) (p1 : Int32) (p2 : Int32) (p3 : Int32) (p4 : Int32) (p5 : Int32) (p6 : Int32) (h0 : Heap) (n0 : Nat) (Z0 : n0 ≤ h0.size) :
    MetFree l (⟨"com/example/citeloom/citeloom/references/FieldTextAfterSeparatorsPinLaw", "inRunOk", "(IIICCCC)Z"⟩ : MethodName) (head1 (Jvm.Cond.code (⟨"com/example/citeloom/citeloom/references/FieldTextAfterSeparatorsPinLaw", "inRunOk", "(IIICCCC)Z"⟩ : MethodName) method_6_code 7 (some .boolean) :: ws) ({ frames := 1, cells := 0, slots := 0, locals := 16 } : Room)) (fun a U => a = #[(.int p0), (.int p1), (.int p2), (.int p3), (.int p4), (.int p5), (.int p6)] ∧ Z.Warmed39 U.vm ∧ U.heap = h0) (fun _ _ _ _ _ => True) (fun _ U o U' => ∃ v L, o = .returned v ∧ Q15 Z p0 p1 p2 p3 p4 p5 p6 h0 n0 v U'.heap L ∧ FrameEnd U o U' L ({ frames := 1, cells := 0, slots := 0, locals := 16 } : Room).cells ({ frames := 1, cells := 0, slots := 0, locals := 16 } : Room).slots) := by
  refine MetFree.of_bodySF (plainFor_of_name pn_1) hisR ?_
  intro p e s m args below meth c s₁ Bd hml0 hP hK
  obtain ⟨rfl, hZ, hh⟩ := hP
  have hx := Bd.exec
  have hby := Bd.bytes
  have hml : c.maxLocals = 7 := hml0
  have hown : s.vm.findClass "com/example/citeloom/citeloom/references/FieldTextAfterSeparatorsPinLaw" = some m.cls := findClass_of_methodNamed Bd.named
  have hnm := (name_of_methodNamed Bd.named Bd.method).1
  have X0 : Stand p l e ({ frames := 1, cells := 0, slots := 0, locals := 16 } : Room) s m #[(.int p0), (.int p1), (.int p2), (.int p3), (.int p4), (.int p5), (.int p6)] below meth c s₁ [] 0 0 := Stand.of_body Bd
  have e0 : s₁.heap = h0 := by rw [← hh, Bd.state]; rfl
  have N0 := Fr.nil n0
  have pre0 : ∀ t, Steps p.tables e below (s₁.setTop (mkF m 0 #[.val (.int p0), .val (.int p1), .val (.int p2), .val (.int p3), .val (.int p4), .val (.int p5), .val (.int p6)] [])) t → Steps p.tables e below (s₁.setTop (entryFrame m #[(.int p0), (.int p1), (.int p2), (.int p3), (.int p4), (.int p5), (.int p6)] 7)) t := fun t k => castTop (ef_15 m p0 p1 p2 p3 p4 p5 p6) k
  by_cases hc816 : p0 < p1
  · obtain ⟨fs, hr, hrun, hended, hW, hsame⟩ := X0.leave (v := some (.int (1 : Int32))) (fun h => by rw [Bd.returns] at h; cases h)
    refine ⟨_, _, pre0 _ ?_, hrun, hended, _, _, rfl, ?_, ⟨_, rfl⟩, hW, hsame.mono (by decide) (by decide)⟩
    · show own_S p e below s₁ (mkF m 0 (own_loc54 p0 p1 p2 p3 p4 p5 p6) []) _
      refine XS.iloadN X0.here hx rfl (hb hby d15_0) rfl ?_
      refine XS.iloadN X0.here hx rfl (hb hby d15_1) rfl ?_
      refine XS.icmpYes X0.here hx rfl (pc0 := 2) (pc' := 25) rfl (hb hby d15_2) rfl (tlt hc816).2.2.1 (by decide) (by decide) ?_
      show own_S p e below s₁ (mkF m 25 (own_loc54 p0 p1 p2 p3 p4 p5 p6) []) _
      refine XS.iconst X0.here hx rfl (hb hby d15_25) ?_
      show own_S p e below s₁ (mkF m 26 (own_loc54 p0 p1 p2 p3 p4 p5 p6) [.int 1]) _
      exact retN X0 hx (t := .boolean) Bd.returns (by simp) (hb hby d15_26) hr
    · show Q15 Z p0 p1 p2 p3 p4 p5 p6 h0 n0 _ s₁.heap _
      rw [e0]
      exact ⟨congrArg (fun z => some (Value.int z)) (show _ = own_ir p0 p1 p2 p3 p4 p5 p6 from by unfold own_ir; rw [if_pos hc816]), N0, rfl⟩
  · have cp818 : ∀ target, own_S p e below s₁ (mkF m 7 (own_loc54 p0 p1 p2 p3 p4 p5 p6) [(.int p2), (.int p0)]) target → own_S p e below s₁ (mkF m 0 (own_loc54 p0 p1 p2 p3 p4 p5 p6) []) target := by
      intro target kt
      show own_S p e below s₁ (mkF m 0 (own_loc54 p0 p1 p2 p3 p4 p5 p6) []) _
      refine XS.iloadN X0.here hx rfl (hb hby d15_0) rfl ?_
      refine XS.iloadN X0.here hx rfl (hb hby d15_1) rfl ?_
      refine XS.icmpNo X0.here hx rfl (hb hby d15_2) rfl (flt hc816).2.2.1 ?_
      show own_S p e below s₁ (mkF m 5 (own_loc54 p0 p1 p2 p3 p4 p5 p6) []) _
      refine XS.iloadN X0.here hx rfl (hb hby d15_5) rfl ?_
      refine XS.iloadN X0.here hx rfl (hb hby d15_6) rfl ?_
      exact kt
    by_cases hc817 : p0 < p2
    · obtain ⟨_, _, ⟨T819, L819, k819, n819⟩, -, X819, ⟨Lc819, hQ819, l819, y819, z819⟩, st819⟩ := Jvm.LawKit.callS X0 hx (y := (⟨"com/example/citeloom/citeloom/references/FieldTextAfterSeparatorsPinLaw", "pick", "(ICCCC)C"⟩ : MethodName)) hown (mvT hZ (own_wk hw 111 rfl)) (mvT hZ (own_wk hw 112 rfl)) (mvT hZ (own_wk hw 2 rfl)) (mvT hZ (own_wk hw 113 rfl)) (by decide) (backOf (W := 0) (rm25 l Z ag hw [] p0 p3 p4 p5 p6  h0 n0 Z0 ) hZ (own_wk hw 113 rfl) (own_wk hw 2 rfl) (by decide) (by decide)) (g := (mkF m 18 (own_loc54 p0 p1 p2 p3 p4 p5 p6) [(.int p6), (.int p5), (.int p4), (.int p3), (.int p0)])) rfl (by rw [hml]; rfl) (argsL := [(.int p0), (.int p3), (.int p4), (.int p5), (.int p6)]) (rest := []) (lenOf pd_9 rfl) rfl (by show 2 * 0 + _ ≤ _; exact Nat.le_of_eq rfl) (hb hby d15_18) (fun _ _ => ⟨rfl, e0, (by decide : 0 + 0 ≤ _), (by decide : 0 + 0 ≤ _)⟩)
      dsimp only [Pt.U, Pt.locs, Pt.cells, Pt.slots] at X819 l819 y819 z819 st819 hQ819
      subst l819 y819 z819
      obtain ⟨rfl, N819q, e819⟩ := hQ819
      have N819 := Fr.app N0 N819q
      obtain ⟨_, _, ⟨T820, L820, k820, n820⟩, -, X820, ⟨Lc820, hQ820, l820, y820, z820⟩, st820⟩ := Jvm.LawKit.callS X819 hx (y := (⟨"com/example/citeloom/citeloom/references/FieldTextAfterSeparatorsPinLaw", "isSep", "(C)Z"⟩ : MethodName)) hown (mvT hZ (own_wk hw 114 rfl)) (mvT hZ (own_wk hw 115 rfl)) (mvT hZ (own_wk hw 2 rfl)) (mvT hZ (own_wk hw 116 rfl)) (by decide) (backOf (W := 0) (rm26 l Z ag hw [] (own_pick p0 p3 p4 p5 p6)  h0 n0 Z0 ) hZ (own_wk hw 116 rfl) (own_wk hw 2 rfl) (by decide) (by decide)) (g := (mkF m 21 (own_loc54 p0 p1 p2 p3 p4 p5 p6) [(.int (own_pick p0 p3 p4 p5 p6))])) rfl (by rw [hml]; rfl) (argsL := [(.int (own_pick p0 p3 p4 p5 p6))]) (rest := []) (lenOf pd_4 rfl) rfl (by show 2 * 0 + _ ≤ _; exact Nat.le_of_eq rfl) (hb hby d15_21) (fun _ _ => ⟨rfl, e819, (by decide : 0 + 0 ≤ _), (by decide : 0 + 0 ≤ _)⟩)
      dsimp only [Pt.U, Pt.locs, Pt.cells, Pt.slots] at X820 l820 y820 z820 st820 hQ820
      subst l820 y820 z820
      obtain ⟨rfl, N820q, e820⟩ := hQ820
      have N820 := Fr.app N819 N820q
      obtain ⟨fs, hr, hrun, hended, hW, hsame⟩ := X820.leave (v := some (.int (nar .boolean (own_is (own_pick p0 p3 p4 p5 p6))))) (fun h => by rw [Bd.returns] at h; cases h)
      refine ⟨_, _, pre0 _ ?_, hrun, hended, _, _, rfl, ?_, ⟨_, rfl⟩, hW, hsame.mono (by decide) (by decide)⟩
      · show own_S p e below s₁ (mkF m 0 (own_loc54 p0 p1 p2 p3 p4 p5 p6) []) _
        refine cp818 _ ?_
        show own_S p e below s₁ (mkF m 7 (own_loc54 p0 p1 p2 p3 p4 p5 p6) [(.int p2), (.int p0)]) _
        refine XS.icmpNo X0.here hx rfl (hb hby d15_7) rfl (tlt hc817).2.1 ?_
        show own_S p e below s₁ (mkF m 10 (own_loc54 p0 p1 p2 p3 p4 p5 p6) []) _
        refine XS.iloadN X0.here hx rfl (hb hby d15_10) rfl ?_
        refine XS.iloadN X0.here hx rfl (hb hby d15_11) rfl ?_
        refine XS.iload X0.here hx rfl (hb hby d15_12) rfl ?_
        refine XS.iload X0.here hx rfl (hb hby d15_14) rfl ?_
        refine XS.iload X0.here hx rfl (hb hby d15_16) rfl ?_
        show own_S p e below s₁ (mkF m 18 (own_loc54 p0 p1 p2 p3 p4 p5 p6) [(.int p6), (.int p5), (.int p4), (.int p3), (.int p0)]) _
        refine st819 _ ?_
        show own_S p e below T819 (mkF m 21 (own_loc54 p0 p1 p2 p3 p4 p5 p6) [(.int (own_pick p0 p3 p4 p5 p6))]) _
        refine st820 _ ?_
        show own_S p e below T820 (mkF m 24 (own_loc54 p0 p1 p2 p3 p4 p5 p6) [(.int (own_is (own_pick p0 p3 p4 p5 p6)))]) _
        exact retN X820 hx (t := .boolean) Bd.returns (by simp) (hb hby d15_24) hr
      · show Q15 Z p0 p1 p2 p3 p4 p5 p6 h0 n0 _ T820.heap _
        rw [e820]
        exact ⟨congrArg (fun z => some (Value.int z)) (show _ = own_ir p0 p1 p2 p3 p4 p5 p6 from by unfold own_ir; rw [if_neg hc816, if_pos hc817]), N820, rfl⟩
    · obtain ⟨fs, hr, hrun, hended, hW, hsame⟩ := X0.leave (v := some (.int (1 : Int32))) (fun h => by rw [Bd.returns] at h; cases h)
      refine ⟨_, _, pre0 _ ?_, hrun, hended, _, _, rfl, ?_, ⟨_, rfl⟩, hW, hsame.mono (by decide) (by decide)⟩
      · show own_S p e below s₁ (mkF m 0 (own_loc54 p0 p1 p2 p3 p4 p5 p6) []) _
        refine cp818 _ ?_
        show own_S p e below s₁ (mkF m 7 (own_loc54 p0 p1 p2 p3 p4 p5 p6) [(.int p2), (.int p0)]) _
        refine XS.icmpYes X0.here hx rfl (pc0 := 7) (pc' := 25) rfl (hb hby d15_7) rfl (flt hc817).2.1 (by decide) (by decide) ?_
        show own_S p e below s₁ (mkF m 25 (own_loc54 p0 p1 p2 p3 p4 p5 p6) []) _
        refine XS.iconst X0.here hx rfl (hb hby d15_25) ?_
        show own_S p e below s₁ (mkF m 26 (own_loc54 p0 p1 p2 p3 p4 p5 p6) [.int 1]) _
        exact retN X0 hx (t := .boolean) Bd.returns (by simp) (hb hby d15_26) hr
      · show Q15 Z p0 p1 p2 p3 p4 p5 p6 h0 n0 _ s₁.heap _
        rw [e0]
        exact ⟨congrArg (fun z => some (Value.int z)) (show _ = own_ir p0 p1 p2 p3 p4 p5 p6 from by unfold own_ir; rw [if_neg hc816, if_neg hc817]), N0, rfl⟩
theorem own_draw_rng (p : Int32) : 0 ≤ (own_draw p).toInt ∧ (own_draw p).toInt < 65536 := by
  unfold own_draw; split
  · exact own_nar_rng _
  · exact own_nar_rng _
theorem own_byte (c m : Int32) (M : Int) (hm : m.toInt = M) (h0 : 0 ≤ c.toInt) (h1 : c.toInt ≤ 255) (q0 : 0 ≤ M) (q1 : M < 128) : (m = c.toInt8.toInt32) ↔ (c = m) := by
  have b := c_i2b c
  rw [← Int32.toInt_inj, ← Int32.toInt_inj, hm]; omega
theorem own_is01 (c : Int32) : own_is c = 0 ∨ own_is c = 1 := by unfold own_is; (repeat' split) <;> simp
theorem own_ioq (c : Int32) (h : 0 ≤ c.toInt ∧ c.toInt < 65536) : ((own_io (nar .char c)) < (0 : Int32)) ↔ (own_is c = (0 : Int32)) := by
  rw [own_nar c h.1 h.2]
  by_cases k : c.toInt ≤ 255
  · have e : own_ce c = 1 := by
      unfold own_ce
      rw [if_neg (by rw [Int32.lt_iff_toInt_lt, show (0 : Int32).toInt = 0 from rfl]; omega), if_neg (by rw [Int32.lt_iff_toInt_lt, show (255 : Int32).toInt = 255 from rfl]; omega)]
    have b46 := own_byte c 46 46 rfl h.1 k (by decide) (by decide); have b44 := own_byte c 44 44 rfl h.1 k (by decide) (by decide); have b59 := own_byte c 59 59 rfl h.1 k (by decide) (by decide)
    have b58 := own_byte c 58 58 rfl h.1 k (by decide) (by decide); have b47 := own_byte c 47 47 rfl h.1 k (by decide) (by decide); have b32 := own_byte c 32 32 rfl h.1 k (by decide) (by decide)
    have d : own_io c = own_ioc c := by unfold own_io; rw [e, if_neg (by decide)]
    rw [d]
    by_cases a1 : c = 46
    · unfold own_ioc own_is; rw [if_pos (b46.mpr a1), if_pos a1]; decide
    by_cases a2 : c = 44
    · unfold own_ioc own_is; rw [if_neg (fun q => a1 (b46.mp q)), if_pos (b44.mpr a2), if_neg a1, if_pos a2]; decide
    by_cases a3 : c = 59
    · unfold own_ioc own_is; rw [if_neg (fun q => a1 (b46.mp q)), if_neg (fun q => a2 (b44.mp q)), if_pos (b59.mpr a3), if_neg a1, if_neg a2, if_pos a3]; decide
    by_cases a4 : c = 58
    · unfold own_ioc own_is; rw [if_neg (fun q => a1 (b46.mp q)), if_neg (fun q => a2 (b44.mp q)), if_neg (fun q => a3 (b59.mp q)), if_pos (b58.mpr a4), if_neg a1, if_neg a2, if_neg a3, if_pos a4]; decide
    by_cases a5 : c = 47
    · unfold own_ioc own_is; rw [if_neg (fun q => a1 (b46.mp q)), if_neg (fun q => a2 (b44.mp q)), if_neg (fun q => a3 (b59.mp q)), if_neg (fun q => a4 (b58.mp q)), if_pos (b47.mpr a5), if_neg a1, if_neg a2, if_neg a3, if_neg a4, if_pos a5]; decide
    by_cases a6 : c = 32
    · unfold own_ioc own_is; rw [if_neg (fun q => a1 (b46.mp q)), if_neg (fun q => a2 (b44.mp q)), if_neg (fun q => a3 (b59.mp q)), if_neg (fun q => a4 (b58.mp q)), if_neg (fun q => a5 (b47.mp q)), if_pos (b32.mpr a6), if_neg a1, if_neg a2, if_neg a3, if_neg a4, if_neg a5, if_pos a6]; decide
    · unfold own_ioc own_is; rw [if_neg (fun q => a1 (b46.mp q)), if_neg (fun q => a2 (b44.mp q)), if_neg (fun q => a3 (b59.mp q)), if_neg (fun q => a4 (b58.mp q)), if_neg (fun q => a5 (b47.mp q)), if_neg (fun q => a6 (b32.mp q)), if_neg a1, if_neg a2, if_neg a3, if_neg a4, if_neg a5, if_neg a6]; decide
  · have e : own_ce c = 0 := by
      unfold own_ce
      rw [if_neg (by rw [Int32.lt_iff_toInt_lt, show (0 : Int32).toInt = 0 from rfl]; omega), if_pos (by rw [Int32.lt_iff_toInt_lt, show (255 : Int32).toInt = 255 from rfl]; omega)]
    have ne : ∀ m : Int32, m.toInt ≤ 255 → ¬ c = m := by rintro m hm rfl; exact k hm
    have e2 : own_is c = 0 := by
      unfold own_is
      rw [if_neg (ne 46 (by decide)), if_neg (ne 44 (by decide)), if_neg (ne 59 (by decide)), if_neg (ne 58 (by decide)), if_neg (ne 47 (by decide)), if_neg (ne 32 (by decide))]
    unfold own_io; rw [e, if_pos rfl, e2]; decide
theorem own_aq0 (n : Nat) (c0 c1 c2 c3 : Int32) (j : Int32) (h : ¬ j < Int32.ofNat 0) : own_lp (n + 1) [] j = j := own_lp_stop h
theorem own_ap1_0 (n : Nat) (c0 c1 c2 c3 : Int32) (h0 : 0 ≤ c0.toInt ∧ c0.toInt < 65536) (h1 : 0 ≤ c1.toInt ∧ c1.toInt < 65536) (h2 : 0 ≤ c2.toInt ∧ c2.toInt < 65536) (h3 : 0 ≤ c3.toInt ∧ c3.toInt < 65536) : own_lp (n + 1) [nar .char c0] (0 : Int32) = if own_is c0 = (0 : Int32) then (0 : Int32) else own_lp n [nar .char c0] (1 : Int32) := by
  have q := own_ioq c0 h0
  by_cases e : own_is c0 = (0 : Int32)
  · rw [if_pos e]; exact own_lp_hit (show (0 : Int32) < Int32.ofNat 1 by decide) (q.mpr e)
  · rw [if_neg e]; exact own_lp_go (show (0 : Int32) < Int32.ofNat 1 by decide) (fun z => e (q.mp z))
theorem own_aq1 (n : Nat) (c0 c1 c2 c3 : Int32) (j : Int32) (h : ¬ j < Int32.ofNat 1) : own_lp (n + 1) [nar .char c0] j = j := own_lp_stop h
theorem own_ap2_0 (n : Nat) (c0 c1 c2 c3 : Int32) (h0 : 0 ≤ c0.toInt ∧ c0.toInt < 65536) (h1 : 0 ≤ c1.toInt ∧ c1.toInt < 65536) (h2 : 0 ≤ c2.toInt ∧ c2.toInt < 65536) (h3 : 0 ≤ c3.toInt ∧ c3.toInt < 65536) : own_lp (n + 1) [nar .char c0, nar .char c1] (0 : Int32) = if own_is c0 = (0 : Int32) then (0 : Int32) else own_lp n [nar .char c0, nar .char c1] (1 : Int32) := by
  have q := own_ioq c0 h0
  by_cases e : own_is c0 = (0 : Int32)
  · rw [if_pos e]; exact own_lp_hit (show (0 : Int32) < Int32.ofNat 2 by decide) (q.mpr e)
  · rw [if_neg e]; exact own_lp_go (show (0 : Int32) < Int32.ofNat 2 by decide) (fun z => e (q.mp z))
theorem own_ap2_1 (n : Nat) (c0 c1 c2 c3 : Int32) (h0 : 0 ≤ c0.toInt ∧ c0.toInt < 65536) (h1 : 0 ≤ c1.toInt ∧ c1.toInt < 65536) (h2 : 0 ≤ c2.toInt ∧ c2.toInt < 65536) (h3 : 0 ≤ c3.toInt ∧ c3.toInt < 65536) : own_lp (n + 1) [nar .char c0, nar .char c1] (1 : Int32) = if own_is c1 = (0 : Int32) then (1 : Int32) else own_lp n [nar .char c0, nar .char c1] (2 : Int32) := by
  have q := own_ioq c1 h1
  by_cases e : own_is c1 = (0 : Int32)
  · rw [if_pos e]; exact own_lp_hit (show (1 : Int32) < Int32.ofNat 2 by decide) (q.mpr e)
  · rw [if_neg e]; exact own_lp_go (show (1 : Int32) < Int32.ofNat 2 by decide) (fun z => e (q.mp z))
theorem own_aq2 (n : Nat) (c0 c1 c2 c3 : Int32) (j : Int32) (h : ¬ j < Int32.ofNat 2) : own_lp (n + 1) [nar .char c0, nar .char c1] j = j := own_lp_stop h
theorem own_ap3_0 (n : Nat) (c0 c1 c2 c3 : Int32) (h0 : 0 ≤ c0.toInt ∧ c0.toInt < 65536) (h1 : 0 ≤ c1.toInt ∧ c1.toInt < 65536) (h2 : 0 ≤ c2.toInt ∧ c2.toInt < 65536) (h3 : 0 ≤ c3.toInt ∧ c3.toInt < 65536) : own_lp (n + 1) [nar .char c0, nar .char c1, nar .char c2] (0 : Int32) = if own_is c0 = (0 : Int32) then (0 : Int32) else own_lp n [nar .char c0, nar .char c1, nar .char c2] (1 : Int32) := by
  have q := own_ioq c0 h0
  by_cases e : own_is c0 = (0 : Int32)
  · rw [if_pos e]; exact own_lp_hit (show (0 : Int32) < Int32.ofNat 3 by decide) (q.mpr e)
  · rw [if_neg e]; exact own_lp_go (show (0 : Int32) < Int32.ofNat 3 by decide) (fun z => e (q.mp z))
theorem own_ap3_1 (n : Nat) (c0 c1 c2 c3 : Int32) (h0 : 0 ≤ c0.toInt ∧ c0.toInt < 65536) (h1 : 0 ≤ c1.toInt ∧ c1.toInt < 65536) (h2 : 0 ≤ c2.toInt ∧ c2.toInt < 65536) (h3 : 0 ≤ c3.toInt ∧ c3.toInt < 65536) : own_lp (n + 1) [nar .char c0, nar .char c1, nar .char c2] (1 : Int32) = if own_is c1 = (0 : Int32) then (1 : Int32) else own_lp n [nar .char c0, nar .char c1, nar .char c2] (2 : Int32) := by
  have q := own_ioq c1 h1
  by_cases e : own_is c1 = (0 : Int32)
  · rw [if_pos e]; exact own_lp_hit (show (1 : Int32) < Int32.ofNat 3 by decide) (q.mpr e)
  · rw [if_neg e]; exact own_lp_go (show (1 : Int32) < Int32.ofNat 3 by decide) (fun z => e (q.mp z))
theorem own_ap3_2 (n : Nat) (c0 c1 c2 c3 : Int32) (h0 : 0 ≤ c0.toInt ∧ c0.toInt < 65536) (h1 : 0 ≤ c1.toInt ∧ c1.toInt < 65536) (h2 : 0 ≤ c2.toInt ∧ c2.toInt < 65536) (h3 : 0 ≤ c3.toInt ∧ c3.toInt < 65536) : own_lp (n + 1) [nar .char c0, nar .char c1, nar .char c2] (2 : Int32) = if own_is c2 = (0 : Int32) then (2 : Int32) else own_lp n [nar .char c0, nar .char c1, nar .char c2] (3 : Int32) := by
  have q := own_ioq c2 h2
  by_cases e : own_is c2 = (0 : Int32)
  · rw [if_pos e]; exact own_lp_hit (show (2 : Int32) < Int32.ofNat 3 by decide) (q.mpr e)
  · rw [if_neg e]; exact own_lp_go (show (2 : Int32) < Int32.ofNat 3 by decide) (fun z => e (q.mp z))
theorem own_aq3 (n : Nat) (c0 c1 c2 c3 : Int32) (j : Int32) (h : ¬ j < Int32.ofNat 3) : own_lp (n + 1) [nar .char c0, nar .char c1, nar .char c2] j = j := own_lp_stop h
theorem own_ap4_0 (n : Nat) (c0 c1 c2 c3 : Int32) (h0 : 0 ≤ c0.toInt ∧ c0.toInt < 65536) (h1 : 0 ≤ c1.toInt ∧ c1.toInt < 65536) (h2 : 0 ≤ c2.toInt ∧ c2.toInt < 65536) (h3 : 0 ≤ c3.toInt ∧ c3.toInt < 65536) : own_lp (n + 1) [nar .char c0, nar .char c1, nar .char c2, nar .char c3] (0 : Int32) = if own_is c0 = (0 : Int32) then (0 : Int32) else own_lp n [nar .char c0, nar .char c1, nar .char c2, nar .char c3] (1 : Int32) := by
  have q := own_ioq c0 h0
  by_cases e : own_is c0 = (0 : Int32)
  · rw [if_pos e]; exact own_lp_hit (show (0 : Int32) < Int32.ofNat 4 by decide) (q.mpr e)
  · rw [if_neg e]; exact own_lp_go (show (0 : Int32) < Int32.ofNat 4 by decide) (fun z => e (q.mp z))
theorem own_ap4_1 (n : Nat) (c0 c1 c2 c3 : Int32) (h0 : 0 ≤ c0.toInt ∧ c0.toInt < 65536) (h1 : 0 ≤ c1.toInt ∧ c1.toInt < 65536) (h2 : 0 ≤ c2.toInt ∧ c2.toInt < 65536) (h3 : 0 ≤ c3.toInt ∧ c3.toInt < 65536) : own_lp (n + 1) [nar .char c0, nar .char c1, nar .char c2, nar .char c3] (1 : Int32) = if own_is c1 = (0 : Int32) then (1 : Int32) else own_lp n [nar .char c0, nar .char c1, nar .char c2, nar .char c3] (2 : Int32) := by
  have q := own_ioq c1 h1
  by_cases e : own_is c1 = (0 : Int32)
  · rw [if_pos e]; exact own_lp_hit (show (1 : Int32) < Int32.ofNat 4 by decide) (q.mpr e)
  · rw [if_neg e]; exact own_lp_go (show (1 : Int32) < Int32.ofNat 4 by decide) (fun z => e (q.mp z))
theorem own_ap4_2 (n : Nat) (c0 c1 c2 c3 : Int32) (h0 : 0 ≤ c0.toInt ∧ c0.toInt < 65536) (h1 : 0 ≤ c1.toInt ∧ c1.toInt < 65536) (h2 : 0 ≤ c2.toInt ∧ c2.toInt < 65536) (h3 : 0 ≤ c3.toInt ∧ c3.toInt < 65536) : own_lp (n + 1) [nar .char c0, nar .char c1, nar .char c2, nar .char c3] (2 : Int32) = if own_is c2 = (0 : Int32) then (2 : Int32) else own_lp n [nar .char c0, nar .char c1, nar .char c2, nar .char c3] (3 : Int32) := by
  have q := own_ioq c2 h2
  by_cases e : own_is c2 = (0 : Int32)
  · rw [if_pos e]; exact own_lp_hit (show (2 : Int32) < Int32.ofNat 4 by decide) (q.mpr e)
  · rw [if_neg e]; exact own_lp_go (show (2 : Int32) < Int32.ofNat 4 by decide) (fun z => e (q.mp z))
theorem own_ap4_3 (n : Nat) (c0 c1 c2 c3 : Int32) (h0 : 0 ≤ c0.toInt ∧ c0.toInt < 65536) (h1 : 0 ≤ c1.toInt ∧ c1.toInt < 65536) (h2 : 0 ≤ c2.toInt ∧ c2.toInt < 65536) (h3 : 0 ≤ c3.toInt ∧ c3.toInt < 65536) : own_lp (n + 1) [nar .char c0, nar .char c1, nar .char c2, nar .char c3] (3 : Int32) = if own_is c3 = (0 : Int32) then (3 : Int32) else own_lp n [nar .char c0, nar .char c1, nar .char c2, nar .char c3] (4 : Int32) := by
  have q := own_ioq c3 h3
  by_cases e : own_is c3 = (0 : Int32)
  · rw [if_pos e]; exact own_lp_hit (show (3 : Int32) < Int32.ofNat 4 by decide) (q.mpr e)
  · rw [if_neg e]; exact own_lp_go (show (3 : Int32) < Int32.ofNat 4 by decide) (fun z => e (q.mp z))
theorem own_aq4 (n : Nat) (c0 c1 c2 c3 : Int32) (j : Int32) (h : ¬ j < Int32.ofNat 4) : own_lp (n + 1) [nar .char c0, nar .char c1, nar .char c2, nar .char c3] j = j := own_lp_stop h
theorem own_ir0 (fr rr c0 c1 c2 c3 : Int32) (h : 0 ≤ c0.toInt ∧ c0.toInt < 65536) : own_ir (0 : Int32) fr rr c0 c1 c2 c3 = if (0 : Int32) < fr then (1 : Int32) else if (0 : Int32) < rr then own_is c0 else (1 : Int32) := by
  have e : own_pick (0 : Int32) c0 c1 c2 c3 = c0 := by unfold own_pick; rw [if_pos rfl, own_nar c0 h.1 h.2]
  have e2 : nar .boolean (own_is c0) = own_is c0 := by rcases own_is01 c0 with q | q <;> rw [q] <;> rfl
  unfold own_ir; rw [e, e2]
theorem own_ir1 (fr rr c0 c1 c2 c3 : Int32) (h : 0 ≤ c1.toInt ∧ c1.toInt < 65536) : own_ir (1 : Int32) fr rr c0 c1 c2 c3 = if (1 : Int32) < fr then (1 : Int32) else if (1 : Int32) < rr then own_is c1 else (1 : Int32) := by
  have e : own_pick (1 : Int32) c0 c1 c2 c3 = c1 := by unfold own_pick; rw [if_neg (by decide), if_pos rfl, own_nar c1 h.1 h.2]
  have e2 : nar .boolean (own_is c1) = own_is c1 := by rcases own_is01 c1 with q | q <;> rw [q] <;> rfl
  unfold own_ir; rw [e, e2]
theorem own_ir2 (fr rr c0 c1 c2 c3 : Int32) (h : 0 ≤ c2.toInt ∧ c2.toInt < 65536) : own_ir (2 : Int32) fr rr c0 c1 c2 c3 = if (2 : Int32) < fr then (1 : Int32) else if (2 : Int32) < rr then own_is c2 else (1 : Int32) := by
  have e : own_pick (2 : Int32) c0 c1 c2 c3 = c2 := by unfold own_pick; rw [if_neg (by decide), if_neg (by decide), if_pos rfl, own_nar c2 h.1 h.2]
  have e2 : nar .boolean (own_is c2) = own_is c2 := by rcases own_is01 c2 with q | q <;> rw [q] <;> rfl
  unfold own_ir; rw [e, e2]
theorem own_ir3 (fr rr c0 c1 c2 c3 : Int32) (h : 0 ≤ c3.toInt ∧ c3.toInt < 65536) : own_ir (3 : Int32) fr rr c0 c1 c2 c3 = if (3 : Int32) < fr then (1 : Int32) else if (3 : Int32) < rr then own_is c3 else (1 : Int32) := by
  have e : own_pick (3 : Int32) c0 c1 c2 c3 = c3 := by unfold own_pick; rw [if_neg (by decide), if_neg (by decide), if_neg (by decide), own_nar c3 h.1 h.2]
  have e2 : nar .boolean (own_is c3) = own_is c3 := by rcases own_is01 c3 with q | q <;> rw [q] <;> rfl
  unfold own_ir; rw [e, e2]
theorem own_isp (rr c0 c1 c2 c3 : Int32) (h0 : 0 ≤ c0.toInt ∧ c0.toInt < 65536) (h1 : 0 ≤ c1.toInt ∧ c1.toInt < 65536) (h2 : 0 ≤ c2.toInt ∧ c2.toInt < 65536) (h3 : 0 ≤ c3.toInt ∧ c3.toInt < 65536) : own_is (own_pick rr c0 c1 c2 c3) = if rr = (0 : Int32) then own_is c0 else if rr = (1 : Int32) then own_is c1 else if rr = (2 : Int32) then own_is c2 else own_is c3 := by
  unfold own_pick; rw [own_nar c0 h0.1 h0.2, own_nar c1 h1.1 h1.2, own_nar c2 h2.1 h2.2, own_nar c3 h3.1 h3.2]
  by_cases a : rr = (0 : Int32)
  · rw [if_pos a, if_pos a]
  by_cases b : rr = (1 : Int32)
  · rw [if_neg a, if_neg a, if_pos b, if_pos b]
  by_cases d : rr = (2 : Int32)
  · rw [if_neg a, if_neg a, if_neg b, if_neg b, if_pos d, if_pos d]
  · rw [if_neg a, if_neg a, if_neg b, if_neg b, if_neg d, if_neg d]
def own_ok (nn fr rr s0 s1 s2 s3 : Int32) : Prop := (¬ rr < fr) ∧ (¬ (own_max fr nn) < rr) ∧ (¬ (if (0 : Int32) < fr then (1 : Int32) else if (0 : Int32) < rr then s0 else (1 : Int32)) = (0 : Int32)) ∧ (¬ (if (1 : Int32) < fr then (1 : Int32) else if (1 : Int32) < rr then s1 else (1 : Int32)) = (0 : Int32)) ∧ (¬ (if (2 : Int32) < fr then (1 : Int32) else if (2 : Int32) < rr then s2 else (1 : Int32)) = (0 : Int32)) ∧ (¬ (if (3 : Int32) < fr then (1 : Int32) else if (3 : Int32) < rr then s3 else (1 : Int32)) = (0 : Int32)) ∧ (rr < nn → (if rr = (0 : Int32) then s0 else if rr = (1 : Int32) then s1 else if rr = (2 : Int32) then s2 else s3) = (0 : Int32))
instance (nn fr rr s0 s1 s2 s3 : Int32) : Decidable (own_ok nn fr rr s0 s1 s2 s3) := by unfold own_ok; infer_instance
theorem own_ok0 (c0 c1 c2 c3 : Int32) (fr rr : Int32) (h0 : 0 ≤ c0.toInt ∧ c0.toInt < 65536) (h1 : 0 ≤ c1.toInt ∧ c1.toInt < 65536) (h2 : 0 ≤ c2.toInt ∧ c2.toInt < 65536) (h3 : 0 ≤ c3.toInt ∧ c3.toInt < 65536) (hf : 0 ≤ fr.toInt ∧ fr.toInt < 8) (hr : rr = own_as [] fr) : own_ok (0 : Int32) fr rr (own_is c0) (own_is c1) (own_is c2) (own_is c3) := by
  obtain a0 := own_is01 c0; obtain a1 := own_is01 c1; obtain a2 := own_is01 c2; obtain a3 := own_is01 c3
  rcases own_eight fr hf with rfl | rfl | rfl | rfl | rfl | rfl | rfl | rfl
  · unfold own_as at hr; rw [own_aq0 _ c0 c1 c2 c3 (0 : Int32) (by decide)] at hr
    generalize own_is c0 = s0 at *; generalize own_is c1 = s1 at *; generalize own_is c2 = s2 at *; generalize own_is c3 = s3 at *
    subst hr; rcases a0 with rfl | rfl <;> rcases a1 with rfl | rfl <;> rcases a2 with rfl | rfl <;> rcases a3 with rfl | rfl <;> decide
  · unfold own_as at hr; rw [own_aq0 _ c0 c1 c2 c3 (1 : Int32) (by decide)] at hr
    generalize own_is c0 = s0 at *; generalize own_is c1 = s1 at *; generalize own_is c2 = s2 at *; generalize own_is c3 = s3 at *
    subst hr; rcases a0 with rfl | rfl <;> rcases a1 with rfl | rfl <;> rcases a2 with rfl | rfl <;> rcases a3 with rfl | rfl <;> decide
  · unfold own_as at hr; rw [own_aq0 _ c0 c1 c2 c3 (2 : Int32) (by decide)] at hr
    generalize own_is c0 = s0 at *; generalize own_is c1 = s1 at *; generalize own_is c2 = s2 at *; generalize own_is c3 = s3 at *
    subst hr; rcases a0 with rfl | rfl <;> rcases a1 with rfl | rfl <;> rcases a2 with rfl | rfl <;> rcases a3 with rfl | rfl <;> decide
  · unfold own_as at hr; rw [own_aq0 _ c0 c1 c2 c3 (3 : Int32) (by decide)] at hr
    generalize own_is c0 = s0 at *; generalize own_is c1 = s1 at *; generalize own_is c2 = s2 at *; generalize own_is c3 = s3 at *
    subst hr; rcases a0 with rfl | rfl <;> rcases a1 with rfl | rfl <;> rcases a2 with rfl | rfl <;> rcases a3 with rfl | rfl <;> decide
  · unfold own_as at hr; rw [own_aq0 _ c0 c1 c2 c3 (4 : Int32) (by decide)] at hr
    generalize own_is c0 = s0 at *; generalize own_is c1 = s1 at *; generalize own_is c2 = s2 at *; generalize own_is c3 = s3 at *
    subst hr; rcases a0 with rfl | rfl <;> rcases a1 with rfl | rfl <;> rcases a2 with rfl | rfl <;> rcases a3 with rfl | rfl <;> decide
  · unfold own_as at hr; rw [own_aq0 _ c0 c1 c2 c3 (5 : Int32) (by decide)] at hr
    generalize own_is c0 = s0 at *; generalize own_is c1 = s1 at *; generalize own_is c2 = s2 at *; generalize own_is c3 = s3 at *
    subst hr; rcases a0 with rfl | rfl <;> rcases a1 with rfl | rfl <;> rcases a2 with rfl | rfl <;> rcases a3 with rfl | rfl <;> decide
  · unfold own_as at hr; rw [own_aq0 _ c0 c1 c2 c3 (6 : Int32) (by decide)] at hr
    generalize own_is c0 = s0 at *; generalize own_is c1 = s1 at *; generalize own_is c2 = s2 at *; generalize own_is c3 = s3 at *
    subst hr; rcases a0 with rfl | rfl <;> rcases a1 with rfl | rfl <;> rcases a2 with rfl | rfl <;> rcases a3 with rfl | rfl <;> decide
  · unfold own_as at hr; rw [own_aq0 _ c0 c1 c2 c3 (7 : Int32) (by decide)] at hr
    generalize own_is c0 = s0 at *; generalize own_is c1 = s1 at *; generalize own_is c2 = s2 at *; generalize own_is c3 = s3 at *
    subst hr; rcases a0 with rfl | rfl <;> rcases a1 with rfl | rfl <;> rcases a2 with rfl | rfl <;> rcases a3 with rfl | rfl <;> decide
theorem own_ok1 (c0 c1 c2 c3 : Int32) (fr rr : Int32) (h0 : 0 ≤ c0.toInt ∧ c0.toInt < 65536) (h1 : 0 ≤ c1.toInt ∧ c1.toInt < 65536) (h2 : 0 ≤ c2.toInt ∧ c2.toInt < 65536) (h3 : 0 ≤ c3.toInt ∧ c3.toInt < 65536) (hf : 0 ≤ fr.toInt ∧ fr.toInt < 8) (hr : rr = own_as [nar .char c0] fr) : own_ok (1 : Int32) fr rr (own_is c0) (own_is c1) (own_is c2) (own_is c3) := by
  obtain a0 := own_is01 c0; obtain a1 := own_is01 c1; obtain a2 := own_is01 c2; obtain a3 := own_is01 c3
  rcases own_eight fr hf with rfl | rfl | rfl | rfl | rfl | rfl | rfl | rfl
  · unfold own_as at hr; rw [own_ap1_0 _ c0 c1 c2 c3 h0 h1 h2 h3, own_aq1 _ c0 c1 c2 c3 (1 : Int32) (by decide)] at hr
    generalize own_is c0 = s0 at *; generalize own_is c1 = s1 at *; generalize own_is c2 = s2 at *; generalize own_is c3 = s3 at *
    subst hr; rcases a0 with rfl | rfl <;> rcases a1 with rfl | rfl <;> rcases a2 with rfl | rfl <;> rcases a3 with rfl | rfl <;> decide
  · unfold own_as at hr; rw [own_aq1 _ c0 c1 c2 c3 (1 : Int32) (by decide)] at hr
    generalize own_is c0 = s0 at *; generalize own_is c1 = s1 at *; generalize own_is c2 = s2 at *; generalize own_is c3 = s3 at *
    subst hr; rcases a0 with rfl | rfl <;> rcases a1 with rfl | rfl <;> rcases a2 with rfl | rfl <;> rcases a3 with rfl | rfl <;> decide
  · unfold own_as at hr; rw [own_aq1 _ c0 c1 c2 c3 (2 : Int32) (by decide)] at hr
    generalize own_is c0 = s0 at *; generalize own_is c1 = s1 at *; generalize own_is c2 = s2 at *; generalize own_is c3 = s3 at *
    subst hr; rcases a0 with rfl | rfl <;> rcases a1 with rfl | rfl <;> rcases a2 with rfl | rfl <;> rcases a3 with rfl | rfl <;> decide
  · unfold own_as at hr; rw [own_aq1 _ c0 c1 c2 c3 (3 : Int32) (by decide)] at hr
    generalize own_is c0 = s0 at *; generalize own_is c1 = s1 at *; generalize own_is c2 = s2 at *; generalize own_is c3 = s3 at *
    subst hr; rcases a0 with rfl | rfl <;> rcases a1 with rfl | rfl <;> rcases a2 with rfl | rfl <;> rcases a3 with rfl | rfl <;> decide
  · unfold own_as at hr; rw [own_aq1 _ c0 c1 c2 c3 (4 : Int32) (by decide)] at hr
    generalize own_is c0 = s0 at *; generalize own_is c1 = s1 at *; generalize own_is c2 = s2 at *; generalize own_is c3 = s3 at *
    subst hr; rcases a0 with rfl | rfl <;> rcases a1 with rfl | rfl <;> rcases a2 with rfl | rfl <;> rcases a3 with rfl | rfl <;> decide
  · unfold own_as at hr; rw [own_aq1 _ c0 c1 c2 c3 (5 : Int32) (by decide)] at hr
    generalize own_is c0 = s0 at *; generalize own_is c1 = s1 at *; generalize own_is c2 = s2 at *; generalize own_is c3 = s3 at *
    subst hr; rcases a0 with rfl | rfl <;> rcases a1 with rfl | rfl <;> rcases a2 with rfl | rfl <;> rcases a3 with rfl | rfl <;> decide
  · unfold own_as at hr; rw [own_aq1 _ c0 c1 c2 c3 (6 : Int32) (by decide)] at hr
    generalize own_is c0 = s0 at *; generalize own_is c1 = s1 at *; generalize own_is c2 = s2 at *; generalize own_is c3 = s3 at *
    subst hr; rcases a0 with rfl | rfl <;> rcases a1 with rfl | rfl <;> rcases a2 with rfl | rfl <;> rcases a3 with rfl | rfl <;> decide
  · unfold own_as at hr; rw [own_aq1 _ c0 c1 c2 c3 (7 : Int32) (by decide)] at hr
    generalize own_is c0 = s0 at *; generalize own_is c1 = s1 at *; generalize own_is c2 = s2 at *; generalize own_is c3 = s3 at *
    subst hr; rcases a0 with rfl | rfl <;> rcases a1 with rfl | rfl <;> rcases a2 with rfl | rfl <;> rcases a3 with rfl | rfl <;> decide
theorem own_ok2 (c0 c1 c2 c3 : Int32) (fr rr : Int32) (h0 : 0 ≤ c0.toInt ∧ c0.toInt < 65536) (h1 : 0 ≤ c1.toInt ∧ c1.toInt < 65536) (h2 : 0 ≤ c2.toInt ∧ c2.toInt < 65536) (h3 : 0 ≤ c3.toInt ∧ c3.toInt < 65536) (hf : 0 ≤ fr.toInt ∧ fr.toInt < 8) (hr : rr = own_as [nar .char c0, nar .char c1] fr) : own_ok (2 : Int32) fr rr (own_is c0) (own_is c1) (own_is c2) (own_is c3) := by
  obtain a0 := own_is01 c0; obtain a1 := own_is01 c1; obtain a2 := own_is01 c2; obtain a3 := own_is01 c3
  rcases own_eight fr hf with rfl | rfl | rfl | rfl | rfl | rfl | rfl | rfl
  · unfold own_as at hr; rw [own_ap2_0 _ c0 c1 c2 c3 h0 h1 h2 h3, own_ap2_1 _ c0 c1 c2 c3 h0 h1 h2 h3, own_aq2 _ c0 c1 c2 c3 (2 : Int32) (by decide)] at hr
    generalize own_is c0 = s0 at *; generalize own_is c1 = s1 at *; generalize own_is c2 = s2 at *; generalize own_is c3 = s3 at *
    subst hr; rcases a0 with rfl | rfl <;> rcases a1 with rfl | rfl <;> rcases a2 with rfl | rfl <;> rcases a3 with rfl | rfl <;> decide
  · unfold own_as at hr; rw [own_ap2_1 _ c0 c1 c2 c3 h0 h1 h2 h3, own_aq2 _ c0 c1 c2 c3 (2 : Int32) (by decide)] at hr
    generalize own_is c0 = s0 at *; generalize own_is c1 = s1 at *; generalize own_is c2 = s2 at *; generalize own_is c3 = s3 at *
    subst hr; rcases a0 with rfl | rfl <;> rcases a1 with rfl | rfl <;> rcases a2 with rfl | rfl <;> rcases a3 with rfl | rfl <;> decide
  · unfold own_as at hr; rw [own_aq2 _ c0 c1 c2 c3 (2 : Int32) (by decide)] at hr
    generalize own_is c0 = s0 at *; generalize own_is c1 = s1 at *; generalize own_is c2 = s2 at *; generalize own_is c3 = s3 at *
    subst hr; rcases a0 with rfl | rfl <;> rcases a1 with rfl | rfl <;> rcases a2 with rfl | rfl <;> rcases a3 with rfl | rfl <;> decide
  · unfold own_as at hr; rw [own_aq2 _ c0 c1 c2 c3 (3 : Int32) (by decide)] at hr
    generalize own_is c0 = s0 at *; generalize own_is c1 = s1 at *; generalize own_is c2 = s2 at *; generalize own_is c3 = s3 at *
    subst hr; rcases a0 with rfl | rfl <;> rcases a1 with rfl | rfl <;> rcases a2 with rfl | rfl <;> rcases a3 with rfl | rfl <;> decide
  · unfold own_as at hr; rw [own_aq2 _ c0 c1 c2 c3 (4 : Int32) (by decide)] at hr
    generalize own_is c0 = s0 at *; generalize own_is c1 = s1 at *; generalize own_is c2 = s2 at *; generalize own_is c3 = s3 at *
    subst hr; rcases a0 with rfl | rfl <;> rcases a1 with rfl | rfl <;> rcases a2 with rfl | rfl <;> rcases a3 with rfl | rfl <;> decide
  · unfold own_as at hr; rw [own_aq2 _ c0 c1 c2 c3 (5 : Int32) (by decide)] at hr
    generalize own_is c0 = s0 at *; generalize own_is c1 = s1 at *; generalize own_is c2 = s2 at *; generalize own_is c3 = s3 at *
    subst hr; rcases a0 with rfl | rfl <;> rcases a1 with rfl | rfl <;> rcases a2 with rfl | rfl <;> rcases a3 with rfl | rfl <;> decide
  · unfold own_as at hr; rw [own_aq2 _ c0 c1 c2 c3 (6 : Int32) (by decide)] at hr
    generalize own_is c0 = s0 at *; generalize own_is c1 = s1 at *; generalize own_is c2 = s2 at *; generalize own_is c3 = s3 at *
    subst hr; rcases a0 with rfl | rfl <;> rcases a1 with rfl | rfl <;> rcases a2 with rfl | rfl <;> rcases a3 with rfl | rfl <;> decide
  · unfold own_as at hr; rw [own_aq2 _ c0 c1 c2 c3 (7 : Int32) (by decide)] at hr
    generalize own_is c0 = s0 at *; generalize own_is c1 = s1 at *; generalize own_is c2 = s2 at *; generalize own_is c3 = s3 at *
    subst hr; rcases a0 with rfl | rfl <;> rcases a1 with rfl | rfl <;> rcases a2 with rfl | rfl <;> rcases a3 with rfl | rfl <;> decide
theorem own_ok3 (c0 c1 c2 c3 : Int32) (fr rr : Int32) (h0 : 0 ≤ c0.toInt ∧ c0.toInt < 65536) (h1 : 0 ≤ c1.toInt ∧ c1.toInt < 65536) (h2 : 0 ≤ c2.toInt ∧ c2.toInt < 65536) (h3 : 0 ≤ c3.toInt ∧ c3.toInt < 65536) (hf : 0 ≤ fr.toInt ∧ fr.toInt < 8) (hr : rr = own_as [nar .char c0, nar .char c1, nar .char c2] fr) : own_ok (3 : Int32) fr rr (own_is c0) (own_is c1) (own_is c2) (own_is c3) := by
  obtain a0 := own_is01 c0; obtain a1 := own_is01 c1; obtain a2 := own_is01 c2; obtain a3 := own_is01 c3
  rcases own_eight fr hf with rfl | rfl | rfl | rfl | rfl | rfl | rfl | rfl
  · unfold own_as at hr; rw [own_ap3_0 _ c0 c1 c2 c3 h0 h1 h2 h3, own_ap3_1 _ c0 c1 c2 c3 h0 h1 h2 h3, own_ap3_2 _ c0 c1 c2 c3 h0 h1 h2 h3, own_aq3 _ c0 c1 c2 c3 (3 : Int32) (by decide)] at hr
    generalize own_is c0 = s0 at *; generalize own_is c1 = s1 at *; generalize own_is c2 = s2 at *; generalize own_is c3 = s3 at *
    subst hr; rcases a0 with rfl | rfl <;> rcases a1 with rfl | rfl <;> rcases a2 with rfl | rfl <;> rcases a3 with rfl | rfl <;> decide
  · unfold own_as at hr; rw [own_ap3_1 _ c0 c1 c2 c3 h0 h1 h2 h3, own_ap3_2 _ c0 c1 c2 c3 h0 h1 h2 h3, own_aq3 _ c0 c1 c2 c3 (3 : Int32) (by decide)] at hr
    generalize own_is c0 = s0 at *; generalize own_is c1 = s1 at *; generalize own_is c2 = s2 at *; generalize own_is c3 = s3 at *
    subst hr; rcases a0 with rfl | rfl <;> rcases a1 with rfl | rfl <;> rcases a2 with rfl | rfl <;> rcases a3 with rfl | rfl <;> decide
  · unfold own_as at hr; rw [own_ap3_2 _ c0 c1 c2 c3 h0 h1 h2 h3, own_aq3 _ c0 c1 c2 c3 (3 : Int32) (by decide)] at hr
    generalize own_is c0 = s0 at *; generalize own_is c1 = s1 at *; generalize own_is c2 = s2 at *; generalize own_is c3 = s3 at *
    subst hr; rcases a0 with rfl | rfl <;> rcases a1 with rfl | rfl <;> rcases a2 with rfl | rfl <;> rcases a3 with rfl | rfl <;> decide
  · unfold own_as at hr; rw [own_aq3 _ c0 c1 c2 c3 (3 : Int32) (by decide)] at hr
    generalize own_is c0 = s0 at *; generalize own_is c1 = s1 at *; generalize own_is c2 = s2 at *; generalize own_is c3 = s3 at *
    subst hr; rcases a0 with rfl | rfl <;> rcases a1 with rfl | rfl <;> rcases a2 with rfl | rfl <;> rcases a3 with rfl | rfl <;> decide
  · unfold own_as at hr; rw [own_aq3 _ c0 c1 c2 c3 (4 : Int32) (by decide)] at hr
    generalize own_is c0 = s0 at *; generalize own_is c1 = s1 at *; generalize own_is c2 = s2 at *; generalize own_is c3 = s3 at *
    subst hr; rcases a0 with rfl | rfl <;> rcases a1 with rfl | rfl <;> rcases a2 with rfl | rfl <;> rcases a3 with rfl | rfl <;> decide
  · unfold own_as at hr; rw [own_aq3 _ c0 c1 c2 c3 (5 : Int32) (by decide)] at hr
    generalize own_is c0 = s0 at *; generalize own_is c1 = s1 at *; generalize own_is c2 = s2 at *; generalize own_is c3 = s3 at *
    subst hr; rcases a0 with rfl | rfl <;> rcases a1 with rfl | rfl <;> rcases a2 with rfl | rfl <;> rcases a3 with rfl | rfl <;> decide
  · unfold own_as at hr; rw [own_aq3 _ c0 c1 c2 c3 (6 : Int32) (by decide)] at hr
    generalize own_is c0 = s0 at *; generalize own_is c1 = s1 at *; generalize own_is c2 = s2 at *; generalize own_is c3 = s3 at *
    subst hr; rcases a0 with rfl | rfl <;> rcases a1 with rfl | rfl <;> rcases a2 with rfl | rfl <;> rcases a3 with rfl | rfl <;> decide
  · unfold own_as at hr; rw [own_aq3 _ c0 c1 c2 c3 (7 : Int32) (by decide)] at hr
    generalize own_is c0 = s0 at *; generalize own_is c1 = s1 at *; generalize own_is c2 = s2 at *; generalize own_is c3 = s3 at *
    subst hr; rcases a0 with rfl | rfl <;> rcases a1 with rfl | rfl <;> rcases a2 with rfl | rfl <;> rcases a3 with rfl | rfl <;> decide
theorem own_ok4 (c0 c1 c2 c3 : Int32) (fr rr : Int32) (h0 : 0 ≤ c0.toInt ∧ c0.toInt < 65536) (h1 : 0 ≤ c1.toInt ∧ c1.toInt < 65536) (h2 : 0 ≤ c2.toInt ∧ c2.toInt < 65536) (h3 : 0 ≤ c3.toInt ∧ c3.toInt < 65536) (hf : 0 ≤ fr.toInt ∧ fr.toInt < 8) (hr : rr = own_as [nar .char c0, nar .char c1, nar .char c2, nar .char c3] fr) : own_ok (4 : Int32) fr rr (own_is c0) (own_is c1) (own_is c2) (own_is c3) := by
  obtain a0 := own_is01 c0; obtain a1 := own_is01 c1; obtain a2 := own_is01 c2; obtain a3 := own_is01 c3
  rcases own_eight fr hf with rfl | rfl | rfl | rfl | rfl | rfl | rfl | rfl
  · unfold own_as at hr; rw [own_ap4_0 _ c0 c1 c2 c3 h0 h1 h2 h3, own_ap4_1 _ c0 c1 c2 c3 h0 h1 h2 h3, own_ap4_2 _ c0 c1 c2 c3 h0 h1 h2 h3, own_ap4_3 _ c0 c1 c2 c3 h0 h1 h2 h3, own_lp] at hr
    generalize own_is c0 = s0 at *; generalize own_is c1 = s1 at *; generalize own_is c2 = s2 at *; generalize own_is c3 = s3 at *
    subst hr; rcases a0 with rfl | rfl <;> rcases a1 with rfl | rfl <;> rcases a2 with rfl | rfl <;> rcases a3 with rfl | rfl <;> decide
  · unfold own_as at hr; rw [own_ap4_1 _ c0 c1 c2 c3 h0 h1 h2 h3, own_ap4_2 _ c0 c1 c2 c3 h0 h1 h2 h3, own_ap4_3 _ c0 c1 c2 c3 h0 h1 h2 h3, own_aq4 _ c0 c1 c2 c3 (4 : Int32) (by decide)] at hr
    generalize own_is c0 = s0 at *; generalize own_is c1 = s1 at *; generalize own_is c2 = s2 at *; generalize own_is c3 = s3 at *
    subst hr; rcases a0 with rfl | rfl <;> rcases a1 with rfl | rfl <;> rcases a2 with rfl | rfl <;> rcases a3 with rfl | rfl <;> decide
  · unfold own_as at hr; rw [own_ap4_2 _ c0 c1 c2 c3 h0 h1 h2 h3, own_ap4_3 _ c0 c1 c2 c3 h0 h1 h2 h3, own_aq4 _ c0 c1 c2 c3 (4 : Int32) (by decide)] at hr
    generalize own_is c0 = s0 at *; generalize own_is c1 = s1 at *; generalize own_is c2 = s2 at *; generalize own_is c3 = s3 at *
    subst hr; rcases a0 with rfl | rfl <;> rcases a1 with rfl | rfl <;> rcases a2 with rfl | rfl <;> rcases a3 with rfl | rfl <;> decide
  · unfold own_as at hr; rw [own_ap4_3 _ c0 c1 c2 c3 h0 h1 h2 h3, own_aq4 _ c0 c1 c2 c3 (4 : Int32) (by decide)] at hr
    generalize own_is c0 = s0 at *; generalize own_is c1 = s1 at *; generalize own_is c2 = s2 at *; generalize own_is c3 = s3 at *
    subst hr; rcases a0 with rfl | rfl <;> rcases a1 with rfl | rfl <;> rcases a2 with rfl | rfl <;> rcases a3 with rfl | rfl <;> decide
  · unfold own_as at hr; rw [own_aq4 _ c0 c1 c2 c3 (4 : Int32) (by decide)] at hr
    generalize own_is c0 = s0 at *; generalize own_is c1 = s1 at *; generalize own_is c2 = s2 at *; generalize own_is c3 = s3 at *
    subst hr; rcases a0 with rfl | rfl <;> rcases a1 with rfl | rfl <;> rcases a2 with rfl | rfl <;> rcases a3 with rfl | rfl <;> decide
  · unfold own_as at hr; rw [own_aq4 _ c0 c1 c2 c3 (5 : Int32) (by decide)] at hr
    generalize own_is c0 = s0 at *; generalize own_is c1 = s1 at *; generalize own_is c2 = s2 at *; generalize own_is c3 = s3 at *
    subst hr; rcases a0 with rfl | rfl <;> rcases a1 with rfl | rfl <;> rcases a2 with rfl | rfl <;> rcases a3 with rfl | rfl <;> decide
  · unfold own_as at hr; rw [own_aq4 _ c0 c1 c2 c3 (6 : Int32) (by decide)] at hr
    generalize own_is c0 = s0 at *; generalize own_is c1 = s1 at *; generalize own_is c2 = s2 at *; generalize own_is c3 = s3 at *
    subst hr; rcases a0 with rfl | rfl <;> rcases a1 with rfl | rfl <;> rcases a2 with rfl | rfl <;> rcases a3 with rfl | rfl <;> decide
  · unfold own_as at hr; rw [own_aq4 _ c0 c1 c2 c3 (7 : Int32) (by decide)] at hr
    generalize own_is c0 = s0 at *; generalize own_is c1 = s1 at *; generalize own_is c2 = s2 at *; generalize own_is c3 = s3 at *
    subst hr; rcases a0 with rfl | rfl <;> rcases a1 with rfl | rfl <;> rcases a2 with rfl | rfl <;> rcases a3 with rfl | rfl <;> decide
theorem own_key (nn c0 c1 c2 c3 fr rr : Int32) (hn : own_n5 nn) (h0 : 0 ≤ c0.toInt ∧ c0.toInt < 65536) (h1 : 0 ≤ c1.toInt ∧ c1.toInt < 65536) (h2 : 0 ≤ c2.toInt ∧ c2.toInt < 65536) (h3 : 0 ≤ c3.toInt ∧ c3.toInt < 65536) (hf : 0 ≤ fr.toInt ∧ fr.toInt < 8) (hr : rr = own_as (own_ml nn (nar .char c0) (nar .char c1) (nar .char c2) (nar .char c3)) fr) : (¬ rr < fr) ∧ (¬ (own_max fr nn) < rr) ∧ (¬ own_ir (0 : Int32) fr rr c0 c1 c2 c3 = (0 : Int32)) ∧ (¬ own_ir (1 : Int32) fr rr c0 c1 c2 c3 = (0 : Int32)) ∧ (¬ own_ir (2 : Int32) fr rr c0 c1 c2 c3 = (0 : Int32)) ∧ (¬ own_ir (3 : Int32) fr rr c0 c1 c2 c3 = (0 : Int32)) ∧ (rr < nn → own_is (own_pick rr c0 c1 c2 c3) = (0 : Int32)) := by
  rw [own_ir0 fr rr c0 c1 c2 c3 h0, own_ir1 fr rr c0 c1 c2 c3 h1, own_ir2 fr rr c0 c1 c2 c3 h2, own_ir3 fr rr c0 c1 c2 c3 h3, own_isp rr c0 c1 c2 c3 h0 h1 h2 h3]
  show own_ok nn fr rr (own_is c0) (own_is c1) (own_is c2) (own_is c3)
  rcases hn with rfl | rfl | rfl | rfl | rfl
  · rw [own_ml_0] at hr; exact own_ok0 c0 c1 c2 c3 fr rr h0 h1 h2 h3 hf hr
  · rw [own_ml_1] at hr; exact own_ok1 c0 c1 c2 c3 fr rr h0 h1 h2 h3 hf hr
  · rw [own_ml_2] at hr; exact own_ok2 c0 c1 c2 c3 fr rr h0 h1 h2 h3 hf hr
  · rw [own_ml_3] at hr; exact own_ok3 c0 c1 c2 c3 fr rr h0 h1 h2 h3 hf hr
  · rw [own_ml_4] at hr; exact own_ok4 c0 c1 c2 c3 fr rr h0 h1 h2 h3 hf hr
theorem ef_0 (m : MethodId) (p0 : Int32) (p1 : Int32) (p2 : Int32) (p3 : Int32) (p4 : Int32) (p5 : Int32) : entryFrame m #[(.int p0), (.int p1), (.int p2), (.int p3), (.int p4), (.int p5)] maxLocals = mkF m 0 #[.val (.int p0), .val (.int p1), .val (.int p2), .val (.int p3), .val (.int p4), .val (.int p5), .unset, .unset, .unset, .unset, .unset, .unset, .unset, .unset, .unset] [] := by first | (simp [entryFrame, mkF, argsToLocals, Value.category, maxLocals]; done) | rfl
abbrev own_loc55 (p0 : Int32) (p1 : Int32) (p2 : Int32) (p3 : Int32) (p4 : Int32) (p5 : Int32) : Array Slot := #[.val (.int p0), .val (.int p1), .val (.int p2), .val (.int p3), .val (.int p4), .val (.int p5), .unset, .unset, .unset, .unset, .unset, .unset, .unset, .unset, .unset]
abbrev own_loc56 (p0 : Int32) (p1 : Int32) (p2 : Int32) (p3 : Int32) (p4 : Int32) (p5 : Int32) : Array Slot := #[.val (.int p0), .val (.int p1), .val (.int p2), .val (.int p3), .val (.int p4), .val (.int p5), .val (.int (own_draw p0)), .unset, .unset, .unset, .unset, .unset, .unset, .unset, .unset]
abbrev own_loc57 (p0 : Int32) (p1 : Int32) (p2 : Int32) (p3 : Int32) (p4 : Int32) (p5 : Int32) : Array Slot := #[.val (.int p0), .val (.int p1), .val (.int p2), .val (.int p3), .val (.int p4), .val (.int p5), .val (.int (own_draw p0)), .val (.int (own_draw p1)), .unset, .unset, .unset, .unset, .unset, .unset, .unset]
abbrev own_loc58 (p0 : Int32) (p1 : Int32) (p2 : Int32) (p3 : Int32) (p4 : Int32) (p5 : Int32) : Array Slot := #[.val (.int p0), .val (.int p1), .val (.int p2), .val (.int p3), .val (.int p4), .val (.int p5), .val (.int (own_draw p0)), .val (.int (own_draw p1)), .val (.int (own_draw p2)), .unset, .unset, .unset, .unset, .unset, .unset]
abbrev own_loc59 (p0 : Int32) (p1 : Int32) (p2 : Int32) (p3 : Int32) (p4 : Int32) (p5 : Int32) : Array Slot := #[.val (.int p0), .val (.int p1), .val (.int p2), .val (.int p3), .val (.int p4), .val (.int p5), .val (.int (own_draw p0)), .val (.int (own_draw p1)), .val (.int (own_draw p2)), .val (.int (own_draw p3)), .unset, .unset, .unset, .unset, .unset]
abbrev own_loc60 (p0 : Int32) (p1 : Int32) (p2 : Int32) (p3 : Int32) (p4 : Int32) (p5 : Int32) (c0 : Int32) : Array Slot := #[.val (.int p0), .val (.int p1), .val (.int p2), .val (.int p3), .val (.int p4), .val (.int p5), .val (.int c0), .val (.int (own_draw p1)), .val (.int (own_draw p2)), .val (.int (own_draw p3)), .unset, .unset, .unset, .unset, .unset]
abbrev own_loc61 (p0 : Int32) (p1 : Int32) (p2 : Int32) (p3 : Int32) (p4 : Int32) (p5 : Int32) (c0 : Int32) (c1 : Int32) : Array Slot := #[.val (.int p0), .val (.int p1), .val (.int p2), .val (.int p3), .val (.int p4), .val (.int p5), .val (.int c0), .val (.int c1), .val (.int (own_draw p2)), .val (.int (own_draw p3)), .unset, .unset, .unset, .unset, .unset]
abbrev own_loc62 (p0 : Int32) (p1 : Int32) (p2 : Int32) (p3 : Int32) (p4 : Int32) (p5 : Int32) (c0 : Int32) (c1 : Int32) (c2 : Int32) : Array Slot := #[.val (.int p0), .val (.int p1), .val (.int p2), .val (.int p3), .val (.int p4), .val (.int p5), .val (.int c0), .val (.int c1), .val (.int c2), .val (.int (own_draw p3)), .unset, .unset, .unset, .unset, .unset]
abbrev own_loc63 (p0 : Int32) (p1 : Int32) (p2 : Int32) (p3 : Int32) (p4 : Int32) (p5 : Int32) (c0 : Int32) (c1 : Int32) (c2 : Int32) (c3 : Int32) : Array Slot := #[.val (.int p0), .val (.int p1), .val (.int p2), .val (.int p3), .val (.int p4), .val (.int p5), .val (.int c0), .val (.int c1), .val (.int c2), .val (.int c3), .unset, .unset, .unset, .unset, .unset]
abbrev own_loc64 (p0 : Int32) (p1 : Int32) (p2 : Int32) (p3 : Int32) (p4 : Int32) (p5 : Int32) (c0 : Int32) (c1 : Int32) (c2 : Int32) (c3 : Int32) : Array Slot := #[.val (.int p0), .val (.int p1), .val (.int p2), .val (.int p3), .val (.int p4), .val (.int p5), .val (.int c0), .val (.int c1), .val (.int c2), .val (.int c3), .val (.int ((p4 &&& (7 : Int32)) % (5 : Int32))), .unset, .unset, .unset, .unset]
abbrev own_loc65 (p0 : Int32) (p1 : Int32) (p2 : Int32) (p3 : Int32) (p4 : Int32) (p5 : Int32) (c0 : Int32) (c1 : Int32) (c2 : Int32) (c3 : Int32) (nn : Int32) : Array Slot := #[.val (.int p0), .val (.int p1), .val (.int p2), .val (.int p3), .val (.int p4), .val (.int p5), .val (.int c0), .val (.int c1), .val (.int c2), .val (.int c3), .val (.int nn), .unset, .unset, .unset, .unset]
abbrev own_loc66 (p0 : Int32) (p1 : Int32) (p2 : Int32) (p3 : Int32) (p4 : Int32) (p5 : Int32) (c0 : Int32) (c1 : Int32) (c2 : Int32) (c3 : Int32) (nn : Int32) : Array Slot := #[.val (.int p0), .val (.int p1), .val (.int p2), .val (.int p3), .val (.int p4), .val (.int p5), .val (.int c0), .val (.int c1), .val (.int c2), .val (.int c3), .val (.int nn), .val (.int (p5 &&& (7 : Int32))), .unset, .unset, .unset]
theorem pd_10 : parseMethodDescriptor "(ICCCC)[C" = some ⟨[.int, .char, .char, .char, .char], some (.array .char)⟩ := by decide +kernel
theorem pd_22 : parseMethodDescriptor "([C)V" = some ⟨[(.array .char)], none⟩ := by decide +kernel
abbrev own_loc67 (p0 : Int32) (p1 : Int32) (p2 : Int32) (p3 : Int32) (p4 : Int32) (p5 : Int32) (c0 : Int32) (c1 : Int32) (c2 : Int32) (c3 : Int32) (nn : Int32) (b838 : Addr) : Array Slot := #[.val (.int p0), .val (.int p1), .val (.int p2), .val (.int p3), .val (.int p4), .val (.int p5), .val (.int c0), .val (.int c1), .val (.int c2), .val (.int c3), .val (.int nn), .val (.int (p5 &&& (7 : Int32))), .val (.ref b838), .unset, .unset]
theorem pd_16 : parseMethodDescriptor "(Ljava/lang/String;I)I" = some ⟨[(.object "java/lang/String"), .int], some .int⟩ := by decide +kernel
abbrev own_loc68 (p0 : Int32) (p1 : Int32) (p2 : Int32) (p3 : Int32) (p4 : Int32) (p5 : Int32) (c0 : Int32) (c1 : Int32) (c2 : Int32) (c3 : Int32) (nn : Int32) (b838 : Addr) : Array Slot := #[.val (.int p0), .val (.int p1), .val (.int p2), .val (.int p3), .val (.int p4), .val (.int p5), .val (.int c0), .val (.int c1), .val (.int c2), .val (.int c3), .val (.int nn), .val (.int (p5 &&& (7 : Int32))), .val (.ref b838), .val (.int (own_as (own_ml nn (nar .char c0) (nar .char c1) (nar .char c2) (nar .char c3)) (p5 &&& (7 : Int32)))), .unset]
abbrev own_loc69 (p0 : Int32) (p1 : Int32) (p2 : Int32) (p3 : Int32) (p4 : Int32) (p5 : Int32) (c0 : Int32) (c1 : Int32) (c2 : Int32) (c3 : Int32) (nn : Int32) (b838 : Addr) (rr : Int32) : Array Slot := #[.val (.int p0), .val (.int p1), .val (.int p2), .val (.int p3), .val (.int p4), .val (.int p5), .val (.int c0), .val (.int c1), .val (.int c2), .val (.int c3), .val (.int nn), .val (.int (p5 &&& (7 : Int32))), .val (.ref b838), .val (.int rr), .unset]
abbrev own_loc70 (p0 : Int32) (p1 : Int32) (p2 : Int32) (p3 : Int32) (p4 : Int32) (p5 : Int32) (c0 : Int32) (c1 : Int32) (c2 : Int32) (c3 : Int32) (nn : Int32) (fr : Int32) (b838 : Addr) (rr : Int32) : Array Slot := #[.val (.int p0), .val (.int p1), .val (.int p2), .val (.int p3), .val (.int p4), .val (.int p5), .val (.int c0), .val (.int c1), .val (.int c2), .val (.int c3), .val (.int nn), .val (.int fr), .val (.ref b838), .val (.int rr), .unset]
abbrev own_loc71 (p0 : Int32) (p1 : Int32) (p2 : Int32) (p3 : Int32) (p4 : Int32) (p5 : Int32) (c0 : Int32) (c1 : Int32) (c2 : Int32) (c3 : Int32) (nn : Int32) (fr : Int32) (b838 : Addr) (rr : Int32) : Array Slot := #[.val (.int p0), .val (.int p1), .val (.int p2), .val (.int p3), .val (.int p4), .val (.int p5), .val (.int c0), .val (.int c1), .val (.int c2), .val (.int c3), .val (.int nn), .val (.int fr), .val (.ref b838), .val (.int rr), .val (.int (own_max fr nn))]
theorem pd_13 : parseMethodDescriptor "(IIICCCC)Z" = some ⟨[.int, .int, .int, .char, .char, .char, .char], some .boolean⟩ := by decide +kernel
def Q0 (n0 : Nat) (v : Option Value) (h : Heap) (L : List Loc) : Prop := v = some (.int 1) ∧ Fr n0 L
set_option maxRecDepth 65536 in
set_option maxHeartbeats 40000000 in
theorem rm0 (l : Launch) (Z : State) (ag : Array Value) (hw : ∀ d ∈ tables_1, d.before ag Z = true) (ws : List Jvm.Cond) (p0 : Int32) (p1 : Int32) (p2 : Int32) (p3 : Int32) (p4 : Int32) (p5 : Int32) (cs : Int32) (gf : Value) (h0 : Heap) (n0 : Nat) (Z0 : n0 ≤ h0.size) (O_ : Old Z n0 h0) (S_cs : Sta Z Z.heap "java/lang/String" "COMPACT_STRINGS" "Z" (.int cs)) (hcs : ¬ cs = (0 : Int32)) (S_gf : Sta Z Z.heap "jdk/internal/util/Preconditions" "SIOOBE_FORMATTER" "Ljava/util/function/BiFunction;" gf) (rv_gf : gf.isRef = true) (S_ad : Sta Z Z.heap "java/lang/StringUTF16" "$assertionsDisabled" "Z" (.int (1 : Int32))) (S_hi : Sta Z Z.heap "java/lang/StringUTF16" "HI_BYTE_SHIFT" "I" (.int (0 : Int32))) (S_lo : Sta Z Z.heap "java/lang/StringUTF16" "LO_BYTE_SHIFT" "I" (.int (8 : Int32))) :
    MetFree l x (head1 (Jvm.Cond.code x code maxLocals ret :: ws) room_1) (fun a U => a = #[(.int p0), (.int p1), (.int p2), (.int p3), (.int p4), (.int p5)] ∧ Z.Warmed39 U.vm ∧ U.heap = h0 ∧ CHv Z own_EL U.vm h0) (fun _ _ _ _ _ => True) (fun _ U o U' => ∃ v L, o = .returned v ∧ Q0 n0 v U'.heap L ∧ CHr Z own_EL U.vm U.heap U'.vm U'.heap ∧ ReturnedEndW U o U' L 22 272) := by
  refine MetFree.of_bodySF (plainFor_of_name pn_1) hisR ?_
  intro p e s m args below meth c s₁ Bd hml0 hP hK
  obtain ⟨rfl, hZ, hh, hI⟩ := hP
  have hx := Bd.exec
  have hby := Bd.bytes
  have hml : c.maxLocals = 15 := hml0
  have hown : s.vm.findClass "com/example/citeloom/citeloom/references/FieldTextAfterSeparatorsPinLaw" = some m.cls := findClass_of_methodNamed Bd.named
  have hnm := (name_of_methodNamed Bd.named Bd.method).1
  have X0 : Stand p l e room_1 s m #[(.int p0), (.int p1), (.int p2), (.int p3), (.int p4), (.int p5)] below meth c s₁ [] 0 0 := Stand.of_body Bd
  have e0 : s₁.heap = h0 := by rw [← hh, Bd.state]; rfl
  have N0 := Fr.nil n0
  have pre0 : ∀ t, Steps p.tables e below (s₁.setTop (mkF m 0 #[.val (.int p0), .val (.int p1), .val (.int p2), .val (.int p3), .val (.int p4), .val (.int p5), .unset, .unset, .unset, .unset, .unset, .unset, .unset, .unset, .unset] [])) t → Steps p.tables e below (s₁.setTop (entryFrame m #[(.int p0), (.int p1), (.int p2), (.int p3), (.int p4), (.int p5)] maxLocals)) t := fun t k => castTop (ef_0 m p0 p1 p2 p3 p4 p5) k
  have X0 : Stand p l e room_1 (s.setVm s.vm) m #[(.int p0), (.int p1), (.int p2), (.int p3), (.int p4), (.int p5)] below meth c s₁ [] 0 0 := X0
  have hS : s.Since s.vm 0 := (State.WarmedH.refl s).since 0
  have hkS : 0 ≤ h0.size := Nat.zero_le _
  have hC : CHr Z own_EL s.vm h0 s.vm h0 := CHr.refl hI
  have hEL : EW Z ag own_EL := own_ew hw
  have hwS : ∀ d ∈ Bundle.stringAtoms, d.before ag Z = true := fun d hd => hw d ((by decide +kernel : ∀ d ∈ Bundle.stringAtoms, d ∈ tables_1) d hd)
  obtain ⟨_, _, ⟨T821, L821, k821, n821⟩, -, X821, hS2_821, hg2_821, ⟨Lc821, hQ821, l821, y821, z821, hCs821⟩, st821⟩ := callSS X0 hx (y := (⟨"com/example/citeloom/citeloom/references/FieldTextAfterSeparatorsPinLaw", "draw", "(I)C"⟩ : MethodName)) hown (mvT hZ (own_wk hw 0 rfl)) (mvT hZ (own_wk hw 1 rfl)) (mvT hZ (own_wk hw 2 rfl)) (mvT hZ (own_wk hw 3 rfl)) (by decide) (backOfSH (W := 0) (rm1 l Z ag hw [] p0 cs gf h0 n0 Z0 O_ S_cs hcs S_gf rv_gf S_ad S_hi S_lo) hZ (own_wk hw 3 rfl) (own_wk hw 2 rfl) (by decide) (by decide) hEL hC.1) (g := (mkF m 1 (own_loc55 p0 p1 p2 p3 p4 p5) [(.int p0)])) rfl (by rw [hml]; rfl) (argsL := [(.int p0)]) (rest := []) (lenOf pd_5 rfl) rfl (by show 2 * 0 + _ ≤ _; exact Nat.le_of_eq rfl) (hb hby at_1) (fun _ _ => ⟨rfl, e0, (by decide : 0 + 2 ≤ _), (by decide : 0 + 28 ≤ _)⟩)
  dsimp only [Pt.U, Pt.locs, Pt.cells, Pt.slots] at X821 l821 y821 z821 st821 hQ821 hS2_821 hg2_821 hCs821
  subst l821 y821 z821
  obtain ⟨X821, hS, hZ, hown⟩ := rebS hS (by rw [e0]; exact hkS) X821 hS2_821 hg2_821 hZ hown
  obtain ⟨rfl, N821q, K821⟩ := hQ821
  have N821 := Fr.app N0 N821q
  have x822 := O_.keep K821 all0
  have sz823 : n0 ≤ T821.heap.size := Nat.le_trans Z0 K821.1
  have hkS := Nat.le_trans hkS K821.1
  have hC := hC.trans hCs821
  have hkS : T821.heap.size ≤ T821.heap.size := Nat.le_refl _
  obtain ⟨_, _, ⟨T824, L824, k824, n824⟩, -, X824, hS2_824, hg2_824, ⟨Lc824, hQ824, l824, y824, z824, hCs824⟩, st824⟩ := callSS X821 hx (y := (⟨"com/example/citeloom/citeloom/references/FieldTextAfterSeparatorsPinLaw", "draw", "(I)C"⟩ : MethodName)) hown (mvT hZ (own_wk hw 0 rfl)) (mvT hZ (own_wk hw 1 rfl)) (mvT hZ (own_wk hw 2 rfl)) (mvT hZ (own_wk hw 3 rfl)) (by decide) (backOfSH (W := 0) (rm1 l Z ag hw [] p1 cs gf T821.heap n0 sz823 x822 S_cs hcs S_gf rv_gf S_ad S_hi S_lo) hZ (own_wk hw 3 rfl) (own_wk hw 2 rfl) (by decide) (by decide) hEL hC.1) (g := (mkF m 7 (own_loc56 p0 p1 p2 p3 p4 p5) [(.int p1)])) rfl (by rw [hml]; rfl) (argsL := [(.int p1)]) (rest := []) (lenOf pd_5 rfl) rfl (by show 2 * 0 + _ ≤ _; exact Nat.le_of_eq rfl) (hb hby at_7) (fun _ _ => ⟨rfl, rfl, (by decide : 2 + 2 ≤ _), (by decide : 28 + 28 ≤ _)⟩)
  dsimp only [Pt.U, Pt.locs, Pt.cells, Pt.slots] at X824 l824 y824 z824 st824 hQ824 hS2_824 hg2_824 hCs824
  subst l824 y824 z824
  obtain ⟨X824, hS, hZ, hown⟩ := rebS hS hkS X824 hS2_824 hg2_824 hZ hown
  obtain ⟨rfl, N824q, K824⟩ := hQ824
  have N824 := Fr.app N821 N824q
  have x825 := x822.keep K824 all0
  have sz826 : n0 ≤ T824.heap.size := Nat.le_trans sz823 K824.1
  have hkS := Nat.le_trans hkS K824.1
  have hC := hC.trans hCs824
  have hkS : T824.heap.size ≤ T824.heap.size := Nat.le_refl _
  obtain ⟨_, _, ⟨T827, L827, k827, n827⟩, -, X827, hS2_827, hg2_827, ⟨Lc827, hQ827, l827, y827, z827, hCs827⟩, st827⟩ := callSS X824 hx (y := (⟨"com/example/citeloom/citeloom/references/FieldTextAfterSeparatorsPinLaw", "draw", "(I)C"⟩ : MethodName)) hown (mvT hZ (own_wk hw 0 rfl)) (mvT hZ (own_wk hw 1 rfl)) (mvT hZ (own_wk hw 2 rfl)) (mvT hZ (own_wk hw 3 rfl)) (by decide) (backOfSH (W := 0) (rm1 l Z ag hw [] p2 cs gf T824.heap n0 sz826 x825 S_cs hcs S_gf rv_gf S_ad S_hi S_lo) hZ (own_wk hw 3 rfl) (own_wk hw 2 rfl) (by decide) (by decide) hEL hC.1) (g := (mkF m 13 (own_loc57 p0 p1 p2 p3 p4 p5) [(.int p2)])) rfl (by rw [hml]; rfl) (argsL := [(.int p2)]) (rest := []) (lenOf pd_5 rfl) rfl (by show 2 * 0 + _ ≤ _; exact Nat.le_of_eq rfl) (hb hby at_13) (fun _ _ => ⟨rfl, rfl, (by decide : 4 + 2 ≤ _), (by decide : 56 + 28 ≤ _)⟩)
  dsimp only [Pt.U, Pt.locs, Pt.cells, Pt.slots] at X827 l827 y827 z827 st827 hQ827 hS2_827 hg2_827 hCs827
  subst l827 y827 z827
  obtain ⟨X827, hS, hZ, hown⟩ := rebS hS hkS X827 hS2_827 hg2_827 hZ hown
  obtain ⟨rfl, N827q, K827⟩ := hQ827
  have N827 := Fr.app N824 N827q
  have x828 := x825.keep K827 all0
  have sz829 : n0 ≤ T827.heap.size := Nat.le_trans sz826 K827.1
  have hkS := Nat.le_trans hkS K827.1
  have hC := hC.trans hCs827
  have hkS : T827.heap.size ≤ T827.heap.size := Nat.le_refl _
  obtain ⟨_, _, ⟨T830, L830, k830, n830⟩, -, X830, hS2_830, hg2_830, ⟨Lc830, hQ830, l830, y830, z830, hCs830⟩, st830⟩ := callSS X827 hx (y := (⟨"com/example/citeloom/citeloom/references/FieldTextAfterSeparatorsPinLaw", "draw", "(I)C"⟩ : MethodName)) hown (mvT hZ (own_wk hw 0 rfl)) (mvT hZ (own_wk hw 1 rfl)) (mvT hZ (own_wk hw 2 rfl)) (mvT hZ (own_wk hw 3 rfl)) (by decide) (backOfSH (W := 0) (rm1 l Z ag hw [] p3 cs gf T827.heap n0 sz829 x828 S_cs hcs S_gf rv_gf S_ad S_hi S_lo) hZ (own_wk hw 3 rfl) (own_wk hw 2 rfl) (by decide) (by decide) hEL hC.1) (g := (mkF m 19 (own_loc58 p0 p1 p2 p3 p4 p5) [(.int p3)])) rfl (by rw [hml]; rfl) (argsL := [(.int p3)]) (rest := []) (lenOf pd_5 rfl) rfl (by show 2 * 0 + _ ≤ _; exact Nat.le_of_eq rfl) (hb hby at_19) (fun _ _ => ⟨rfl, rfl, (by decide : 6 + 2 ≤ _), (by decide : 84 + 28 ≤ _)⟩)
  dsimp only [Pt.U, Pt.locs, Pt.cells, Pt.slots] at X830 l830 y830 z830 st830 hQ830 hS2_830 hg2_830 hCs830
  subst l830 y830 z830
  obtain ⟨X830, hS, hZ, hown⟩ := rebS hS hkS X830 hS2_830 hg2_830 hZ hown
  obtain ⟨rfl, N830q, K830⟩ := hQ830
  have N830 := Fr.app N827 N830q
  have x831 := x828.keep K830 all0
  have sz832 : n0 ≤ T830.heap.size := Nat.le_trans sz829 K830.1
  have hkS := Nat.le_trans hkS K830.1
  have hC := hC.trans hCs830
  have hkS : T830.heap.size ≤ T830.heap.size := Nat.le_refl _
  obtain ⟨c0, h_c0⟩ : ∃ z : Int32, z = (own_draw p0) := ⟨_, rfl⟩
  have sg833 : ∀ target, Steps p.tables e below (T830.setTop (mkF m 24 (own_loc60 p0 p1 p2 p3 p4 p5 c0) [])) target → Steps p.tables e below (T830.setTop (mkF m 24 (own_loc59 p0 p1 p2 p3 p4 p5) [])) target := by subst h_c0; exact fun _ k => k
  obtain ⟨c1, h_c1⟩ : ∃ z : Int32, z = (own_draw p1) := ⟨_, rfl⟩
  have sg834 : ∀ target, Steps p.tables e below (T830.setTop (mkF m 24 (own_loc61 p0 p1 p2 p3 p4 p5 c0 c1) [])) target → Steps p.tables e below (T830.setTop (mkF m 24 (own_loc60 p0 p1 p2 p3 p4 p5 c0) [])) target := by subst h_c1; exact fun _ k => k
  obtain ⟨c2, h_c2⟩ : ∃ z : Int32, z = (own_draw p2) := ⟨_, rfl⟩
  have sg835 : ∀ target, Steps p.tables e below (T830.setTop (mkF m 24 (own_loc62 p0 p1 p2 p3 p4 p5 c0 c1 c2) [])) target → Steps p.tables e below (T830.setTop (mkF m 24 (own_loc61 p0 p1 p2 p3 p4 p5 c0 c1) [])) target := by subst h_c2; exact fun _ k => k
  obtain ⟨c3, h_c3⟩ : ∃ z : Int32, z = (own_draw p3) := ⟨_, rfl⟩
  have sg836 : ∀ target, Steps p.tables e below (T830.setTop (mkF m 24 (own_loc63 p0 p1 p2 p3 p4 p5 c0 c1 c2 c3) [])) target → Steps p.tables e below (T830.setTop (mkF m 24 (own_loc62 p0 p1 p2 p3 p4 p5 c0 c1 c2) [])) target := by subst h_c3; exact fun _ k => k
  obtain ⟨nn, h_nn⟩ : ∃ z : Int32, z = ((p4 &&& (7 : Int32)) % (5 : Int32)) := ⟨_, rfl⟩
  have sg837 : ∀ target, Steps p.tables e below (T830.setTop (mkF m 33 (own_loc65 p0 p1 p2 p3 p4 p5 c0 c1 c2 c3 nn) [])) target → Steps p.tables e below (T830.setTop (mkF m 33 (own_loc64 p0 p1 p2 p3 p4 p5 c0 c1 c2 c3) [])) target := by subst h_nn; exact fun _ k => k
  have hn5 : own_n5 nn := by rw [h_nn]; exact own_five5 p4
  obtain ⟨T838, h838, X838, e838, E838, A838, D838, -, st838⟩ := newO X830 hx hZ hown (own_wk hw 37 rfl) (own_wk hw 6 rfl) (own_wk hw 5 rfl) rfl (g := (mkF m 40 (own_loc66 p0 p1 p2 p3 p4 p5 c0 c1 c2 c3 nn) [])) rfl (hb hby at_40) (by decide) (by decide)
  obtain ⟨b838, g838⟩ : ∃ z, z = T830.heap.size := ⟨_, rfl⟩
  have ge_b838 : n0 ≤ b838 := Nat.le_trans sz832 (Nat.le_of_eq g838.symm)
  have sf_b838 := own_safe_at hC (Nat.le_of_eq g838.symm)
  rw [← g838] at A838 D838 st838
  have x839 := x831.ext E838
  have x840 := Safe.ext E838 hC.1 sf_b838
  have sz841 : n0 ≤ h838.size := Nat.le_trans sz832 E838.1
  have hkS := Nat.le_trans hkS E838.1
  have hC := hC.trans (CHr.ext E838 hC.1)
  have F838_value : Fld Z h838 b838 "java/lang/String" "value" "[B" .null := D838 (Or.inr (own_wk hw 8 rfl)) (ty := (.array .byte)) (by decide)
  have F838_coder : Fld Z h838 b838 "java/lang/String" "coder" "B" (.int (0 : Int32)) := D838 (Or.inr (own_wk hw 9 rfl)) (ty := .byte) (by decide)
  have cp842 : ∀ target, own_S p e below T838 (mkF m 54 (own_loc66 p0 p1 p2 p3 p4 p5 c0 c1 c2 c3 nn) [(.int c3), (.int c2), (.int c1), (.int c0), (.int nn), (.ref b838), (.ref b838)]) target → own_S p e below s₁ (mkF m 0 (own_loc55 p0 p1 p2 p3 p4 p5) []) target := by
    intro target kt
    show own_S p e below s₁ (mkF m 0 (own_loc55 p0 p1 p2 p3 p4 p5) []) _
    refine XS.iloadN X0.here hx rfl (hb hby at_0) rfl ?_
    show own_S p e below s₁ (mkF m 1 (own_loc55 p0 p1 p2 p3 p4 p5) [(.int p0)]) _
    refine st821.trans ?_
    show own_S p e below T821 (mkF m 4 (own_loc55 p0 p1 p2 p3 p4 p5) [(.int (own_draw p0))]) _
    refine XS.istore X821.here hx rfl (hb hby at_4) rfl (l' := (own_loc56 p0 p1 p2 p3 p4 p5)) rfl ?_
    show own_S p e below T821 (mkF m 6 (own_loc56 p0 p1 p2 p3 p4 p5) []) _
    refine XS.iloadN X821.here hx rfl (hb hby at_6) rfl ?_
    show own_S p e below T821 (mkF m 7 (own_loc56 p0 p1 p2 p3 p4 p5) [(.int p1)]) _
    refine st824.trans ?_
    show own_S p e below T824 (mkF m 10 (own_loc56 p0 p1 p2 p3 p4 p5) [(.int (own_draw p1))]) _
    refine XS.istore X824.here hx rfl (hb hby at_10) rfl (l' := (own_loc57 p0 p1 p2 p3 p4 p5)) rfl ?_
    show own_S p e below T824 (mkF m 12 (own_loc57 p0 p1 p2 p3 p4 p5) []) _
    refine XS.iloadN X824.here hx rfl (hb hby at_12) rfl ?_
    show own_S p e below T824 (mkF m 13 (own_loc57 p0 p1 p2 p3 p4 p5) [(.int p2)]) _
    refine st827.trans ?_
    show own_S p e below T827 (mkF m 16 (own_loc57 p0 p1 p2 p3 p4 p5) [(.int (own_draw p2))]) _
    refine XS.istore X827.here hx rfl (hb hby at_16) rfl (l' := (own_loc58 p0 p1 p2 p3 p4 p5)) rfl ?_
    show own_S p e below T827 (mkF m 18 (own_loc58 p0 p1 p2 p3 p4 p5) []) _
    refine XS.iloadN X827.here hx rfl (hb hby at_18) rfl ?_
    show own_S p e below T827 (mkF m 19 (own_loc58 p0 p1 p2 p3 p4 p5) [(.int p3)]) _
    refine st830.trans ?_
    show own_S p e below T830 (mkF m 22 (own_loc58 p0 p1 p2 p3 p4 p5) [(.int (own_draw p3))]) _
    refine XS.istore X830.here hx rfl (hb hby at_22) rfl (l' := (own_loc59 p0 p1 p2 p3 p4 p5)) rfl ?_
    show own_S p e below T830 (mkF m 24 (own_loc59 p0 p1 p2 p3 p4 p5) []) _
    refine sg833 _ ?_
    show own_S p e below T830 (mkF m 24 (own_loc60 p0 p1 p2 p3 p4 p5 c0) []) _
    refine sg834 _ ?_
    show own_S p e below T830 (mkF m 24 (own_loc61 p0 p1 p2 p3 p4 p5 c0 c1) []) _
    refine sg835 _ ?_
    show own_S p e below T830 (mkF m 24 (own_loc62 p0 p1 p2 p3 p4 p5 c0 c1 c2) []) _
    refine sg836 _ ?_
    show own_S p e below T830 (mkF m 24 (own_loc63 p0 p1 p2 p3 p4 p5 c0 c1 c2 c3) []) _
    refine XS.iload X830.here hx rfl (hb hby at_24) rfl ?_
    refine XS.bipush X830.here hx rfl (hb hby at_26) ?_
    refine XS.iand X830.here hx rfl (hb hby at_28) rfl ?_
    refine XS.iconst X830.here hx rfl (hb hby at_29) ?_
    refine iremM X830 hx rfl (hb hby at_30) rfl (by decide) ?_
    show own_S p e below T830 (mkF m 31 (own_loc63 p0 p1 p2 p3 p4 p5 c0 c1 c2 c3) [(.int ((p4 &&& (7 : Int32)) % (5 : Int32)))]) _
    refine XS.istore X830.here hx rfl (hb hby at_31) rfl (l' := (own_loc64 p0 p1 p2 p3 p4 p5 c0 c1 c2 c3)) rfl ?_
    show own_S p e below T830 (mkF m 33 (own_loc64 p0 p1 p2 p3 p4 p5 c0 c1 c2 c3) []) _
    refine sg837 _ ?_
    show own_S p e below T830 (mkF m 33 (own_loc65 p0 p1 p2 p3 p4 p5 c0 c1 c2 c3 nn) []) _
    refine XS.iload X830.here hx rfl (hb hby at_33) rfl ?_
    refine XS.bipush X830.here hx rfl (hb hby at_35) ?_
    refine XS.iand X830.here hx rfl (hb hby at_37) rfl ?_
    refine XS.istore X830.here hx rfl (hb hby at_38) rfl (l' := (own_loc66 p0 p1 p2 p3 p4 p5 c0 c1 c2 c3 nn)) rfl ?_
    show own_S p e below T830 (mkF m 40 (own_loc66 p0 p1 p2 p3 p4 p5 c0 c1 c2 c3 nn) []) _
    refine st838 _ ?_
    show own_S p e below T838 (mkF m 43 (own_loc66 p0 p1 p2 p3 p4 p5 c0 c1 c2 c3 nn) [(.ref b838)]) _
    refine XS.dup X838.here hx rfl (hb hby at_43) rfl rfl ?_
    refine XS.iload X838.here hx rfl (hb hby at_44) rfl ?_
    refine XS.iload X838.here hx rfl (hb hby at_46) rfl ?_
    refine XS.iload X838.here hx rfl (hb hby at_48) rfl ?_
    refine XS.iload X838.here hx rfl (hb hby at_50) rfl ?_
    refine XS.iload X838.here hx rfl (hb hby at_52) rfl ?_
    exact kt
  obtain ⟨_, _, ⟨T843, L843, k843, n843⟩, -, X843, ⟨Lc843, hQ843, l843, y843, z843⟩, st843⟩ := Jvm.LawKit.callS X838 hx (y := (⟨"com/example/citeloom/citeloom/references/FieldTextAfterSeparatorsPinLaw", "make", "(ICCCC)[C"⟩ : MethodName)) hown (mvT hZ (own_wk hw 38 rfl)) (mvT hZ (own_wk hw 39 rfl)) (mvT hZ (own_wk hw 2 rfl)) (mvT hZ (own_wk hw 40 rfl)) (by decide) (backOf (W := 2) (rm7 l Z ag hw [] nn c0 c1 c2 c3  h838 n0 sz841 hn5) hZ (own_wk hw 40 rfl) (own_wk hw 2 rfl) (by decide) (by decide)) (g := (mkF m 54 (own_loc66 p0 p1 p2 p3 p4 p5 c0 c1 c2 c3 nn) [(.int c3), (.int c2), (.int c1), (.int c0), (.int nn), (.ref b838), (.ref b838)])) rfl (by rw [hml]; rfl) (argsL := [(.int nn), (.int c0), (.int c1), (.int c2), (.int c3)]) (rest := [(.ref b838), (.ref b838)]) (lenOf pd_10 rfl) rfl (by show 2 * 0 + _ ≤ _; exact Nat.le_of_eq rfl) (hb hby at_54) (fun _ _ => ⟨rfl, e838, (by decide : 9 + 1 ≤ _), (by decide : 116 + 4 ≤ _)⟩)
  dsimp only [Pt.U, Pt.locs, Pt.cells, Pt.slots] at X843 l843 y843 z843 st843 hQ843
  subst l843 y843 z843
  obtain ⟨r843, kr843, rfl, N843q, K843, ge_r843, gq_r843, Vr843⟩ := hQ843
  have N843 := Fr.app N830 N843q
  have ne844 : b838 ≠ r843 := Nat.ne_of_lt (Nat.lt_of_lt_of_le A838.lt gq_r843)
  have x845 := x839.keep K843 all0
  have x846 := Safe.keep K843 sf0 hC.1 x840
  have x847 := A838.keep K843
  have x848 := F838_value.keep K843 nin0
  have x849 := F838_coder.keep K843 nin0
  have sz850 : n0 ≤ T843.heap.size := Nat.le_trans sz841 K843.1
  have hkS := Nat.le_trans hkS K843.1
  have hC := hC.trans (CHr.keep K843 sf0 hC.1)
  obtain ⟨_, _, ⟨T851, L851, k851, n851⟩, -, X851, hS2_851, hg2_851, ⟨Lc851, hQ851, l851, y851, z851, hCs851⟩, st851⟩ := X843.specialBackS hx (y := (⟨"java/lang/String", "<init>", "([C)V"⟩ : MethodName)) rfl hown (mvT hZ (own_wk hw 42 rfl)) (mvT hZ (own_wk hw 43 rfl)) (mvT hZ (own_wk hw 44 rfl)) (by decide) (backOfSH (W := 1) (rm8 l Z ag hw [] b838 r843 kr843 nn (nar .char c0) (nar .char c1) (nar .char c2) (nar .char c3) cs T843.heap n0 sz850 hn5 x847 x848 x849 ge_b838 ne844 Vr843 (own_nar_rng _) (own_nar_rng _) (own_nar_rng _) (own_nar_rng _) x845 S_cs hcs S_ad S_hi S_lo) hZ (own_wk hw 44 rfl) (own_wk hw 5 rfl) (by decide) (by decide) hEL hC.1) (g := (mkF m 57 (own_loc66 p0 p1 p2 p3 p4 p5 c0 c1 c2 c3 nn) [(.ref r843), (.ref b838), (.ref b838)])) rfl (by rw [hml]; rfl) (Steps.refl _) (a := b838) (argsL := [(.ref r843)]) (rest := [(.ref b838)]) (lenOf pd_22 rfl) rfl (by show 2 * 0 + _ ≤ _; exact Nat.le_of_eq rfl) (hb hby at_57) (fun _ _ => ⟨rfl, rfl, (by decide : 10 + 4 ≤ _), (by decide : 120 + 40 ≤ _)⟩)
  dsimp only [Pt.U, Pt.locs, Pt.cells, Pt.slots] at X851 l851 y851 z851 st851 hQ851 hS2_851 hg2_851 hCs851
  subst l851 y851 z851
  obtain ⟨X851, hS, hZ, hown⟩ := rebS hS hkS X851 hS2_851 hg2_851 hZ hown
  obtain ⟨rfl, N851q, K851, Ss851⟩ := hQ851
  have N851 := Fr.app N843 N851q
  have x852 := x845.keep K851 (allS ge_b838 all0)
  have x853 := hCs851.safe x847.lt x846
  have x854 := x847.keep K851
  have x855 := Vr843.keep K851 (ninS (Ne.symm ne844) nin0)
  have sz856 : n0 ≤ T851.heap.size := Nat.le_trans sz850 K851.1
  have hkS := Nat.le_trans hkS K851.1
  have hC := hC.trans hCs851
  have hkS : T851.heap.size ≤ T851.heap.size := Nat.le_refl _
  obtain ⟨_, _, ⟨T857, L857, k857, n857⟩, -, X857, hS2_857, hg2_857, ⟨Lc857, hQ857, l857, y857, z857, hCs857⟩, st857⟩ := callSS X851 hx (y := (⟨"com/example/citeloom/citeloom/references/FieldText", "afterSeparators", "(Ljava/lang/String;I)I"⟩ : MethodName)) hown (mvT hZ (own_wk hw 53 rfl)) (mvT hZ (own_wk hw 54 rfl)) (mvT hZ (own_wk hw 55 rfl)) (mvT hZ (own_wk hw 56 rfl)) (by decide) (backOfSH (W := 0) (rm11 l Z ag hw [] b838 (p5 &&& (7 : Int32)) (own_ml nn (nar .char c0) (nar .char c1) (nar .char c2) (nar .char c3)) cs gf T851.heap n0 sz856 Ss851 (own_ml_len _ _ _ _ _) (own_m7 p5) x852 S_cs hcs S_gf rv_gf S_ad S_hi S_lo) hZ (own_wk hw 56 rfl) (own_wk hw 55 rfl) (by decide) (by decide) hEL hC.1) (g := (mkF m 66 (own_loc67 p0 p1 p2 p3 p4 p5 c0 c1 c2 c3 nn b838) [(.int (p5 &&& (7 : Int32))), (.ref b838)])) rfl (by rw [hml]; rfl) (argsL := [(.ref b838), (.int (p5 &&& (7 : Int32)))]) (rest := []) (lenOf pd_16 rfl) rfl (by show 2 * 0 + _ ≤ _; exact Nat.le_of_eq rfl) (hb hby at_66) (fun _ _ => ⟨rfl, rfl, (by decide : 14 + 8 ≤ _), (by decide : 160 + 112 ≤ _)⟩)
  dsimp only [Pt.U, Pt.locs, Pt.cells, Pt.slots] at X857 l857 y857 z857 st857 hQ857 hS2_857 hg2_857 hCs857
  subst l857 y857 z857
  obtain ⟨X857, hS, hZ, hown⟩ := rebS hS hkS X857 hS2_857 hg2_857 hZ hown
  obtain ⟨rfl, N857q, K857⟩ := hQ857
  have N857 := Fr.app N851 N857q
  have x858 := x852.keep K857 all0
  have x859 := hCs857.safe x854.lt x853
  have x860 := x854.keep K857
  have x861 := x855.keep K857 nin0
  have x862 := Ss851.keep0 K857
  have sz863 : n0 ≤ T857.heap.size := Nat.le_trans sz856 K857.1
  have hkS := Nat.le_trans hkS K857.1
  have hC := hC.trans hCs857
  have hkS : T857.heap.size ≤ T857.heap.size := Nat.le_refl _
  obtain ⟨rr, h_rr⟩ : ∃ z : Int32, z = (own_as (own_ml nn (nar .char c0) (nar .char c1) (nar .char c2) (nar .char c3)) (p5 &&& (7 : Int32))) := ⟨_, rfl⟩
  have sg864 : ∀ target, Steps p.tables e below (T857.setTop (mkF m 71 (own_loc69 p0 p1 p2 p3 p4 p5 c0 c1 c2 c3 nn b838 rr) [])) target → Steps p.tables e below (T857.setTop (mkF m 71 (own_loc68 p0 p1 p2 p3 p4 p5 c0 c1 c2 c3 nn b838) [])) target := by subst h_rr; exact fun _ k => k
  obtain ⟨fr, h_fr⟩ : ∃ z : Int32, z = (p5 &&& (7 : Int32)) := ⟨_, rfl⟩
  have sg865 : ∀ target, Steps p.tables e below (T857.setTop (mkF m 71 (own_loc70 p0 p1 p2 p3 p4 p5 c0 c1 c2 c3 nn fr b838 rr) [])) target → Steps p.tables e below (T857.setTop (mkF m 71 (own_loc69 p0 p1 p2 p3 p4 p5 c0 c1 c2 c3 nn b838 rr) [])) target := by subst h_fr; exact fun _ k => k
  have key := own_key nn c0 c1 c2 c3 fr rr hn5 (by rw [h_c0]; exact own_draw_rng _) (by rw [h_c1]; exact own_draw_rng _) (by rw [h_c2]; exact own_draw_rng _) (by rw [h_c3]; exact own_draw_rng _) (by rw [h_fr]; exact own_m7 p5) (by rw [h_rr, h_fr])
  obtain ⟨k1, k2, k3, k4, k5, k6, k7⟩ := key
  obtain ⟨_, _, ⟨T866, L866, k866, n866⟩, -, X866, ⟨Lc866, hQ866, l866, y866, z866⟩, st866⟩ := Jvm.LawKit.callS X857 hx (y := (⟨"java/lang/Math", "max", "(II)I"⟩ : MethodName)) hown (mvT hZ (own_wk hw 67 rfl)) (mvT hZ (own_wk hw 68 rfl)) (mvT hZ (own_wk hw 69 rfl)) (mvT hZ (own_wk hw 70 rfl)) (by decide) (backOf (W := 0) (rm14 l Z ag hw [] fr nn  T857.heap n0 sz863 ) hZ (own_wk hw 70 rfl) (own_wk hw 69 rfl) (by decide) (by decide)) (g := (mkF m 75 (own_loc70 p0 p1 p2 p3 p4 p5 c0 c1 c2 c3 nn fr b838 rr) [(.int nn), (.int fr)])) rfl (by rw [hml]; rfl) (argsL := [(.int fr), (.int nn)]) (rest := []) (lenOf pd_11 rfl) rfl (by show 2 * 0 + _ ≤ _; exact Nat.le_of_eq rfl) (hb hby at_75) (fun _ _ => ⟨rfl, rfl, (by decide : 22 + 0 ≤ _), (by decide : 272 + 0 ≤ _)⟩)
  dsimp only [Pt.U, Pt.locs, Pt.cells, Pt.slots] at X866 l866 y866 z866 st866 hQ866
  subst l866 y866 z866
  obtain ⟨rfl, N866q, e866⟩ := hQ866
  have N866 := Fr.app N857 N866q
  have cp867 : ∀ target, own_S p e below T866 (mkF m 109 (own_loc71 p0 p1 p2 p3 p4 p5 c0 c1 c2 c3 nn fr b838 rr) [(.int c3), (.int c2), (.int c1), (.int c0), (.int rr), (.int fr), .int 0]) target → own_S p e below s₁ (mkF m 0 (own_loc55 p0 p1 p2 p3 p4 p5) []) target := by
    intro target kt
    show own_S p e below s₁ (mkF m 0 (own_loc55 p0 p1 p2 p3 p4 p5) []) _
    refine cp842 _ ?_
    show own_S p e below T838 (mkF m 54 (own_loc66 p0 p1 p2 p3 p4 p5 c0 c1 c2 c3 nn) [(.int c3), (.int c2), (.int c1), (.int c0), (.int nn), (.ref b838), (.ref b838)]) _
    refine st843 _ ?_
    show own_S p e below T843 (mkF m 57 (own_loc66 p0 p1 p2 p3 p4 p5 c0 c1 c2 c3 nn) [(.ref r843), (.ref b838), (.ref b838)]) _
    refine st851.trans ?_
    show own_S p e below T851 (mkF m 60 (own_loc66 p0 p1 p2 p3 p4 p5 c0 c1 c2 c3 nn) [(.ref b838)]) _
    refine XS.astore X851.here hx rfl (hb hby at_60) rfl rfl (l' := (own_loc67 p0 p1 p2 p3 p4 p5 c0 c1 c2 c3 nn b838)) rfl ?_
    show own_S p e below T851 (mkF m 62 (own_loc67 p0 p1 p2 p3 p4 p5 c0 c1 c2 c3 nn b838) []) _
    refine XS.aload X851.here hx rfl (hb hby at_62) rfl rfl ?_
    refine XS.iload X851.here hx rfl (hb hby at_64) rfl ?_
    show own_S p e below T851 (mkF m 66 (own_loc67 p0 p1 p2 p3 p4 p5 c0 c1 c2 c3 nn b838) [(.int (p5 &&& (7 : Int32))), (.ref b838)]) _
    refine st857.trans ?_
    show own_S p e below T857 (mkF m 69 (own_loc67 p0 p1 p2 p3 p4 p5 c0 c1 c2 c3 nn b838) [(.int (own_as (own_ml nn (nar .char c0) (nar .char c1) (nar .char c2) (nar .char c3)) (p5 &&& (7 : Int32))))]) _
    refine XS.istore X857.here hx rfl (hb hby at_69) rfl (l' := (own_loc68 p0 p1 p2 p3 p4 p5 c0 c1 c2 c3 nn b838)) rfl ?_
    show own_S p e below T857 (mkF m 71 (own_loc68 p0 p1 p2 p3 p4 p5 c0 c1 c2 c3 nn b838) []) _
    refine sg864 _ ?_
    show own_S p e below T857 (mkF m 71 (own_loc69 p0 p1 p2 p3 p4 p5 c0 c1 c2 c3 nn b838 rr) []) _
    refine sg865 _ ?_
    show own_S p e below T857 (mkF m 71 (own_loc70 p0 p1 p2 p3 p4 p5 c0 c1 c2 c3 nn fr b838 rr) []) _
    refine XS.iload X857.here hx rfl (hb hby at_71) rfl ?_
    refine XS.iload X857.here hx rfl (hb hby at_73) rfl ?_
    show own_S p e below T857 (mkF m 75 (own_loc70 p0 p1 p2 p3 p4 p5 c0 c1 c2 c3 nn fr b838 rr) [(.int nn), (.int fr)]) _
    refine st866 _ ?_
    show own_S p e below T866 (mkF m 78 (own_loc70 p0 p1 p2 p3 p4 p5 c0 c1 c2 c3 nn fr b838 rr) [(.int (own_max fr nn))]) _
    refine XS.istore X866.here hx rfl (hb hby at_78) rfl (l' := (own_loc71 p0 p1 p2 p3 p4 p5 c0 c1 c2 c3 nn fr b838 rr)) rfl ?_
    show own_S p e below T866 (mkF m 80 (own_loc71 p0 p1 p2 p3 p4 p5 c0 c1 c2 c3 nn fr b838 rr) []) _
    refine XS.iload X866.here hx rfl (hb hby at_80) rfl ?_
    refine XS.iload X866.here hx rfl (hb hby at_82) rfl ?_
    refine XS.icmpNo X866.here hx rfl (hb hby at_84) rfl (flt (show ¬ (rr < fr) from k1)).1 ?_
    show own_S p e below T866 (mkF m 87 (own_loc71 p0 p1 p2 p3 p4 p5 c0 c1 c2 c3 nn fr b838 rr) []) _
    refine XS.iload X866.here hx rfl (hb hby at_87) rfl ?_
    refine XS.iload X866.here hx rfl (hb hby at_89) rfl ?_
    refine XS.icmpYes X866.here hx rfl (pc0 := 91) (pc' := 96) rfl (hb hby at_91) rfl (flt (show ¬ ((own_max fr nn) < rr) from k2)).2.2.2 (by decide) (by decide) ?_
    show own_S p e below T866 (mkF m 96 (own_loc71 p0 p1 p2 p3 p4 p5 c0 c1 c2 c3 nn fr b838 rr) []) _
    refine XS.iconst X866.here hx rfl (hb hby at_96) ?_
    refine XS.iload X866.here hx rfl (hb hby at_97) rfl ?_
    refine XS.iload X866.here hx rfl (hb hby at_99) rfl ?_
    refine XS.iload X866.here hx rfl (hb hby at_101) rfl ?_
    refine XS.iload X866.here hx rfl (hb hby at_103) rfl ?_
    refine XS.iload X866.here hx rfl (hb hby at_105) rfl ?_
    refine XS.iload X866.here hx rfl (hb hby at_107) rfl ?_
    exact kt
  obtain ⟨_, _, ⟨T868, L868, k868, n868⟩, -, X868, ⟨Lc868, hQ868, l868, y868, z868⟩, st868⟩ := Jvm.LawKit.callS X866 hx (y := (⟨"com/example/citeloom/citeloom/references/FieldTextAfterSeparatorsPinLaw", "inRunOk", "(IIICCCC)Z"⟩ : MethodName)) hown (mvT hZ (own_wk hw 71 rfl)) (mvT hZ (own_wk hw 72 rfl)) (mvT hZ (own_wk hw 2 rfl)) (mvT hZ (own_wk hw 73 rfl)) (by decide) (backOf (W := 0) (rm15 l Z ag hw [] (0 : Int32) fr rr c0 c1 c2 c3  T857.heap n0 sz863 ) hZ (own_wk hw 73 rfl) (own_wk hw 2 rfl) (by decide) (by decide)) (g := (mkF m 109 (own_loc71 p0 p1 p2 p3 p4 p5 c0 c1 c2 c3 nn fr b838 rr) [(.int c3), (.int c2), (.int c1), (.int c0), (.int rr), (.int fr), .int 0])) rfl (by rw [hml]; rfl) (argsL := [(.int (0 : Int32)), (.int fr), (.int rr), (.int c0), (.int c1), (.int c2), (.int c3)]) (rest := []) (lenOf pd_13 rfl) rfl (by show 2 * 0 + _ ≤ _; exact Nat.le_of_eq rfl) (hb hby at_109) (fun _ _ => ⟨rfl, e866, (by decide : 22 + 0 ≤ _), (by decide : 272 + 0 ≤ _)⟩)
  dsimp only [Pt.U, Pt.locs, Pt.cells, Pt.slots] at X868 l868 y868 z868 st868 hQ868
  subst l868 y868 z868
  obtain ⟨rfl, N868q, e868⟩ := hQ868
  have N868 := Fr.app N866 N868q
  obtain ⟨_, _, ⟨T869, L869, k869, n869⟩, -, X869, ⟨Lc869, hQ869, l869, y869, z869⟩, st869⟩ := Jvm.LawKit.callS X868 hx (y := (⟨"com/example/citeloom/citeloom/references/FieldTextAfterSeparatorsPinLaw", "inRunOk", "(IIICCCC)Z"⟩ : MethodName)) hown (mvT hZ (own_wk hw 71 rfl)) (mvT hZ (own_wk hw 72 rfl)) (mvT hZ (own_wk hw 2 rfl)) (mvT hZ (own_wk hw 73 rfl)) (by decide) (backOf (W := 0) (rm15 l Z ag hw [] (1 : Int32) fr rr c0 c1 c2 c3  T857.heap n0 sz863 ) hZ (own_wk hw 73 rfl) (own_wk hw 2 rfl) (by decide) (by decide)) (g := (mkF m 130 (own_loc71 p0 p1 p2 p3 p4 p5 c0 c1 c2 c3 nn fr b838 rr) [(.int c3), (.int c2), (.int c1), (.int c0), (.int rr), (.int fr), .int 1])) rfl (by rw [hml]; rfl) (argsL := [(.int (1 : Int32)), (.int fr), (.int rr), (.int c0), (.int c1), (.int c2), (.int c3)]) (rest := []) (lenOf pd_13 rfl) rfl (by show 2 * 0 + _ ≤ _; exact Nat.le_of_eq rfl) (hb hby at_130) (fun _ _ => ⟨rfl, e868, (by decide : 22 + 0 ≤ _), (by decide : 272 + 0 ≤ _)⟩)
  dsimp only [Pt.U, Pt.locs, Pt.cells, Pt.slots] at X869 l869 y869 z869 st869 hQ869
  subst l869 y869 z869
  obtain ⟨rfl, N869q, e869⟩ := hQ869
  have N869 := Fr.app N868 N869q
  have cp870 : ∀ target, own_S p e below T869 (mkF m 151 (own_loc71 p0 p1 p2 p3 p4 p5 c0 c1 c2 c3 nn fr b838 rr) [(.int c3), (.int c2), (.int c1), (.int c0), (.int rr), (.int fr), .int 2]) target → own_S p e below s₁ (mkF m 0 (own_loc55 p0 p1 p2 p3 p4 p5) []) target := by
    intro target kt
    show own_S p e below s₁ (mkF m 0 (own_loc55 p0 p1 p2 p3 p4 p5) []) _
    refine cp867 _ ?_
    show own_S p e below T866 (mkF m 109 (own_loc71 p0 p1 p2 p3 p4 p5 c0 c1 c2 c3 nn fr b838 rr) [(.int c3), (.int c2), (.int c1), (.int c0), (.int rr), (.int fr), .int 0]) _
    refine st868 _ ?_
    show own_S p e below T868 (mkF m 112 (own_loc71 p0 p1 p2 p3 p4 p5 c0 c1 c2 c3 nn fr b838 rr) [(.int (own_ir (0 : Int32) fr rr c0 c1 c2 c3))]) _
    refine XS.ifYes X868.here hx rfl (pc0 := 112) (pc' := 117) rfl (hb hby at_112) rfl ((if0 _ _).trans (feq (show ¬ ((own_ir (0 : Int32) fr rr c0 c1 c2 c3) = (0 : Int32)) from k3)).2) (by decide) (by decide) ?_
    show own_S p e below T868 (mkF m 117 (own_loc71 p0 p1 p2 p3 p4 p5 c0 c1 c2 c3 nn fr b838 rr) []) _
    refine XS.iconst X868.here hx rfl (hb hby at_117) ?_
    refine XS.iload X868.here hx rfl (hb hby at_118) rfl ?_
    refine XS.iload X868.here hx rfl (hb hby at_120) rfl ?_
    refine XS.iload X868.here hx rfl (hb hby at_122) rfl ?_
    refine XS.iload X868.here hx rfl (hb hby at_124) rfl ?_
    refine XS.iload X868.here hx rfl (hb hby at_126) rfl ?_
    refine XS.iload X868.here hx rfl (hb hby at_128) rfl ?_
    show own_S p e below T868 (mkF m 130 (own_loc71 p0 p1 p2 p3 p4 p5 c0 c1 c2 c3 nn fr b838 rr) [(.int c3), (.int c2), (.int c1), (.int c0), (.int rr), (.int fr), .int 1]) _
    refine st869 _ ?_
    show own_S p e below T869 (mkF m 133 (own_loc71 p0 p1 p2 p3 p4 p5 c0 c1 c2 c3 nn fr b838 rr) [(.int (own_ir (1 : Int32) fr rr c0 c1 c2 c3))]) _
    refine XS.ifYes X869.here hx rfl (pc0 := 133) (pc' := 138) rfl (hb hby at_133) rfl ((if0 _ _).trans (feq (show ¬ ((own_ir (1 : Int32) fr rr c0 c1 c2 c3) = (0 : Int32)) from k4)).2) (by decide) (by decide) ?_
    show own_S p e below T869 (mkF m 138 (own_loc71 p0 p1 p2 p3 p4 p5 c0 c1 c2 c3 nn fr b838 rr) []) _
    refine XS.iconst X869.here hx rfl (hb hby at_138) ?_
    refine XS.iload X869.here hx rfl (hb hby at_139) rfl ?_
    refine XS.iload X869.here hx rfl (hb hby at_141) rfl ?_
    refine XS.iload X869.here hx rfl (hb hby at_143) rfl ?_
    refine XS.iload X869.here hx rfl (hb hby at_145) rfl ?_
    refine XS.iload X869.here hx rfl (hb hby at_147) rfl ?_
    refine XS.iload X869.here hx rfl (hb hby at_149) rfl ?_
    exact kt
  obtain ⟨_, _, ⟨T871, L871, k871, n871⟩, -, X871, ⟨Lc871, hQ871, l871, y871, z871⟩, st871⟩ := Jvm.LawKit.callS X869 hx (y := (⟨"com/example/citeloom/citeloom/references/FieldTextAfterSeparatorsPinLaw", "inRunOk", "(IIICCCC)Z"⟩ : MethodName)) hown (mvT hZ (own_wk hw 71 rfl)) (mvT hZ (own_wk hw 72 rfl)) (mvT hZ (own_wk hw 2 rfl)) (mvT hZ (own_wk hw 73 rfl)) (by decide) (backOf (W := 0) (rm15 l Z ag hw [] (2 : Int32) fr rr c0 c1 c2 c3  T857.heap n0 sz863 ) hZ (own_wk hw 73 rfl) (own_wk hw 2 rfl) (by decide) (by decide)) (g := (mkF m 151 (own_loc71 p0 p1 p2 p3 p4 p5 c0 c1 c2 c3 nn fr b838 rr) [(.int c3), (.int c2), (.int c1), (.int c0), (.int rr), (.int fr), .int 2])) rfl (by rw [hml]; rfl) (argsL := [(.int (2 : Int32)), (.int fr), (.int rr), (.int c0), (.int c1), (.int c2), (.int c3)]) (rest := []) (lenOf pd_13 rfl) rfl (by show 2 * 0 + _ ≤ _; exact Nat.le_of_eq rfl) (hb hby at_151) (fun _ _ => ⟨rfl, e869, (by decide : 22 + 0 ≤ _), (by decide : 272 + 0 ≤ _)⟩)
  dsimp only [Pt.U, Pt.locs, Pt.cells, Pt.slots] at X871 l871 y871 z871 st871 hQ871
  subst l871 y871 z871
  obtain ⟨rfl, N871q, e871⟩ := hQ871
  have N871 := Fr.app N869 N871q
  obtain ⟨_, _, ⟨T872, L872, k872, n872⟩, -, X872, ⟨Lc872, hQ872, l872, y872, z872⟩, st872⟩ := Jvm.LawKit.callS X871 hx (y := (⟨"com/example/citeloom/citeloom/references/FieldTextAfterSeparatorsPinLaw", "inRunOk", "(IIICCCC)Z"⟩ : MethodName)) hown (mvT hZ (own_wk hw 71 rfl)) (mvT hZ (own_wk hw 72 rfl)) (mvT hZ (own_wk hw 2 rfl)) (mvT hZ (own_wk hw 73 rfl)) (by decide) (backOf (W := 0) (rm15 l Z ag hw [] (3 : Int32) fr rr c0 c1 c2 c3  T857.heap n0 sz863 ) hZ (own_wk hw 73 rfl) (own_wk hw 2 rfl) (by decide) (by decide)) (g := (mkF m 172 (own_loc71 p0 p1 p2 p3 p4 p5 c0 c1 c2 c3 nn fr b838 rr) [(.int c3), (.int c2), (.int c1), (.int c0), (.int rr), (.int fr), .int 3])) rfl (by rw [hml]; rfl) (argsL := [(.int (3 : Int32)), (.int fr), (.int rr), (.int c0), (.int c1), (.int c2), (.int c3)]) (rest := []) (lenOf pd_13 rfl) rfl (by show 2 * 0 + _ ≤ _; exact Nat.le_of_eq rfl) (hb hby at_172) (fun _ _ => ⟨rfl, e871, (by decide : 22 + 0 ≤ _), (by decide : 272 + 0 ≤ _)⟩)
  dsimp only [Pt.U, Pt.locs, Pt.cells, Pt.slots] at X872 l872 y872 z872 st872 hQ872
  subst l872 y872 z872
  obtain ⟨rfl, N872q, e872⟩ := hQ872
  have N872 := Fr.app N871 N872q
  have cp874 : ∀ target, own_S p e below T872 (mkF m 184 (own_loc71 p0 p1 p2 p3 p4 p5 c0 c1 c2 c3 nn fr b838 rr) [(.int nn), (.int rr)]) target → own_S p e below s₁ (mkF m 0 (own_loc55 p0 p1 p2 p3 p4 p5) []) target := by
    intro target kt
    show own_S p e below s₁ (mkF m 0 (own_loc55 p0 p1 p2 p3 p4 p5) []) _
    refine cp870 _ ?_
    show own_S p e below T869 (mkF m 151 (own_loc71 p0 p1 p2 p3 p4 p5 c0 c1 c2 c3 nn fr b838 rr) [(.int c3), (.int c2), (.int c1), (.int c0), (.int rr), (.int fr), .int 2]) _
    refine st871 _ ?_
    show own_S p e below T871 (mkF m 154 (own_loc71 p0 p1 p2 p3 p4 p5 c0 c1 c2 c3 nn fr b838 rr) [(.int (own_ir (2 : Int32) fr rr c0 c1 c2 c3))]) _
    refine XS.ifYes X871.here hx rfl (pc0 := 154) (pc' := 159) rfl (hb hby at_154) rfl ((if0 _ _).trans (feq (show ¬ ((own_ir (2 : Int32) fr rr c0 c1 c2 c3) = (0 : Int32)) from k5)).2) (by decide) (by decide) ?_
    show own_S p e below T871 (mkF m 159 (own_loc71 p0 p1 p2 p3 p4 p5 c0 c1 c2 c3 nn fr b838 rr) []) _
    refine XS.iconst X871.here hx rfl (hb hby at_159) ?_
    refine XS.iload X871.here hx rfl (hb hby at_160) rfl ?_
    refine XS.iload X871.here hx rfl (hb hby at_162) rfl ?_
    refine XS.iload X871.here hx rfl (hb hby at_164) rfl ?_
    refine XS.iload X871.here hx rfl (hb hby at_166) rfl ?_
    refine XS.iload X871.here hx rfl (hb hby at_168) rfl ?_
    refine XS.iload X871.here hx rfl (hb hby at_170) rfl ?_
    show own_S p e below T871 (mkF m 172 (own_loc71 p0 p1 p2 p3 p4 p5 c0 c1 c2 c3 nn fr b838 rr) [(.int c3), (.int c2), (.int c1), (.int c0), (.int rr), (.int fr), .int 3]) _
    refine st872 _ ?_
    show own_S p e below T872 (mkF m 175 (own_loc71 p0 p1 p2 p3 p4 p5 c0 c1 c2 c3 nn fr b838 rr) [(.int (own_ir (3 : Int32) fr rr c0 c1 c2 c3))]) _
    refine XS.ifYes X872.here hx rfl (pc0 := 175) (pc' := 180) rfl (hb hby at_175) rfl ((if0 _ _).trans (feq (show ¬ ((own_ir (3 : Int32) fr rr c0 c1 c2 c3) = (0 : Int32)) from k6)).2) (by decide) (by decide) ?_
    show own_S p e below T872 (mkF m 180 (own_loc71 p0 p1 p2 p3 p4 p5 c0 c1 c2 c3 nn fr b838 rr) []) _
    refine XS.iload X872.here hx rfl (hb hby at_180) rfl ?_
    refine XS.iload X872.here hx rfl (hb hby at_182) rfl ?_
    exact kt
  by_cases hc873 : rr < nn
  · obtain ⟨_, _, ⟨T875, L875, k875, n875⟩, -, X875, ⟨Lc875, hQ875, l875, y875, z875⟩, st875⟩ := Jvm.LawKit.callS X872 hx (y := (⟨"com/example/citeloom/citeloom/references/FieldTextAfterSeparatorsPinLaw", "pick", "(ICCCC)C"⟩ : MethodName)) hown (mvT hZ (own_wk hw 111 rfl)) (mvT hZ (own_wk hw 112 rfl)) (mvT hZ (own_wk hw 2 rfl)) (mvT hZ (own_wk hw 113 rfl)) (by decide) (backOf (W := 0) (rm25 l Z ag hw [] rr c0 c1 c2 c3  T857.heap n0 sz863 ) hZ (own_wk hw 113 rfl) (own_wk hw 2 rfl) (by decide) (by decide)) (g := (mkF m 199 (own_loc71 p0 p1 p2 p3 p4 p5 c0 c1 c2 c3 nn fr b838 rr) [(.int c3), (.int c2), (.int c1), (.int c0), (.int rr)])) rfl (by rw [hml]; rfl) (argsL := [(.int rr), (.int c0), (.int c1), (.int c2), (.int c3)]) (rest := []) (lenOf pd_9 rfl) rfl (by show 2 * 0 + _ ≤ _; exact Nat.le_of_eq rfl) (hb hby at_199) (fun _ _ => ⟨rfl, e872, (by decide : 22 + 0 ≤ _), (by decide : 272 + 0 ≤ _)⟩)
    dsimp only [Pt.U, Pt.locs, Pt.cells, Pt.slots] at X875 l875 y875 z875 st875 hQ875
    subst l875 y875 z875
    obtain ⟨rfl, N875q, e875⟩ := hQ875
    have N875 := Fr.app N872 N875q
    obtain ⟨_, _, ⟨T876, L876, k876, n876⟩, -, X876, ⟨Lc876, hQ876, l876, y876, z876⟩, st876⟩ := Jvm.LawKit.callS X875 hx (y := (⟨"com/example/citeloom/citeloom/references/FieldTextAfterSeparatorsPinLaw", "isSep", "(C)Z"⟩ : MethodName)) hown (mvT hZ (own_wk hw 114 rfl)) (mvT hZ (own_wk hw 115 rfl)) (mvT hZ (own_wk hw 2 rfl)) (mvT hZ (own_wk hw 116 rfl)) (by decide) (backOf (W := 0) (rm26 l Z ag hw [] (own_pick rr c0 c1 c2 c3)  T857.heap n0 sz863 ) hZ (own_wk hw 116 rfl) (own_wk hw 2 rfl) (by decide) (by decide)) (g := (mkF m 202 (own_loc71 p0 p1 p2 p3 p4 p5 c0 c1 c2 c3 nn fr b838 rr) [(.int (own_pick rr c0 c1 c2 c3))])) rfl (by rw [hml]; rfl) (argsL := [(.int (own_pick rr c0 c1 c2 c3))]) (rest := []) (lenOf pd_4 rfl) rfl (by show 2 * 0 + _ ≤ _; exact Nat.le_of_eq rfl) (hb hby at_202) (fun _ _ => ⟨rfl, e875, (by decide : 22 + 0 ≤ _), (by decide : 272 + 0 ≤ _)⟩)
    dsimp only [Pt.U, Pt.locs, Pt.cells, Pt.slots] at X876 l876 y876 z876 st876 hQ876
    subst l876 y876 z876
    obtain ⟨rfl, N876q, e876⟩ := hQ876
    have N876 := Fr.app N875 N876q
    obtain ⟨fs, hr, hrun, hended, hEnd⟩ := X876.leaveW hS (by rw [e876]; exact hkS) (v := some (.int (1 : Int32))) (fun h => by rw [Bd.returns] at h; cases h)
    refine ⟨_, _, pre0 _ ?_, hrun, hended, _, _, rfl, ?_, ?_, hEnd.1, hEnd.2.1, hEnd.2.2.1, hEnd.2.2.2.mono (by decide) (by decide)⟩
    · show own_S p e below s₁ (mkF m 0 (own_loc55 p0 p1 p2 p3 p4 p5) []) _
      refine cp874 _ ?_
      show own_S p e below T872 (mkF m 184 (own_loc71 p0 p1 p2 p3 p4 p5 c0 c1 c2 c3 nn fr b838 rr) [(.int nn), (.int rr)]) _
      refine XS.icmpYes X872.here hx rfl (pc0 := 184) (pc' := 189) rfl (hb hby at_184) rfl (tlt hc873).1 (by decide) (by decide) ?_
      show own_S p e below T872 (mkF m 189 (own_loc71 p0 p1 p2 p3 p4 p5 c0 c1 c2 c3 nn fr b838 rr) []) _
      refine XS.iload X872.here hx rfl (hb hby at_189) rfl ?_
      refine XS.iload X872.here hx rfl (hb hby at_191) rfl ?_
      refine XS.iload X872.here hx rfl (hb hby at_193) rfl ?_
      refine XS.iload X872.here hx rfl (hb hby at_195) rfl ?_
      refine XS.iload X872.here hx rfl (hb hby at_197) rfl ?_
      show own_S p e below T872 (mkF m 199 (own_loc71 p0 p1 p2 p3 p4 p5 c0 c1 c2 c3 nn fr b838 rr) [(.int c3), (.int c2), (.int c1), (.int c0), (.int rr)]) _
      refine st875 _ ?_
      show own_S p e below T875 (mkF m 202 (own_loc71 p0 p1 p2 p3 p4 p5 c0 c1 c2 c3 nn fr b838 rr) [(.int (own_pick rr c0 c1 c2 c3))]) _
      refine st876 _ ?_
      show own_S p e below T876 (mkF m 205 (own_loc71 p0 p1 p2 p3 p4 p5 c0 c1 c2 c3 nn fr b838 rr) [(.int (own_is (own_pick rr c0 c1 c2 c3)))]) _
      refine XS.ifNo X876.here hx rfl (hb hby at_205) rfl ((if0 _ _).trans (teq (show (own_is (own_pick rr c0 c1 c2 c3)) = (0 : Int32) from (k7 hc873))).2) ?_
      show own_S p e below T876 (mkF m 208 (own_loc71 p0 p1 p2 p3 p4 p5 c0 c1 c2 c3 nn fr b838 rr) []) _
      refine XS.iconst X876.here hx rfl (hb hby at_208) ?_
      refine XS.goto X876.here hx rfl (pc0 := 209) (pc' := 213) rfl (hb hby at_209) (by decide) (by decide) ?_
      show own_S p e below T876 (mkF m 213 (own_loc71 p0 p1 p2 p3 p4 p5 c0 c1 c2 c3 nn fr b838 rr) [.int 1]) _
      exact retN X876 hx (t := .boolean) Bd.returns (by simp) (hb hby at_213) hr
    · exact ⟨rfl, N876⟩
    · show CHr Z own_EL s.vm s.heap T876.vm T876.heap
      rw [hh, show T876.heap = T857.heap from e876]
      exact hC.trans (CHv.at X876 hZ hEL hC.1)
  · obtain ⟨fs, hr, hrun, hended, hEnd⟩ := X872.leaveW hS (by rw [e872]; exact hkS) (v := some (.int (1 : Int32))) (fun h => by rw [Bd.returns] at h; cases h)
    refine ⟨_, _, pre0 _ ?_, hrun, hended, _, _, rfl, ?_, ?_, hEnd.1, hEnd.2.1, hEnd.2.2.1, hEnd.2.2.2.mono (by decide) (by decide)⟩
    · show own_S p e below s₁ (mkF m 0 (own_loc55 p0 p1 p2 p3 p4 p5) []) _
      refine cp874 _ ?_
      show own_S p e below T872 (mkF m 184 (own_loc71 p0 p1 p2 p3 p4 p5 c0 c1 c2 c3 nn fr b838 rr) [(.int nn), (.int rr)]) _
      refine XS.icmpNo X872.here hx rfl (hb hby at_184) rfl (flt hc873).1 ?_
      show own_S p e below T872 (mkF m 187 (own_loc71 p0 p1 p2 p3 p4 p5 c0 c1 c2 c3 nn fr b838 rr) []) _
      refine XS.iconst X872.here hx rfl (hb hby at_187) ?_
      show own_S p e below T872 (mkF m 188 (own_loc71 p0 p1 p2 p3 p4 p5 c0 c1 c2 c3 nn fr b838 rr) [.int 1]) _
      exact retN X872 hx (t := .boolean) Bd.returns (by simp) (hb hby at_188) hr
    · exact ⟨rfl, N872⟩
    · show CHr Z own_EL s.vm s.heap T872.vm T872.heap
      rw [hh, show T872.heap = T857.heap from e872]
      exact hC.trans (CHv.at X872 hZ hEL hC.1)
set_option maxRecDepth 65536 in
set_option maxHeartbeats 40000000 in
theorem comes_1 {Post : Tables → Env → Array Value → State → Outcome → State → Prop} (hpost : ∀ tb e args s v u, (limb_1_1.after args s (.returned v) u = true ∧ limb_1_2.after args s (.returned v) u = true ∧ True) → ReturnedEndW s (.returned v) u (Jvm.fieldLocs frame_1_writes args s ++ Jvm.arrayLocs frame_1_arrays args s ++ Jvm.staticLocs frame_1_statics s) 24 3200 → Post tb e args s (.returned v) u) :
    ArmFor flags0 classFile x code maxLocals ret World_1 tables_1 room_1 Calls_1 rest_1 Pre_1 Post := by
  intro l hfl _ _ p e ha hc hk s m args below hf hA hF happ hP
  obtain ⟨hcalls, hrest, hpre⟩ := hP
  obtain ⟨-, -, -, hnamed, -, -, -, hat⟩ := (Spec.applies_iff hf).mp happ
  obtain ⟨hg, hn⟩ := and_e (Cond.before_iff.mp (show (Jvm.Cond.and given_1 narrow_1).before args s = true from hpre))
  obtain ⟨g877, g878⟩ := and_e hg
  obtain ⟨g879, g880⟩ := and_e g878
  obtain ⟨g881, g882⟩ := and_e g880
  obtain ⟨g883, g884⟩ := and_e g882
  obtain ⟨g885, g886⟩ := and_e g884
  obtain ⟨g887, g888⟩ := and_e g886
  obtain ⟨w0, w1, w2, w3, w4, w5, rfl⟩ : ∃ w0 w1 w2 w3 w4 w5 : Value, args = #[w0, w1, w2, w3, w4, w5] := by
    have hs : args.size = 6 := by simpa [Cond.value, given_1] using g877
    obtain ⟨L⟩ := args
    match L, hs with
    | [w0, w1, w2, w3, w4, w5], _ => exact ⟨w0, w1, w2, w3, w4, w5, rfl⟩
  have hw := fun d (hd : d ∈ tables_1) => atoms_spec (ws := Jvm.Cond.code x code maxLocals ret :: tables_1) hat d (List.mem_cons_of_mem _ hd)
  have hfit : Fit s := fun {y c} hc i hi => by
    obtain ⟨ha, rfl⟩ := Array.getElem?_eq_some_iff.mp hc
    have q := List.all_eq_true.mp ((Array.all_eq_true_iff_forall_mem.mp hF) _ (Array.getElem_mem ha)) i (List.mem_range.mpr hi)
    simpa [Array.getElem?_eq_getElem hi] using q
  obtain ⟨hsets, hown0⟩ := atoms_of _ (rest_1_c_eq ▸ (show rest_1_c.before _ s = true from hrest))
  have hr0 := Cond.before_iff.mp hown0
  obtain ⟨i0, ei0⟩ := is_v g879
  obtain rfl : w0 = (.int i0) := Option.some.inj ei0
  obtain ⟨i1, ei1⟩ := is_v g881
  obtain rfl : w1 = (.int i1) := Option.some.inj ei1
  obtain ⟨i2, ei2⟩ := is_v g883
  obtain rfl : w2 = (.int i2) := Option.some.inj ei2
  obtain ⟨i3, ei3⟩ := is_v g885
  obtain rfl : w3 = (.int i3) := Option.some.inj ei3
  obtain ⟨i4, ei4⟩ := is_v g887
  obtain rfl : w4 = (.int i4) := Option.some.inj ei4
  obtain ⟨i5, ei5⟩ := is_v g888
  obtain rfl : w5 = (.int i5) := Option.some.inj ei5
  obtain ⟨cs, ecs⟩ := is_v (Cond.before_iff.mp (hsets _ (List.mem_of_getElem? (i := 1) rfl)))
  have S_cs : Sta s s.heap "java/lang/String" "COMPACT_STRINGS" "Z" (.int cs) := Sta.start ecs (Or.inl (hsets _ (List.mem_of_getElem? (i := 0) rfl)))
  have hcs : ¬ (cs = (0 : Int32)) := gotF (Cond.eq_ints ecs (Term.int_eval (0))) (not_v (Cond.before_iff.mp (hsets _ (List.mem_of_getElem? (i := 2) rfl))))
  obtain ⟨gf, egf, rv_gf⟩ := isR_v (Cond.before_iff.mp (hsets _ (List.mem_of_getElem? (i := 8) rfl)))
  have S_gf : Sta s s.heap "jdk/internal/util/Preconditions" "SIOOBE_FORMATTER" "Ljava/util/function/BiFunction;" gf := Sta.start egf (Or.inl (hsets _ (List.mem_of_getElem? (i := 7) rfl)))
  have S_ad : Sta s s.heap "java/lang/StringUTF16" "$assertionsDisabled" "Z" (.int (1 : Int32)) := Sta.start (own_eq_int (Cond.before_iff.mp (hsets _ (List.mem_of_getElem? (i := 12) rfl)))) (Or.inl (hsets _ (List.mem_of_getElem? (i := 11) rfl)))
  have S_hi : Sta s s.heap "java/lang/StringUTF16" "HI_BYTE_SHIFT" "I" (.int (0 : Int32)) := Sta.start (own_eq_int (Cond.before_iff.mp (hsets _ (List.mem_of_getElem? (i := 15) rfl)))) (Or.inl (hsets _ (List.mem_of_getElem? (i := 14) rfl)))
  have S_lo : Sta s s.heap "java/lang/StringUTF16" "LO_BYTE_SHIFT" "I" (.int (8 : Int32)) := Sta.start (own_eq_int (Cond.before_iff.mp (hsets _ (List.mem_of_getElem? (i := 18) rfl)))) (Or.inl (hsets _ (List.mem_of_getElem? (i := 17) rfl)))
  have hCH : CHv s own_EL s.vm s.heap := CHv.start (own_ew hw) (fun p hp => hcalls.1 p hp) (hsets _ (List.mem_of_getElem? (i := 2) rfl)) (own_wk hw 7 rfl) (own_wk hw 6 rfl)
  obtain ⟨n, o, h1, h2, h3, _, L, rfl, ⟨rfl, N⟩, -, hq⟩ := rm0 l s _ hw tables_1 i0 i1 i2 i3 i4 i5 cs gf s.heap s.heap.size (Nat.le_refl _) (Old.start s) S_cs hcs S_gf rv_gf S_ad S_hi S_lo p e ha hc hk s m _ below hf ((Spec.applies_iff_loose hf).mp happ).1 ⟨rfl, State.Warmed39.refl s, rfl, hCH⟩ trivial
  refine ⟨n, _, h1, h2, h3, hpost _ _ _ _ _ _ ⟨Cond.after_iff.mpr rfl, Cond.after_iff.mpr (eq_i res_at (Term.int_eval (1)) rfl), trivial⟩ ⟨hq.1, hq.2.1, hq.2.2.1, (hq.2.2.2.sift fun y hy => Or.inr (N y hy)).mono (by decide) (by decide)⟩⟩
theorem main_1_1 : Claimed_1_1 := comes_1 fun _ _ _ _ _ _ h hF => ⟨h.1, hF⟩
theorem main_1_2 : Claimed_1_2 := comes_1 fun _ _ _ _ _ _ h hF => ⟨h.2.1, hF⟩
end Jvm.Pilot.@@N@@
namespace Jvm.Pilot.@@N@@
open Jvm Jvm.ClassFile Sem Op Lib Jvm.Free Jvm.Stand Jvm.Pilot.@@N@@.Jvm.D
/-! MADE BY PROGRAM (witnessworld.py) out of the Statement's table words and the real class files: 21 classes; the members and pool entries that the words name. The judged class is class 1, her method 6. -/
namespace start1
open Jvm.ClassFile
def u (s : String) : CpInfo := .utf8 (stringToUtf16 s)
/-- a pool by its gaps: so many unusable entries, then the entry; so many at the end -/
def gap : Nat → List CpInfo → List CpInfo
  | 0, r => r
  | n + 1, r => .unusable :: gap n r
def poolList (es : List (Nat × CpInfo)) (last : Nat) : List CpInfo := es.foldr (fun e r => gap e.1 (e.2 :: r)) (gap last [])
def pool (es : List (Nat × CpInfo)) (last : Nat) : Array CpInfo := ⟨poolList es last⟩
def fileOf (pool : Array CpInfo) (this : Nat) (attrs : Array Attribute := #[]) (ms : Array MethodInfo := #[]) (fl : Nat := 33) (sup : Nat := 0) (ifs : Array Nat := #[]) (fds : Array FieldInfo := #[]) : ClassFile where
  minorVersion := 0
  majorVersion := 65
  constantPool := pool
  accessFlags := fl
  thisClass := this
  superClass := sup
  interfaces := ifs
  fields := fds
  methods := ms
  attributes := attrs
def plain (name : String) (sup : Option ClassId) : Class where
  name := name
  kind := .ordinary
  loader := none
  accessFlags := 33
  super := sup
  interfaces := #[]
  cf := none
  fields := #[]
  methods := #[]
  instanceTypes := #[]
  staticTypes := #[]
  resolved := #[]
  callSites := []
  init := .initialized
  statics := none
  mirror := none

def pool0 : Array CpInfo := pool [(5, u "<init>"), (0, u "()V"), (1, .class_ 10), (1, u "java/lang/Object")] 113

def k0c0 : Code := { maxStack := 0, maxLocals := 1, code := object_method_1_code, exceptionTable := #[], attributes := #[] }
def k0m0 : Method := { name := "<init>", desc := "()V", sig := { parameters := [], returnType := none }, accessFlags := 1, code := some k0c0 }
/-- java/lang/Object -/
def k0 : Class := { plain "java/lang/Object" none with
  accessFlags := 33
  interfaces := #[]
  cf := some (fileOf pool0 8 #[] #[{ accessFlags := 1, nameIndex := 5, descriptorIndex := 6, attributes := #[] }] 33 0 #[] #[])
  fields := #[]
  methods := #[k0m0]
  instanceTypes := #[]
  staticTypes := #[]
  resolved := Array.replicate 124 none
  statics := none }

def pool1 : Array CpInfo := pool [(2, .class_ 4), (1, u "java/lang/Object"), (0, u "<init>"), (0, u "()V"), (0, .string 8), (0, u ".,;:/ "), (0, .methodref 10 11), (0, .class_ 12), (0, .nameAndType 13 14), (0, u "java/lang/String"), (0, u "charAt"), (0, u "(I)C"), (0, .integer 65535), (0, .methodref 17 18), (0, .class_ 19), (0, .nameAndType 20 21), (0, u "com/example/citeloom/citeloom/references/FieldTextAfterSeparatorsPinLaw"), (0, u "pick"), (0, u "(ICCCC)C"), (0, .methodref 17 23), (0, .nameAndType 24 25), (0, u "isSep"), (0, u "(C)Z"), (0, .methodref 17 27), (0, .nameAndType 28 14), (0, u "draw"), (0, .methodref 17 30), (0, .nameAndType 31 32), (0, u "make"), (0, u "(ICCCC)[C"), (0, .methodref 10 34), (0, .nameAndType 5 35), (0, u "([C)V"), (0, .methodref 37 38), (0, .class_ 39), (0, .nameAndType 40 41), (0, u "com/example/citeloom/citeloom/references/FieldText"), (0, u "afterSeparators"), (0, u "(Ljava/lang/String;I)I"), (0, .methodref 43 44), (0, .class_ 45), (0, .nameAndType 46 47), (0, u "java/lang/Math"), (0, u "max"), (0, u "(II)I"), (0, .methodref 17 49), (0, .nameAndType 50 51), (0, u "inRunOk"), (0, u "(IIICCCC)Z"), (3, u "law"), (0, u "(IIIIII)Z")] 2

def k1m0 : Method := { name := "<init>", desc := "()V", sig := { parameters := [], returnType := none }, accessFlags := 2, code := none }
def k1c1 : Code := { maxStack := 2, maxLocals := 1, code := method_2_code, exceptionTable := #[], attributes := #[] }
def k1m1 : Method := { name := "isSep", desc := "(C)Z", sig := { parameters := [.char], returnType := some .boolean }, accessFlags := 10, code := some k1c1 }
def k1c2 : Code := { maxStack := 2, maxLocals := 2, code := method_3_code, exceptionTable := #[], attributes := #[] }
def k1m2 : Method := { name := "draw", desc := "(I)C", sig := { parameters := [.int], returnType := some .char }, accessFlags := 10, code := some k1c2 }
def k1c3 : Code := { maxStack := 4, maxLocals := 5, code := method_4_code, exceptionTable := #[], attributes := #[] }
def k1m3 : Method := { name := "make", desc := "(ICCCC)[C", sig := { parameters := [.int, .char, .char, .char, .char], returnType := some (.array .char) }, accessFlags := 10, code := some k1c3 }
def k1c4 : Code := { maxStack := 2, maxLocals := 5, code := method_5_code, exceptionTable := #[], attributes := #[] }
def k1m4 : Method := { name := "pick", desc := "(ICCCC)C", sig := { parameters := [.int, .char, .char, .char, .char], returnType := some .char }, accessFlags := 10, code := some k1c4 }
def k1c5 : Code := { maxStack := 5, maxLocals := 7, code := method_6_code, exceptionTable := #[], attributes := #[] }
def k1m5 : Method := { name := "inRunOk", desc := "(IIICCCC)Z", sig := { parameters := [.int, .int, .int, .char, .char, .char, .char], returnType := some .boolean }, accessFlags := 10, code := some k1c5 }
def k1c6 : Code := { maxStack := 7, maxLocals := 15, code := code, exceptionTable := #[], attributes := #[] }
def k1m6 : Method := { name := "law", desc := "(IIIIII)Z", sig := { parameters := [.int, .int, .int, .int, .int, .int], returnType := some .boolean }, accessFlags := 9, code := some k1c6 }
/-- com/example/citeloom/citeloom/references/FieldTextAfterSeparatorsPinLaw -/
def k1 : Class := { plain "com/example/citeloom/citeloom/references/FieldTextAfterSeparatorsPinLaw" (some 0) with
  accessFlags := 49
  interfaces := #[]
  cf := some (fileOf pool1 17 #[] #[{ accessFlags := 2, nameIndex := 5, descriptorIndex := 6, attributes := #[] }, { accessFlags := 10, nameIndex := 24, descriptorIndex := 25, attributes := #[] }, { accessFlags := 10, nameIndex := 28, descriptorIndex := 14, attributes := #[] }, { accessFlags := 10, nameIndex := 31, descriptorIndex := 32, attributes := #[] }, { accessFlags := 10, nameIndex := 20, descriptorIndex := 21, attributes := #[] }, { accessFlags := 10, nameIndex := 50, descriptorIndex := 51, attributes := #[] }, { accessFlags := 9, nameIndex := 55, descriptorIndex := 56, attributes := #[] }] 49 2 #[] #[])
  fields := #[]
  methods := #[k1m0, k1m1, k1m2, k1m3, k1m4, k1m5, k1m6]
  instanceTypes := #[]
  staticTypes := #[]
  resolved := Array.replicate 59 none
  statics := none }

def pool2 : Array CpInfo := pool [(1, .class_ 2), (0, u "java/io/Serializable"), (0, .class_ 4), (0, u "java/lang/Object")] 2

/-- java/io/Serializable -/
def k2 : Class := { plain "java/io/Serializable" (some 0) with
  accessFlags := 1537
  interfaces := #[]
  cf := some (fileOf pool2 1 #[] #[] 1537 3 #[] #[])
  fields := #[]
  methods := #[]
  instanceTypes := #[]
  staticTypes := #[]
  resolved := Array.replicate 7 none
  statics := none }

def pool3 : Array CpInfo := pool [(1, .class_ 2), (0, u "java/lang/Comparable"), (0, .class_ 4), (0, u "java/lang/Object")] 7

/-- java/lang/Comparable -/
def k3 : Class := { plain "java/lang/Comparable" (some 0) with
  accessFlags := 1537
  interfaces := #[]
  cf := some (fileOf pool3 1 #[] #[] 1537 3 #[] #[])
  fields := #[]
  methods := #[]
  instanceTypes := #[]
  staticTypes := #[]
  resolved := Array.replicate 12 none
  statics := none }

def pool4 : Array CpInfo := pool [(2, .class_ 4), (1, u "java/lang/CharSequence"), (42, .class_ 48), (0, u "java/lang/CharSequence$1CodePointIterator"), (10, .class_ 60), (0, u "java/lang/CharSequence$1CharIterator"), (5, .class_ 67), (0, u "java/lang/Object")] 63

/-- java/lang/CharSequence -/
def k4 : Class := { plain "java/lang/CharSequence" (some 0) with
  accessFlags := 1537
  interfaces := #[]
  cf := some (fileOf pool4 2 #[.nestMembers #[47, 59]] #[] 1537 66 #[] #[])
  fields := #[]
  methods := #[]
  instanceTypes := #[]
  staticTypes := #[]
  resolved := Array.replicate 131 none
  statics := none }

def pool5 : Array CpInfo := pool [(1, .class_ 2), (0, u "java/lang/constant/Constable"), (0, .class_ 4), (0, u "java/lang/Object")] 6

/-- java/lang/constant/Constable -/
def k5 : Class := { plain "java/lang/constant/Constable" (some 0) with
  accessFlags := 1537
  interfaces := #[]
  cf := some (fileOf pool5 1 #[] #[] 1537 3 #[] #[])
  fields := #[]
  methods := #[]
  instanceTypes := #[]
  staticTypes := #[]
  resolved := Array.replicate 11 none
  statics := none }

def pool6 : Array CpInfo := pool [(1, .class_ 2), (0, u "java/lang/constant/ConstantDesc"), (0, .class_ 4), (0, u "java/lang/Object")] 32

/-- java/lang/constant/ConstantDesc -/
def k6 : Class := { plain "java/lang/constant/ConstantDesc" (some 0) with
  accessFlags := 1537
  interfaces := #[]
  cf := some (fileOf pool6 1 #[] #[] 1537 3 #[] #[])
  fields := #[]
  methods := #[]
  instanceTypes := #[]
  staticTypes := #[]
  resolved := Array.replicate 37 none
  statics := none }

def pool7 : Array CpInfo := pool [(1, .methodref 2 3), (0, .class_ 4), (0, .nameAndType 5 6), (0, u "java/lang/Object"), (0, u "<init>"), (0, u "()V"), (0, .string 8), (0, u ""), (0, .fieldref 10 11), (0, .class_ 12), (0, .nameAndType 13 14), (0, u "java/lang/String"), (0, u "value"), (0, u "[B"), (0, .fieldref 10 16), (0, .nameAndType 17 18), (0, u "coder"), (0, u "B"), (2, u "hash"), (0, u "I"), (2, u "hashIsZero"), (0, u "Z"), (0, .methodref 10 28), (0, .nameAndType 5 29), (0, u "([CIILjava/lang/Void;)V"), (8, .fieldref 10 39), (0, .nameAndType 40 26), (0, u "COMPACT_STRINGS"), (1, .class_ 44), (1, u "java/lang/StringUTF16"), (0, u "compress"), (1, .methodref 42 48), (0, .nameAndType 49 50), (0, u "coderFromArrayLen"), (0, u "([BI)B"), (56, .class_ 109), (1, u "java/lang/StringLatin1"), (32, u "()Z"), (34, .methodref 42 178), (0, .nameAndType 45 179), (0, u "([CII)[B"), (154, u "()I"), (0, .methodref 10 336), (0, .nameAndType 17 337), (0, u "()B"), (25, u "([BI)C"), (27, u "(II)V"), (35, u "(I)C"), (64, .methodref 10 493), (0, .nameAndType 494 142), (0, u "isLatin1"), (0, .methodref 107 496), (0, .nameAndType 497 363), (0, u "charAt"), (0, .methodref 42 496), (2, u "checkIndex"), (3, .methodref 10 506), (0, .nameAndType 507 334), (0, u "length"), (67, .class_ 576), (0, u "java/lang/CharSequence"), (22, u "CASE_INSENSITIVE_ORDER"), (0, u "Ljava/util/Comparator;"), (32, .methodref 10 634), (0, .nameAndType 635 636), (0, u "indexOf"), (0, u "(II)I"), (0, .methodref 107 638), (0, .nameAndType 635 639), (0, u "([BIII)I"), (125, u "(I)I"), (244, u "([C)V"), (42, .fieldref 1054 1055), (0, .class_ 1056), (0, .nameAndType 1057 1058), (0, u "jdk/internal/util/Preconditions"), (0, u "SIOOBE_FORMATTER"), (0, u "Ljava/util/function/BiFunction;"), (0, .methodref 1054 1060), (0, .nameAndType 501 1061), (0, u "(IILjava/util/function/BiFunction;)I"), (39, u "serialPersistentFields"), (0, u "[Ljava/io/ObjectStreamField;"), (0, .class_ 1104), (0, u "java/lang/String$CaseInsensitiveComparator"), (1, .class_ 1107), (0, u "java/io/Serializable"), (0, .class_ 1109), (0, u "java/lang/Comparable"), (0, .class_ 1111), (0, u "java/lang/constant/Constable"), (0, .class_ 1113), (0, u "java/lang/constant/ConstantDesc"), (2, u "serialVersionUID"), (0, u "J"), (3, u "REPL"), (0, u "C"), (2, u "LATIN1"), (1, u "UTF16")] 323

def k7m0 : Method := { name := "<init>", desc := "()V", sig := { parameters := [], returnType := none }, accessFlags := 1, code := none }
def k7c1 : Code := { maxStack := 5, maxLocals := 2, code := jdk_42_method_3_code, exceptionTable := #[], attributes := #[] }
def k7m1 : Method := { name := "<init>", desc := "([C)V", sig := { parameters := [(.array .char)], returnType := none }, accessFlags := 1, code := some k7c1 }
def k7c2 : Code := { maxStack := 2, maxLocals := 1, code := jdk_42_method_54_code, exceptionTable := #[], attributes := #[] }
def k7m2 : Method := { name := "length", desc := "()I", sig := { parameters := [], returnType := some .int }, accessFlags := 1, code := some k7c2 }
def k7c3 : Code := { maxStack := 2, maxLocals := 2, code := jdk_42_method_56_code, exceptionTable := #[], attributes := #[] }
def k7m3 : Method := { name := "charAt", desc := "(I)C", sig := { parameters := [.int], returnType := some .char }, accessFlags := 1, code := some k7c3 }
def k7c4 : Code := { maxStack := 3, maxLocals := 2, code := jdk_42_method_79_code, exceptionTable := #[], attributes := #[] }
def k7m4 : Method := { name := "indexOf", desc := "(I)I", sig := { parameters := [.int], returnType := some .int }, accessFlags := 1, code := some k7c4 }
def k7c5 : Code := { maxStack := 4, maxLocals := 3, code := jdk_42_method_80_code, exceptionTable := #[], attributes := #[] }
def k7m5 : Method := { name := "indexOf", desc := "(II)I", sig := { parameters := [.int, .int], returnType := some .int }, accessFlags := 1, code := some k7c5 }
def k7c6 : Code := { maxStack := 4, maxLocals := 6, code := jdk_42_method_149_code, exceptionTable := #[], attributes := #[] }
def k7m6 : Method := { name := "<init>", desc := "([CIILjava/lang/Void;)V", sig := { parameters := [(.array .char), .int, .int, (.object "java/lang/Void")], returnType := none }, accessFlags := 2, code := some k7c6 }
def k7c7 : Code := { maxStack := 1, maxLocals := 1, code := jdk_42_method_152_code, exceptionTable := #[], attributes := #[] }
def k7m7 : Method := { name := "coder", desc := "()B", sig := { parameters := [], returnType := some .byte }, accessFlags := 0, code := some k7c7 }
def k7c8 : Code := { maxStack := 1, maxLocals := 1, code := jdk_42_method_154_code, exceptionTable := #[], attributes := #[] }
def k7m8 : Method := { name := "isLatin1", desc := "()Z", sig := { parameters := [], returnType := some .boolean }, accessFlags := 0, code := some k7c8 }
def k7c9 : Code := { maxStack := 3, maxLocals := 2, code := jdk_42_method_155_code, exceptionTable := #[], attributes := #[] }
def k7m9 : Method := { name := "checkIndex", desc := "(II)V", sig := { parameters := [.int, .int], returnType := none }, accessFlags := 8, code := some k7c9 }
/-- java/lang/String -/
def k7 : Class := { plain "java/lang/String" (some 0) with
  accessFlags := 49
  interfaces := #[2, 3, 4, 5, 6]
  cf := some (fileOf pool7 10 #[.nestMembers #[1103]] #[{ accessFlags := 1, nameIndex := 5, descriptorIndex := 6, attributes := #[] }, { accessFlags := 1, nameIndex := 5, descriptorIndex := 1010, attributes := #[] }, { accessFlags := 1, nameIndex := 507, descriptorIndex := 334, attributes := #[] }, { accessFlags := 1, nameIndex := 497, descriptorIndex := 427, attributes := #[] }, { accessFlags := 1, nameIndex := 635, descriptorIndex := 765, attributes := #[] }, { accessFlags := 1, nameIndex := 635, descriptorIndex := 636, attributes := #[] }, { accessFlags := 2, nameIndex := 5, descriptorIndex := 29, attributes := #[] }, { accessFlags := 0, nameIndex := 17, descriptorIndex := 337, attributes := #[] }, { accessFlags := 0, nameIndex := 494, descriptorIndex := 142, attributes := #[] }, { accessFlags := 8, nameIndex := 501, descriptorIndex := 391, attributes := #[] }] 49 2 #[1106, 1108, 575, 1110, 1112] #[{ accessFlags := 18, nameIndex := 13, descriptorIndex := 14, attributes := #[] }, { accessFlags := 18, nameIndex := 17, descriptorIndex := 18, attributes := #[] }, { accessFlags := 2, nameIndex := 21, descriptorIndex := 22, attributes := #[] }, { accessFlags := 2, nameIndex := 25, descriptorIndex := 26, attributes := #[] }, { accessFlags := 26, nameIndex := 1116, descriptorIndex := 1117, attributes := #[] }, { accessFlags := 24, nameIndex := 40, descriptorIndex := 26, attributes := #[] }, { accessFlags := 26, nameIndex := 1101, descriptorIndex := 1102, attributes := #[] }, { accessFlags := 26, nameIndex := 1121, descriptorIndex := 1122, attributes := #[] }, { accessFlags := 25, nameIndex := 599, descriptorIndex := 600, attributes := #[] }, { accessFlags := 24, nameIndex := 1125, descriptorIndex := 18, attributes := #[] }, { accessFlags := 24, nameIndex := 1127, descriptorIndex := 18, attributes := #[] }])
  fields := #[{ name := "value", type := (.array .byte), accessFlags := 18, slot := 0, constantValue := 0 }, { name := "coder", type := .byte, accessFlags := 18, slot := 1, constantValue := 0 }, { name := "hash", type := .int, accessFlags := 2, slot := 2, constantValue := 0 }, { name := "hashIsZero", type := .boolean, accessFlags := 2, slot := 3, constantValue := 0 }, { name := "serialVersionUID", type := .long, accessFlags := 26, slot := 0, constantValue := 0 }, { name := "COMPACT_STRINGS", type := .boolean, accessFlags := 24, slot := 1, constantValue := 0 }, { name := "serialPersistentFields", type := (.array (.object "java/io/ObjectStreamField")), accessFlags := 26, slot := 2, constantValue := 0 }, { name := "REPL", type := .char, accessFlags := 26, slot := 3, constantValue := 0 }, { name := "CASE_INSENSITIVE_ORDER", type := (.object "java/util/Comparator"), accessFlags := 25, slot := 4, constantValue := 0 }, { name := "LATIN1", type := .byte, accessFlags := 24, slot := 5, constantValue := 0 }, { name := "UTF16", type := .byte, accessFlags := 24, slot := 6, constantValue := 0 }]
  methods := #[k7m0, k7m1, k7m2, k7m3, k7m4, k7m5, k7m6, k7m7, k7m8, k7m9]
  instanceTypes := #[(.array .byte), .byte, .int, .boolean]
  staticTypes := #[.long, .boolean, (.array (.object "java/io/ObjectStreamField")), .char, (.object "java/util/Comparator"), .byte, .byte]
  resolved := Array.replicate 1451 none
  statics := some 0 }

def pool8 : Array CpInfo := pool [(1, .class_ 2), (0, u "java/lang/String"), (1, .class_ 6), (1, u "java/lang/Object"), (0, u "<init>"), (0, u "()V"), (0, .methodref 1 10), (0, .nameAndType 11 12), (0, u "checkIndex"), (0, u "(II)V"), (1, .class_ 16), (1, u "java/lang/StringLatin1"), (21, .methodref 39 40), (0, .class_ 41), (0, .nameAndType 42 43), (0, u "java/lang/Math"), (0, u "min"), (0, u "(II)I"), (9, u "([BI)C"), (34, .methodref 14 89), (0, .nameAndType 90 91), (0, u "canEncode"), (0, u "(I)Z"), (0, .methodref 39 93), (0, .nameAndType 94 43), (0, u "max"), (0, .methodref 14 96), (0, .nameAndType 97 98), (0, u "indexOfChar"), (0, u "([BIII)I"), (2, u "indexOf"), (19, u "$assertionsDisabled"), (0, u "Z"), (98, .class_ 223), (1, u "java/lang/StringLatin1$LinesSpliterator"), (28, u "charAt"), (137, .class_ 391), (0, u "java/lang/StringLatin1$CharsSpliterator")] 3

def k8m0 : Method := { name := "<init>", desc := "()V", sig := { parameters := [], returnType := none }, accessFlags := 0, code := none }
def k8c1 : Code := { maxStack := 2, maxLocals := 2, code := jdk_43_method_2_code, exceptionTable := #[], attributes := #[] }
def k8m1 : Method := { name := "charAt", desc := "([BI)C", sig := { parameters := [(.array .byte), .int], returnType := some .char }, accessFlags := 9, code := some k8c1 }
def k8c2 : Code := { maxStack := 2, maxLocals := 1, code := jdk_43_method_4_code, exceptionTable := #[], attributes := #[] }
def k8m2 : Method := { name := "canEncode", desc := "(I)Z", sig := { parameters := [.int], returnType := some .boolean }, accessFlags := 9, code := some k8c2 }
def k8c3 : Code := { maxStack := 4, maxLocals := 4, code := jdk_43_method_22_code, exceptionTable := #[], attributes := #[] }
def k8m3 : Method := { name := "indexOf", desc := "([BIII)I", sig := { parameters := [(.array .byte), .int, .int, .int], returnType := some .int }, accessFlags := 9, code := some k8c3 }
def k8c4 : Code := { maxStack := 2, maxLocals := 6, code := jdk_43_method_23_code, exceptionTable := #[], attributes := #[] }
def k8m4 : Method := { name := "indexOfChar", desc := "([BIII)I", sig := { parameters := [(.array .byte), .int, .int, .int], returnType := some .int }, accessFlags := 10, code := some k8c4 }
/-- java/lang/StringLatin1 -/
def k8 : Class := { plain "java/lang/StringLatin1" (some 0) with
  accessFlags := 48
  interfaces := #[]
  cf := some (fileOf pool8 14 #[.nestMembers #[390, 221]] #[{ accessFlags := 0, nameIndex := 7, descriptorIndex := 8, attributes := #[] }, { accessFlags := 9, nameIndex := 252, descriptorIndex := 53, attributes := #[] }, { accessFlags := 9, nameIndex := 90, descriptorIndex := 91, attributes := #[] }, { accessFlags := 9, nameIndex := 101, descriptorIndex := 98, attributes := #[] }, { accessFlags := 10, nameIndex := 97, descriptorIndex := 98, attributes := #[] }] 48 4 #[] #[{ accessFlags := 4120, nameIndex := 121, descriptorIndex := 122, attributes := #[] }])
  fields := #[{ name := "$assertionsDisabled", type := .boolean, accessFlags := 4120, slot := 0, constantValue := 0 }]
  methods := #[k8m0, k8m1, k8m2, k8m3, k8m4]
  instanceTypes := #[]
  staticTypes := #[.boolean]
  resolved := Array.replicate 395 none
  statics := none }

def pool9 : Array CpInfo := pool [(2, .class_ 4), (1, u "java/lang/Object"), (0, u "<init>"), (0, u "()V"), (17, .class_ 26), (1, u "jdk/internal/util/Preconditions"), (6, u "checkIndex"), (21, .class_ 56), (0, u "jdk/internal/util/Preconditions$4"), (57, .class_ 115), (0, u "jdk/internal/util/Preconditions$1"), (7, u "SIOOBE_FORMATTER"), (0, u "Ljava/util/function/BiFunction;"), (0, .class_ 126), (0, u "jdk/internal/util/Preconditions$2"), (3, u "AIOOBE_FORMATTER"), (0, .class_ 132), (0, u "jdk/internal/util/Preconditions$3"), (3, u "IOOBE_FORMATTER"), (41, u "(IILjava/util/function/BiFunction;)I")] 15

def k9m0 : Method := { name := "<init>", desc := "()V", sig := { parameters := [], returnType := none }, accessFlags := 1, code := none }
def k9c1 : Code := { maxStack := 3, maxLocals := 3, code := jdk_41_method_11_code, exceptionTable := #[], attributes := #[] }
def k9m1 : Method := { name := "checkIndex", desc := "(IILjava/util/function/BiFunction;)I", sig := { parameters := [.int, .int, (.object "java/util/function/BiFunction")], returnType := some .int }, accessFlags := 9, code := some k9c1 }
/-- jdk/internal/util/Preconditions -/
def k9 : Class := { plain "jdk/internal/util/Preconditions" (some 0) with
  accessFlags := 33
  interfaces := #[]
  cf := some (fileOf pool9 24 #[.nestMembers #[55, 131, 125, 114]] #[{ accessFlags := 1, nameIndex := 5, descriptorIndex := 6, attributes := #[] }, { accessFlags := 9, nameIndex := 33, descriptorIndex := 178, attributes := #[] }] 33 2 #[] #[{ accessFlags := 25, nameIndex := 123, descriptorIndex := 124, attributes := #[] }, { accessFlags := 25, nameIndex := 130, descriptorIndex := 124, attributes := #[] }, { accessFlags := 25, nameIndex := 136, descriptorIndex := 124, attributes := #[] }])
  fields := #[{ name := "SIOOBE_FORMATTER", type := (.object "java/util/function/BiFunction"), accessFlags := 25, slot := 0, constantValue := 0 }, { name := "AIOOBE_FORMATTER", type := (.object "java/util/function/BiFunction"), accessFlags := 25, slot := 1, constantValue := 0 }, { name := "IOOBE_FORMATTER", type := (.object "java/util/function/BiFunction"), accessFlags := 25, slot := 2, constantValue := 0 }]
  methods := #[k9m0, k9m1]
  instanceTypes := #[]
  staticTypes := #[(.object "java/util/function/BiFunction"), (.object "java/util/function/BiFunction"), (.object "java/util/function/BiFunction")]
  resolved := Array.replicate 194 none
  statics := some 1 }

def pool10 : Array CpInfo := pool [(2, .class_ 4), (1, u "java/lang/Object"), (0, u "<init>"), (0, u "()V"), (3, .class_ 12), (1, u "java/lang/String"), (8, .nameAndType 22 23), (0, u "length"), (0, u "()I"), (1, .nameAndType 26 27), (0, u "charAt"), (0, u "(I)C"), (10, .methodref 10 25), (18, .class_ 59), (1, u "com/example/citeloom/citeloom/references/FieldText"), (0, u "WHITE_SPACE"), (0, u "Ljava/util/regex/Pattern;"), (18, .methodref 10 21), (2, .methodref 10 84), (0, .nameAndType 85 86), (0, u "indexOf"), (0, u "(I)I"), (14, .string 102), (0, u ".,;:/ "), (15, u "afterSeparators"), (0, u "(Ljava/lang/String;I)I"), (11, u "SEPARATING_PUNCTUATION"), (0, u "Ljava/lang/String;"), (1, u "LEFT_OPEN"), (0, u "OPENING"), (0, u "CLOSING"), (0, u "SEPARATORS")] 30

def k10m0 : Method := { name := "<init>", desc := "()V", sig := { parameters := [], returnType := none }, accessFlags := 2, code := none }
def k10c1 : Code := { maxStack := 3, maxLocals := 3, code := prog_34_method_4_code, exceptionTable := #[], attributes := #[] }
def k10m1 : Method := { name := "afterSeparators", desc := "(Ljava/lang/String;I)I", sig := { parameters := [(.object "java/lang/String"), .int], returnType := some .int }, accessFlags := 8, code := some k10c1 }
/-- com/example/citeloom/citeloom/references/FieldText -/
def k10 : Class := { plain "com/example/citeloom/citeloom/references/FieldText" (some 0) with
  accessFlags := 48
  interfaces := #[]
  cf := some (fileOf pool10 57 #[] #[{ accessFlags := 2, nameIndex := 5, descriptorIndex := 6, attributes := #[] }, { accessFlags := 8, nameIndex := 118, descriptorIndex := 119, attributes := #[] }] 48 2 #[] #[{ accessFlags := 26, nameIndex := 60, descriptorIndex := 61, attributes := #[] }, { accessFlags := 26, nameIndex := 131, descriptorIndex := 132, attributes := #[] }, { accessFlags := 26, nameIndex := 134, descriptorIndex := 132, attributes := #[] }, { accessFlags := 26, nameIndex := 135, descriptorIndex := 132, attributes := #[] }, { accessFlags := 26, nameIndex := 136, descriptorIndex := 132, attributes := #[] }, { accessFlags := 26, nameIndex := 137, descriptorIndex := 132, attributes := #[] }])
  fields := #[{ name := "WHITE_SPACE", type := (.object "java/util/regex/Pattern"), accessFlags := 26, slot := 0, constantValue := 0 }, { name := "SEPARATING_PUNCTUATION", type := (.object "java/lang/String"), accessFlags := 26, slot := 1, constantValue := 0 }, { name := "LEFT_OPEN", type := (.object "java/lang/String"), accessFlags := 26, slot := 2, constantValue := 0 }, { name := "OPENING", type := (.object "java/lang/String"), accessFlags := 26, slot := 3, constantValue := 0 }, { name := "CLOSING", type := (.object "java/lang/String"), accessFlags := 26, slot := 4, constantValue := 0 }, { name := "SEPARATORS", type := (.object "java/lang/String"), accessFlags := 26, slot := 5, constantValue := 0 }]
  methods := #[k10m0, k10m1]
  instanceTypes := #[]
  staticTypes := #[(.object "java/util/regex/Pattern"), (.object "java/lang/String"), (.object "java/lang/String"), (.object "java/lang/String"), (.object "java/lang/String"), (.object "java/lang/String")]
  resolved := Array.replicate 168 none
  statics := none }

def pool11 : Array CpInfo := pool [(1, .class_ 2), (0, u "java/lang/Math"), (1, .class_ 6), (1, u "java/lang/Object"), (0, u "<init>"), (0, u "()V"), (89, .class_ 100), (1, u "java/lang/Math$RandomNumberGeneratorHolder"), (71, u "negativeZeroFloatBits"), (0, u "J"), (2, u "negativeZeroDoubleBits"), (21, u "max"), (2, u "min"), (43, u "$assertionsDisabled"), (0, u "Z"), (88, u "(II)I"), (2, u "twoToTheDoubleScaleDown"), (0, u "D"), (4, u "twoToTheDoubleScaleUp"), (9, u "E"), (3, u "PI"), (2, u "TAU"), (2, u "DEGREES_TO_RADIANS"), (0, u "RADIANS_TO_DEGREES")] 94

def k11m0 : Method := { name := "<init>", desc := "()V", sig := { parameters := [], returnType := none }, accessFlags := 2, code := none }
def k11c1 : Code := { maxStack := 2, maxLocals := 2, code := jdk_29_method_65_code, exceptionTable := #[], attributes := #[] }
def k11m1 : Method := { name := "max", desc := "(II)I", sig := { parameters := [.int, .int], returnType := some .int }, accessFlags := 9, code := some k11c1 }
def k11c2 : Code := { maxStack := 2, maxLocals := 2, code := jdk_29_method_69_code, exceptionTable := #[], attributes := #[] }
def k11m2 : Method := { name := "min", desc := "(II)I", sig := { parameters := [.int, .int], returnType := some .int }, accessFlags := 9, code := some k11c2 }
/-- java/lang/Math -/
def k11 : Class := { plain "java/lang/Math" (some 0) with
  accessFlags := 49
  interfaces := #[]
  cf := some (fileOf pool11 1 #[.nestMembers #[98]] #[{ accessFlags := 2, nameIndex := 7, descriptorIndex := 8, attributes := #[] }, { accessFlags := 9, nameIndex := 198, descriptorIndex := 335, attributes := #[] }, { accessFlags := 9, nameIndex := 201, descriptorIndex := 335, attributes := #[] }] 49 4 #[] #[{ accessFlags := 25, nameIndex := 354, descriptorIndex := 339, attributes := #[] }, { accessFlags := 25, nameIndex := 358, descriptorIndex := 339, attributes := #[] }, { accessFlags := 25, nameIndex := 361, descriptorIndex := 339, attributes := #[] }, { accessFlags := 26, nameIndex := 364, descriptorIndex := 339, attributes := #[] }, { accessFlags := 26, nameIndex := 365, descriptorIndex := 339, attributes := #[] }, { accessFlags := 26, nameIndex := 172, descriptorIndex := 173, attributes := #[] }, { accessFlags := 26, nameIndex := 176, descriptorIndex := 173, attributes := #[] }, { accessFlags := 8, nameIndex := 344, descriptorIndex := 339, attributes := #[] }, { accessFlags := 8, nameIndex := 338, descriptorIndex := 339, attributes := #[] }, { accessFlags := 4120, nameIndex := 245, descriptorIndex := 246, attributes := #[] }])
  fields := #[{ name := "E", type := .double, accessFlags := 25, slot := 0, constantValue := 0 }, { name := "PI", type := .double, accessFlags := 25, slot := 1, constantValue := 0 }, { name := "TAU", type := .double, accessFlags := 25, slot := 2, constantValue := 0 }, { name := "DEGREES_TO_RADIANS", type := .double, accessFlags := 26, slot := 3, constantValue := 0 }, { name := "RADIANS_TO_DEGREES", type := .double, accessFlags := 26, slot := 4, constantValue := 0 }, { name := "negativeZeroFloatBits", type := .long, accessFlags := 26, slot := 5, constantValue := 0 }, { name := "negativeZeroDoubleBits", type := .long, accessFlags := 26, slot := 6, constantValue := 0 }, { name := "twoToTheDoubleScaleUp", type := .double, accessFlags := 8, slot := 7, constantValue := 0 }, { name := "twoToTheDoubleScaleDown", type := .double, accessFlags := 8, slot := 8, constantValue := 0 }, { name := "$assertionsDisabled", type := .boolean, accessFlags := 4120, slot := 9, constantValue := 0 }]
  methods := #[k11m0, k11m1, k11m2]
  instanceTypes := #[]
  staticTypes := #[.double, .double, .double, .double, .double, .long, .long, .double, .double, .boolean]
  resolved := Array.replicate 460 none
  statics := none }

def pool12 : Array CpInfo := pool [(3, .class_ 4), (0, u "java/lang/String"), (1, .class_ 8), (1, u "java/lang/Object"), (0, u "<init>"), (0, u "()V"), (0, .methodref 12 13), (0, .class_ 14), (0, .nameAndType 15 16), (0, u "java/lang/StringUTF16"), (0, u "newBytesLength"), (0, u "(I)I"), (3, .integer 1073741823), (23, .fieldref 12 45), (0, .nameAndType 46 47), (0, u "$assertionsDisabled"), (0, u "Z"), (0, .methodref 12 49), (0, .nameAndType 50 51), (0, u "length"), (0, u "([B)I"), (7, .fieldref 12 60), (0, .nameAndType 61 62), (0, u "HI_BYTE_SHIFT"), (0, u "I"), (0, .fieldref 12 64), (0, .nameAndType 65 62), (0, u "LO_BYTE_SHIFT"), (1, .methodref 12 68), (0, .nameAndType 69 70), (0, u "checkIndex"), (0, u "(I[B)V"), (0, .methodref 12 72), (0, .nameAndType 73 74), (0, u "getChar"), (0, u "([BI)C"), (32, .methodref 12 108), (0, .nameAndType 109 110), (0, u "newBytesFor"), (0, u "(I)[B"), (0, .methodref 12 112), (0, .nameAndType 113 114), (0, u "putChar"), (0, u "([BII)V"), (0, .methodref 12 116), (0, .nameAndType 117 118), (0, u "compress"), (0, u "([CI[BII)I"), (0, .methodref 12 120), (0, .nameAndType 121 122), (0, u "toBytes"), (0, u "([CII)[B"), (138, u "coderFromArrayLen"), (0, u "([BI)B"), (106, .class_ 371), (1, u "java/lang/StringUTF16$LinesSpliterator"), (20, u "charAt"), (21, .methodref 3 415), (0, .nameAndType 69 416), (0, u "(II)V"), (13, u "MAX_LENGTH"), (196, .class_ 628), (0, u "java/lang/StringUTF16$CodePointsSpliterator"), (0, .class_ 630), (0, u "java/lang/StringUTF16$CharsSpliterator")] 4

def k12m0 : Method := { name := "<init>", desc := "()V", sig := { parameters := [], returnType := none }, accessFlags := 0, code := none }
def k12c1 : Code := { maxStack := 1, maxLocals := 1, code := jdk_52_method_2_code, exceptionTable := #[], attributes := #[] }
def k12m1 : Method := { name := "newBytesFor", desc := "(I)[B", sig := { parameters := [.int], returnType := some (.array .byte) }, accessFlags := 9, code := some k12c1 }
def k12c2 : Code := { maxStack := 4, maxLocals := 1, code := jdk_52_method_3_code, exceptionTable := #[], attributes := #[] }
def k12m2 : Method := { name := "newBytesLength", desc := "(I)I", sig := { parameters := [.int], returnType := some .int }, accessFlags := 9, code := some k12c2 }
def k12c3 : Code := { maxStack := 4, maxLocals := 3, code := jdk_52_method_4_code, exceptionTable := #[], attributes := #[] }
def k12m3 : Method := { name := "putChar", desc := "([BII)V", sig := { parameters := [(.array .byte), .int, .int], returnType := none }, accessFlags := 8, code := some k12c3 }
def k12c4 : Code := { maxStack := 3, maxLocals := 2, code := jdk_52_method_5_code, exceptionTable := #[], attributes := #[] }
def k12m4 : Method := { name := "getChar", desc := "([BI)C", sig := { parameters := [(.array .byte), .int], returnType := some .char }, accessFlags := 8, code := some k12c4 }
def k12c5 : Code := { maxStack := 2, maxLocals := 1, code := jdk_52_method_6_code, exceptionTable := #[], attributes := #[] }
def k12m5 : Method := { name := "length", desc := "([B)I", sig := { parameters := [(.array .byte)], returnType := some .int }, accessFlags := 9, code := some k12c5 }
def k12c6 : Code := { maxStack := 4, maxLocals := 5, code := jdk_52_method_14_code, exceptionTable := #[], attributes := #[] }
def k12m6 : Method := { name := "toBytes", desc := "([CII)[B", sig := { parameters := [(.array .char), .int, .int], returnType := some (.array .byte) }, accessFlags := 9, code := some k12c6 }
def k12c7 : Code := { maxStack := 2, maxLocals := 2, code := jdk_52_method_15_code, exceptionTable := #[], attributes := #[] }
def k12m7 : Method := { name := "coderFromArrayLen", desc := "([BI)B", sig := { parameters := [(.array .byte), .int], returnType := some .byte }, accessFlags := 8, code := some k12c7 }
def k12c8 : Code := { maxStack := 5, maxLocals := 6, code := jdk_52_method_16_code, exceptionTable := #[], attributes := #[] }
def k12m8 : Method := { name := "compress", desc := "([CII)[B", sig := { parameters := [(.array .char), .int, .int], returnType := some (.array .byte) }, accessFlags := 9, code := some k12c8 }
def k12c9 : Code := { maxStack := 3, maxLocals := 7, code := jdk_52_method_21_code, exceptionTable := #[], attributes := #[] }
def k12m9 : Method := { name := "compress", desc := "([CI[BII)I", sig := { parameters := [(.array .char), .int, (.array .byte), .int, .int], returnType := some .int }, accessFlags := 9, code := some k12c9 }
def k12c10 : Code := { maxStack := 2, maxLocals := 2, code := jdk_52_method_83_code, exceptionTable := #[], attributes := #[] }
def k12m10 : Method := { name := "charAt", desc := "([BI)C", sig := { parameters := [(.array .byte), .int], returnType := some .char }, accessFlags := 9, code := some k12c10 }
def k12c11 : Code := { maxStack := 2, maxLocals := 2, code := jdk_52_method_91_code, exceptionTable := #[], attributes := #[] }
def k12m11 : Method := { name := "checkIndex", desc := "(I[B)V", sig := { parameters := [.int, (.array .byte)], returnType := none }, accessFlags := 9, code := some k12c11 }
/-- java/lang/StringUTF16 -/
def k12 : Class := { plain "java/lang/StringUTF16" (some 0) with
  accessFlags := 48
  interfaces := #[]
  cf := some (fileOf pool12 12 #[.nestMembers #[627, 629, 369]] #[{ accessFlags := 0, nameIndex := 9, descriptorIndex := 10, attributes := #[] }, { accessFlags := 9, nameIndex := 109, descriptorIndex := 110, attributes := #[] }, { accessFlags := 9, nameIndex := 15, descriptorIndex := 16, attributes := #[] }, { accessFlags := 8, nameIndex := 113, descriptorIndex := 114, attributes := #[] }, { accessFlags := 8, nameIndex := 73, descriptorIndex := 74, attributes := #[] }, { accessFlags := 9, nameIndex := 50, descriptorIndex := 51, attributes := #[] }, { accessFlags := 9, nameIndex := 121, descriptorIndex := 122, attributes := #[] }, { accessFlags := 8, nameIndex := 261, descriptorIndex := 262, attributes := #[] }, { accessFlags := 9, nameIndex := 117, descriptorIndex := 122, attributes := #[] }, { accessFlags := 9, nameIndex := 117, descriptorIndex := 118, attributes := #[] }, { accessFlags := 9, nameIndex := 392, descriptorIndex := 74, attributes := #[] }, { accessFlags := 9, nameIndex := 69, descriptorIndex := 70, attributes := #[] }] 48 6 #[] #[{ accessFlags := 26, nameIndex := 61, descriptorIndex := 62, attributes := #[] }, { accessFlags := 26, nameIndex := 65, descriptorIndex := 62, attributes := #[] }, { accessFlags := 24, nameIndex := 430, descriptorIndex := 62, attributes := #[] }, { accessFlags := 4120, nameIndex := 46, descriptorIndex := 47, attributes := #[] }])
  fields := #[{ name := "HI_BYTE_SHIFT", type := .int, accessFlags := 26, slot := 0, constantValue := 0 }, { name := "LO_BYTE_SHIFT", type := .int, accessFlags := 26, slot := 1, constantValue := 0 }, { name := "MAX_LENGTH", type := .int, accessFlags := 24, slot := 2, constantValue := 0 }, { name := "$assertionsDisabled", type := .boolean, accessFlags := 4120, slot := 3, constantValue := 0 }]
  methods := #[k12m0, k12m1, k12m2, k12m3, k12m4, k12m5, k12m6, k12m7, k12m8, k12m9, k12m10, k12m11]
  instanceTypes := #[]
  staticTypes := #[.int, .int, .int, .boolean]
  resolved := Array.replicate 635 none
  statics := some 2 }

def pool13 : Array CpInfo := pool [(9, u "<init>"), (6, .class_ 18), (1, u "java/lang/Object"), (0, u "()V"), (1, .class_ 23), (1, u "jdk/internal/util/ArraysSupport"), (0, u "LOG2_ARRAY_LONG_INDEX_SCALE"), (0, u "I"), (2, u "U"), (0, u "Ljdk/internal/misc/Unsafe;"), (8, u "BIG_ENDIAN"), (0, u "Z"), (8, u "LOG2_BYTE_BIT_SIZE"), (4, u "LOG2_ARRAY_INT_INDEX_SCALE"), (54, u "JLA"), (0, u "Ljdk/internal/access/JavaLangAccess;"), (11, u "LOG2_ARRAY_BOOLEAN_INDEX_SCALE"), (9, u "LOG2_ARRAY_BYTE_INDEX_SCALE"), (5, u "LOG2_ARRAY_CHAR_INDEX_SCALE"), (5, u "LOG2_ARRAY_SHORT_INDEX_SCALE"), (18, u "LOG2_ARRAY_FLOAT_INDEX_SCALE"), (24, u "LOG2_ARRAY_DOUBLE_INDEX_SCALE"), (89, u "T_BOOLEAN"), (2, u "T_CHAR"), (1, u "T_FLOAT"), (1, u "T_DOUBLE"), (1, u "T_BYTE"), (1, u "T_SHORT"), (1, u "T_INT"), (1, u "T_LONG"), (1, u "SOFT_MAX_ARRAY_LENGTH")] 83

def k13m0 : Method := { name := "<init>", desc := "()V", sig := { parameters := [], returnType := none }, accessFlags := 2, code := none }
/-- jdk/internal/util/ArraysSupport -/
def k13 : Class := { plain "jdk/internal/util/ArraysSupport" (some 0) with
  accessFlags := 33
  interfaces := #[]
  cf := some (fileOf pool13 21 #[] #[{ accessFlags := 2, nameIndex := 9, descriptorIndex := 19, attributes := #[] }] 33 16 #[] #[{ accessFlags := 24, nameIndex := 28, descriptorIndex := 29, attributes := #[] }, { accessFlags := 26, nameIndex := 38, descriptorIndex := 39, attributes := #[] }, { accessFlags := 25, nameIndex := 121, descriptorIndex := 25, attributes := #[] }, { accessFlags := 25, nameIndex := 131, descriptorIndex := 25, attributes := #[] }, { accessFlags := 25, nameIndex := 137, descriptorIndex := 25, attributes := #[] }, { accessFlags := 25, nameIndex := 143, descriptorIndex := 25, attributes := #[] }, { accessFlags := 25, nameIndex := 53, descriptorIndex := 25, attributes := #[] }, { accessFlags := 25, nameIndex := 24, descriptorIndex := 25, attributes := #[] }, { accessFlags := 25, nameIndex := 162, descriptorIndex := 25, attributes := #[] }, { accessFlags := 25, nameIndex := 187, descriptorIndex := 25, attributes := #[] }, { accessFlags := 26, nameIndex := 48, descriptorIndex := 25, attributes := #[] }, { accessFlags := 25, nameIndex := 277, descriptorIndex := 25, attributes := #[] }, { accessFlags := 25, nameIndex := 280, descriptorIndex := 25, attributes := #[] }, { accessFlags := 25, nameIndex := 282, descriptorIndex := 25, attributes := #[] }, { accessFlags := 25, nameIndex := 284, descriptorIndex := 25, attributes := #[] }, { accessFlags := 25, nameIndex := 286, descriptorIndex := 25, attributes := #[] }, { accessFlags := 25, nameIndex := 288, descriptorIndex := 25, attributes := #[] }, { accessFlags := 25, nameIndex := 290, descriptorIndex := 25, attributes := #[] }, { accessFlags := 25, nameIndex := 292, descriptorIndex := 25, attributes := #[] }, { accessFlags := 26, nameIndex := 108, descriptorIndex := 109, attributes := #[] }, { accessFlags := 25, nameIndex := 294, descriptorIndex := 25, attributes := #[] }])
  fields := #[{ name := "U", type := (.object "jdk/internal/misc/Unsafe"), accessFlags := 24, slot := 0, constantValue := 0 }, { name := "BIG_ENDIAN", type := .boolean, accessFlags := 26, slot := 1, constantValue := 0 }, { name := "LOG2_ARRAY_BOOLEAN_INDEX_SCALE", type := .int, accessFlags := 25, slot := 2, constantValue := 0 }, { name := "LOG2_ARRAY_BYTE_INDEX_SCALE", type := .int, accessFlags := 25, slot := 3, constantValue := 0 }, { name := "LOG2_ARRAY_CHAR_INDEX_SCALE", type := .int, accessFlags := 25, slot := 4, constantValue := 0 }, { name := "LOG2_ARRAY_SHORT_INDEX_SCALE", type := .int, accessFlags := 25, slot := 5, constantValue := 0 }, { name := "LOG2_ARRAY_INT_INDEX_SCALE", type := .int, accessFlags := 25, slot := 6, constantValue := 0 }, { name := "LOG2_ARRAY_LONG_INDEX_SCALE", type := .int, accessFlags := 25, slot := 7, constantValue := 0 }, { name := "LOG2_ARRAY_FLOAT_INDEX_SCALE", type := .int, accessFlags := 25, slot := 8, constantValue := 0 }, { name := "LOG2_ARRAY_DOUBLE_INDEX_SCALE", type := .int, accessFlags := 25, slot := 9, constantValue := 0 }, { name := "LOG2_BYTE_BIT_SIZE", type := .int, accessFlags := 26, slot := 10, constantValue := 0 }, { name := "T_BOOLEAN", type := .int, accessFlags := 25, slot := 11, constantValue := 0 }, { name := "T_CHAR", type := .int, accessFlags := 25, slot := 12, constantValue := 0 }, { name := "T_FLOAT", type := .int, accessFlags := 25, slot := 13, constantValue := 0 }, { name := "T_DOUBLE", type := .int, accessFlags := 25, slot := 14, constantValue := 0 }, { name := "T_BYTE", type := .int, accessFlags := 25, slot := 15, constantValue := 0 }, { name := "T_SHORT", type := .int, accessFlags := 25, slot := 16, constantValue := 0 }, { name := "T_INT", type := .int, accessFlags := 25, slot := 17, constantValue := 0 }, { name := "T_LONG", type := .int, accessFlags := 25, slot := 18, constantValue := 0 }, { name := "JLA", type := (.object "jdk/internal/access/JavaLangAccess"), accessFlags := 26, slot := 19, constantValue := 0 }, { name := "SOFT_MAX_ARRAY_LENGTH", type := .int, accessFlags := 25, slot := 20, constantValue := 0 }]
  methods := #[k13m0]
  instanceTypes := #[]
  staticTypes := #[(.object "jdk/internal/misc/Unsafe"), .boolean, .int, .int, .int, .int, .int, .int, .int, .int, .int, .int, .int, .int, .int, .int, .int, .int, .int, (.object "jdk/internal/access/JavaLangAccess"), .int]
  resolved := Array.replicate 378 none
  statics := none }

def pool14 : Array CpInfo := pool [(1, u "java/lang/Cloneable"), (0, .class_ 1), (0, u "java/lang/Object"), (0, .class_ 3)] 3

/-- java/lang/Cloneable -/
def k14 : Class := { plain "java/lang/Cloneable" (some 0) with
  accessFlags := 1537
  interfaces := #[]
  cf := some (fileOf pool14 2 #[] #[] 1537 4 #[] #[])
  fields := #[]
  methods := #[]
  instanceTypes := #[]
  staticTypes := #[]
  resolved := Array.replicate 8 none
  statics := none }

/-- the primitive byte -/
def k15 : Class := { plain "byte" none with kind := .primitive 'B', accessFlags := 0x411 }
/-- [B -/
def k16 : Class := { plain "[B" (some 0) with kind := .array 15 .byte, interfaces := #[14, 2], accessFlags := 1041 }

/-- the primitive char -/
def k17 : Class := { plain "char" none with kind := .primitive 'C', accessFlags := 0x411 }
/-- [C -/
def k18 : Class := { plain "[C" (some 0) with kind := .array 17 .char, interfaces := #[14, 2], accessFlags := 1041 }

/-- the primitive int -/
def k19 : Class := { plain "int" none with kind := .primitive 'I', accessFlags := 0x411 }
/-- [I -/
def k20 : Class := { plain "[I" (some 0) with kind := .array 19 .int, interfaces := #[14, 2], accessFlags := 1041 }

def heap : Heap := #[{ cls := 7, slots := #[.long 0, .int 1, .null, .int 0, .null, .int 0, .int 0], vm := .statics 7 },
  { cls := 9, slots := #[.null, .null, .null], vm := .statics 9 },
  { cls := 12, slots := #[.int 0, .int 8, .int 0, .int 1], vm := .statics 12 }]
def classes : Array Class := #[k0, k1, k2, k3, k4, k5, k6, k7, k8, k9, k10, k11, k12, k13, k14, k15, k16, k17, k18, k19, k20]
def interned : List (Array UInt16 × Addr) := []
def slotsUsed : Nat := 14
def theMethod : MethodId := ⟨1, 6⟩
def args0 : Array Value := #[.int 5, .int 3, .int 1, .int 2, .int 4, .int 6]
def aboutOver (below : List Frame) : State where
  vm := { classes := classes, interned := interned.toArray }
  heap := heap
  slotsUsed := slotsUsed
  threads := #[{ frames := .invoking theMethod args0 :: below }]
def below0 : List Frame := [.native { method := ⟨0, 0⟩, args := #[] }]
def about1 : State := aboutOver below0
def p0 : Program := .bare "" "" ""
def e0 : Env := launch0.env 0 0 0
theorem w_frames : about1.frames = Frame.invoking theMethod args0 :: below0 := rfl
set_option maxRecDepth 65536 in
theorem w_args : argsFit about1.vm theMethod args0 = true := by decide +kernel
set_option maxRecDepth 65536 in
theorem w_heap : heapFits about1 = true := by decide +kernel
set_option maxRecDepth 65536 in
theorem w_runnable : about1.curStatus? = some .runnable := by decide +kernel
set_option maxRecDepth 65536 in
theorem w_alone : about1.alone = true := by decide +kernel
set_option maxRecDepth 65536 in
theorem w_named : about1.methodNamed? x = some theMethod := by decide +kernel
set_option maxRecDepth 65536 in
theorem w_hears : about1.hears theMethod below0 = true := by decide +kernel
set_option maxRecDepth 65536 in
theorem w_ripe : about1.ripe theMethod args0 below0 = true := by decide +kernel
theorem w_running : about1.status = .running := rfl
set_option maxRecDepth 65536 in
theorem w_room : about1.hasRoom e0.platform room_1 = true :=
  launch0.hasRoom_least _ room_1 (by decide +kernel) (by decide +kernel) (by decide +kernel) (by decide +kernel) (by decide +kernel) (by decide +kernel)
theorem allAtoms_all (ts : List Jvm.Cond) (a : Array Jvm.Value) (st : Jvm.State) : (allAtoms ts).before a st = ts.all (fun c => c.before a st) := by
  induction ts with
  | nil => rfl
  | cons c t ih =>
    show (Jvm.Cond.and c (allAtoms t)).before a st = _
    rw [Jvm.Cond.before_and, ih, List.all_cons]
def words1 : List Jvm.Cond := Jvm.Cond.code x code maxLocals ret :: tables_1
/-- a 'code' word, met by the world's own term for the bytes: nothing is compared byte by byte -/
theorem code_word {y : MethodName} {bytes : ByteArray} {mx : Nat} {rt : Option FieldType} {a : Array Value} {s : State} {m : MethodId} {meth : Method} {c : Code} (h1 : s.methodNamed? y = some m) (h2 : s.vm.method? m = some meth) (h3 : meth.code = some c) (h4 : c.code = bytes)
    (h5 : (c.maxLocals == mx && c.exceptionTable.isEmpty && decide (c.maxStack ≤ mostOperands) && decide (meth.sig.returnType = rt) && !meth.locks && decide (parseMethodDescriptor y.desc = some meth.sig)) = true) : (Jvm.Cond.code y bytes mx rt).before a s = true := by
  simp only [Bool.and_eq_true, beq_iff_eq, Bool.not_eq_true', decide_eq_true_eq] at h5
  obtain ⟨⟨⟨⟨⟨g1, g2⟩, g3⟩, g4⟩, g5⟩, g6⟩ := h5
  simp [Cond.before, Cond.holds, Cond.value, h1, h2, h3, h4, g1, g2, g3, g4, g5, g6]
def isCode : Jvm.Cond → Bool
  | .code _ _ _ _ => true
  | _ => false
theorem all_split {L : List Jvm.Cond} {P : Jvm.Cond → Bool} (h1 : L.all (fun c => isCode c || P c) = true) (h2 : ∀ c ∈ L.filter isCode, P c = true) : L.all P = true := by
  refine List.all_eq_true.mpr fun c hc => ?_
  have h := List.all_eq_true.mp h1 c hc
  rcases Bool.eq_false_or_eq_true (isCode c) with hi | hi
  · exact h2 c (List.mem_filter.mpr ⟨hc, hi⟩)
  · simpa [hi] using h
set_option maxRecDepth 65536 in
theorem w_c0 : (Jvm.Cond.code x code maxLocals ret).before args0 about1 = true := code_word (m := ⟨1, 6⟩) (meth := k1m6) (c := k1c6) (by decide +kernel) rfl rfl rfl (by decide +kernel)
set_option maxRecDepth 65536 in
theorem w_c1 : (Jvm.Cond.code ({ cls := "com/example/citeloom/citeloom/references/FieldTextAfterSeparatorsPinLaw", name := "draw", desc := "(I)C" } : Jvm.MethodName) method_3_code (2 : Nat) (Option.some Jvm.ClassFile.FieldType.char)).before args0 about1 = true := code_word (m := ⟨1, 2⟩) (meth := k1m2) (c := k1c2) (by decide +kernel) rfl rfl rfl (by decide +kernel)
set_option maxRecDepth 65536 in
theorem w_c2 : (Jvm.Cond.code ({ cls := "java/lang/String", name := "charAt", desc := "(I)C" } : Jvm.MethodName) jdk_42_method_56_code (2 : Nat) (Option.some Jvm.ClassFile.FieldType.char)).before args0 about1 = true := code_word (m := ⟨7, 3⟩) (meth := k7m3) (c := k7c3) (by decide +kernel) rfl rfl rfl (by decide +kernel)
set_option maxRecDepth 65536 in
theorem w_c3 : (Jvm.Cond.code ({ cls := "java/lang/String", name := "isLatin1", desc := "()Z" } : Jvm.MethodName) jdk_42_method_154_code (1 : Nat) (Option.some Jvm.ClassFile.FieldType.boolean)).before args0 about1 = true := code_word (m := ⟨7, 8⟩) (meth := k7m8) (c := k7c8) (by decide +kernel) rfl rfl rfl (by decide +kernel)
set_option maxRecDepth 65536 in
theorem w_c4 : (Jvm.Cond.code ({ cls := "java/lang/StringLatin1", name := "charAt", desc := "([BI)C" } : Jvm.MethodName) jdk_43_method_2_code (2 : Nat) (Option.some Jvm.ClassFile.FieldType.char)).before args0 about1 = true := code_word (m := ⟨8, 1⟩) (meth := k8m1) (c := k8c1) (by decide +kernel) rfl rfl rfl (by decide +kernel)
set_option maxRecDepth 65536 in
theorem w_c5 : (Jvm.Cond.code ({ cls := "java/lang/String", name := "checkIndex", desc := "(II)V" } : Jvm.MethodName) jdk_42_method_155_code (2 : Nat) (Option.none : Option Jvm.ClassFile.FieldType)).before args0 about1 = true := code_word (m := ⟨7, 9⟩) (meth := k7m9) (c := k7c9) (by decide +kernel) rfl rfl rfl (by decide +kernel)
set_option maxRecDepth 65536 in
theorem w_c6 : (Jvm.Cond.code ({ cls := "jdk/internal/util/Preconditions", name := "checkIndex", desc := "(IILjava/util/function/BiFunction;)I" } : Jvm.MethodName) jdk_41_method_11_code (3 : Nat) (Option.some Jvm.ClassFile.FieldType.int)).before args0 about1 = true := code_word (m := ⟨9, 1⟩) (meth := k9m1) (c := k9c1) (by decide +kernel) rfl rfl rfl (by decide +kernel)
set_option maxRecDepth 65536 in
theorem w_c7 : (Jvm.Cond.code ({ cls := "com/example/citeloom/citeloom/references/FieldTextAfterSeparatorsPinLaw", name := "make", desc := "(ICCCC)[C" } : Jvm.MethodName) method_4_code (5 : Nat) (Option.some (Jvm.ClassFile.FieldType.array Jvm.ClassFile.FieldType.char))).before args0 about1 = true := code_word (m := ⟨1, 3⟩) (meth := k1m3) (c := k1c3) (by decide +kernel) rfl rfl rfl (by decide +kernel)
set_option maxRecDepth 65536 in
theorem w_c8 : (Jvm.Cond.code ({ cls := "java/lang/String", name := "<init>", desc := "([C)V" } : Jvm.MethodName) jdk_42_method_3_code (2 : Nat) (Option.none : Option Jvm.ClassFile.FieldType)).before args0 about1 = true := code_word (m := ⟨7, 1⟩) (meth := k7m1) (c := k7c1) (by decide +kernel) rfl rfl rfl (by decide +kernel)
set_option maxRecDepth 65536 in
theorem w_c9 : (Jvm.Cond.code ({ cls := "java/lang/String", name := "<init>", desc := "([CIILjava/lang/Void;)V" } : Jvm.MethodName) jdk_42_method_149_code (6 : Nat) (Option.none : Option Jvm.ClassFile.FieldType)).before args0 about1 = true := code_word (m := ⟨7, 6⟩) (meth := k7m6) (c := k7c6) (by decide +kernel) rfl rfl rfl (by decide +kernel)
set_option maxRecDepth 65536 in
theorem w_c10 : (Jvm.Cond.code ({ cls := "java/lang/Object", name := "<init>", desc := "()V" } : Jvm.MethodName) object_method_1_code (1 : Nat) (Option.none : Option Jvm.ClassFile.FieldType)).before args0 about1 = true := code_word (m := ⟨0, 0⟩) (meth := k0m0) (c := k0c0) (by decide +kernel) rfl rfl rfl (by decide +kernel)
set_option maxRecDepth 65536 in
theorem w_c11 : (Jvm.Cond.code ({ cls := "com/example/citeloom/citeloom/references/FieldText", name := "afterSeparators", desc := "(Ljava/lang/String;I)I" } : Jvm.MethodName) prog_34_method_4_code (3 : Nat) (Option.some Jvm.ClassFile.FieldType.int)).before args0 about1 = true := code_word (m := ⟨10, 1⟩) (meth := k10m1) (c := k10c1) (by decide +kernel) rfl rfl rfl (by decide +kernel)
set_option maxRecDepth 65536 in
theorem w_c12 : (Jvm.Cond.code ({ cls := "java/lang/String", name := "length", desc := "()I" } : Jvm.MethodName) jdk_42_method_54_code (1 : Nat) (Option.some Jvm.ClassFile.FieldType.int)).before args0 about1 = true := code_word (m := ⟨7, 2⟩) (meth := k7m2) (c := k7c2) (by decide +kernel) rfl rfl rfl (by decide +kernel)
set_option maxRecDepth 65536 in
theorem w_c13 : (Jvm.Cond.code ({ cls := "java/lang/String", name := "coder", desc := "()B" } : Jvm.MethodName) jdk_42_method_152_code (1 : Nat) (Option.some Jvm.ClassFile.FieldType.byte)).before args0 about1 = true := code_word (m := ⟨7, 7⟩) (meth := k7m7) (c := k7c7) (by decide +kernel) rfl rfl rfl (by decide +kernel)
set_option maxRecDepth 65536 in
theorem w_c14 : (Jvm.Cond.code ({ cls := "java/lang/Math", name := "max", desc := "(II)I" } : Jvm.MethodName) jdk_29_method_65_code (2 : Nat) (Option.some Jvm.ClassFile.FieldType.int)).before args0 about1 = true := code_word (m := ⟨11, 1⟩) (meth := k11m1) (c := k11c1) (by decide +kernel) rfl rfl rfl (by decide +kernel)
set_option maxRecDepth 65536 in
theorem w_c15 : (Jvm.Cond.code ({ cls := "com/example/citeloom/citeloom/references/FieldTextAfterSeparatorsPinLaw", name := "inRunOk", desc := "(IIICCCC)Z" } : Jvm.MethodName) method_6_code (7 : Nat) (Option.some Jvm.ClassFile.FieldType.boolean)).before args0 about1 = true := code_word (m := ⟨1, 5⟩) (meth := k1m5) (c := k1c5) (by decide +kernel) rfl rfl rfl (by decide +kernel)
set_option maxRecDepth 65536 in
theorem w_c16 : (Jvm.Cond.code ({ cls := "java/lang/StringUTF16", name := "compress", desc := "([CII)[B" } : Jvm.MethodName) jdk_52_method_16_code (6 : Nat) (Option.some (Jvm.ClassFile.FieldType.array Jvm.ClassFile.FieldType.byte))).before args0 about1 = true := code_word (m := ⟨12, 8⟩) (meth := k12m8) (c := k12c8) (by decide +kernel) rfl rfl rfl (by decide +kernel)
set_option maxRecDepth 65536 in
theorem w_c17 : (Jvm.Cond.code ({ cls := "java/lang/StringUTF16", name := "compress", desc := "([CI[BII)I" } : Jvm.MethodName) jdk_52_method_21_code (7 : Nat) (Option.some Jvm.ClassFile.FieldType.int)).before args0 about1 = true := code_word (m := ⟨12, 9⟩) (meth := k12m9) (c := k12c9) (by decide +kernel) rfl rfl rfl (by decide +kernel)
set_option maxRecDepth 65536 in
theorem w_c18 : (Jvm.Cond.code ({ cls := "java/lang/StringUTF16", name := "coderFromArrayLen", desc := "([BI)B" } : Jvm.MethodName) jdk_52_method_15_code (2 : Nat) (Option.some Jvm.ClassFile.FieldType.byte)).before args0 about1 = true := code_word (m := ⟨12, 7⟩) (meth := k12m7) (c := k12c7) (by decide +kernel) rfl rfl rfl (by decide +kernel)
set_option maxRecDepth 65536 in
theorem w_c19 : (Jvm.Cond.code ({ cls := "java/lang/String", name := "indexOf", desc := "(I)I" } : Jvm.MethodName) jdk_42_method_79_code (2 : Nat) (Option.some Jvm.ClassFile.FieldType.int)).before args0 about1 = true := code_word (m := ⟨7, 4⟩) (meth := k7m4) (c := k7c4) (by decide +kernel) rfl rfl rfl (by decide +kernel)
set_option maxRecDepth 65536 in
theorem w_c20 : (Jvm.Cond.code ({ cls := "java/lang/String", name := "indexOf", desc := "(II)I" } : Jvm.MethodName) jdk_42_method_80_code (3 : Nat) (Option.some Jvm.ClassFile.FieldType.int)).before args0 about1 = true := code_word (m := ⟨7, 5⟩) (meth := k7m5) (c := k7c5) (by decide +kernel) rfl rfl rfl (by decide +kernel)
set_option maxRecDepth 65536 in
theorem w_c21 : (Jvm.Cond.code ({ cls := "java/lang/StringLatin1", name := "indexOf", desc := "([BIII)I" } : Jvm.MethodName) jdk_43_method_22_code (4 : Nat) (Option.some Jvm.ClassFile.FieldType.int)).before args0 about1 = true := code_word (m := ⟨8, 3⟩) (meth := k8m3) (c := k8c3) (by decide +kernel) rfl rfl rfl (by decide +kernel)
set_option maxRecDepth 65536 in
theorem w_c22 : (Jvm.Cond.code ({ cls := "java/lang/StringLatin1", name := "canEncode", desc := "(I)Z" } : Jvm.MethodName) jdk_43_method_4_code (1 : Nat) (Option.some Jvm.ClassFile.FieldType.boolean)).before args0 about1 = true := code_word (m := ⟨8, 2⟩) (meth := k8m2) (c := k8c2) (by decide +kernel) rfl rfl rfl (by decide +kernel)
set_option maxRecDepth 65536 in
theorem w_c23 : (Jvm.Cond.code ({ cls := "java/lang/Math", name := "min", desc := "(II)I" } : Jvm.MethodName) jdk_29_method_69_code (2 : Nat) (Option.some Jvm.ClassFile.FieldType.int)).before args0 about1 = true := code_word (m := ⟨11, 2⟩) (meth := k11m2) (c := k11c2) (by decide +kernel) rfl rfl rfl (by decide +kernel)
set_option maxRecDepth 65536 in
theorem w_c24 : (Jvm.Cond.code ({ cls := "java/lang/StringLatin1", name := "indexOfChar", desc := "([BIII)I" } : Jvm.MethodName) jdk_43_method_23_code (6 : Nat) (Option.some Jvm.ClassFile.FieldType.int)).before args0 about1 = true := code_word (m := ⟨8, 4⟩) (meth := k8m4) (c := k8c4) (by decide +kernel) rfl rfl rfl (by decide +kernel)
set_option maxRecDepth 65536 in
theorem w_c25 : (Jvm.Cond.code ({ cls := "com/example/citeloom/citeloom/references/FieldTextAfterSeparatorsPinLaw", name := "pick", desc := "(ICCCC)C" } : Jvm.MethodName) method_5_code (5 : Nat) (Option.some Jvm.ClassFile.FieldType.char)).before args0 about1 = true := code_word (m := ⟨1, 4⟩) (meth := k1m4) (c := k1c4) (by decide +kernel) rfl rfl rfl (by decide +kernel)
set_option maxRecDepth 65536 in
theorem w_c26 : (Jvm.Cond.code ({ cls := "com/example/citeloom/citeloom/references/FieldTextAfterSeparatorsPinLaw", name := "isSep", desc := "(C)Z" } : Jvm.MethodName) method_2_code (1 : Nat) (Option.some Jvm.ClassFile.FieldType.boolean)).before args0 about1 = true := code_word (m := ⟨1, 1⟩) (meth := k1m1) (c := k1c1) (by decide +kernel) rfl rfl rfl (by decide +kernel)
set_option maxRecDepth 65536 in
theorem w_c27 : (Jvm.Cond.code ({ cls := "java/lang/StringUTF16", name := "toBytes", desc := "([CII)[B" } : Jvm.MethodName) jdk_52_method_14_code (5 : Nat) (Option.some (Jvm.ClassFile.FieldType.array Jvm.ClassFile.FieldType.byte))).before args0 about1 = true := code_word (m := ⟨12, 6⟩) (meth := k12m6) (c := k12c6) (by decide +kernel) rfl rfl rfl (by decide +kernel)
set_option maxRecDepth 65536 in
theorem w_c28 : (Jvm.Cond.code ({ cls := "java/lang/StringUTF16", name := "newBytesFor", desc := "(I)[B" } : Jvm.MethodName) jdk_52_method_2_code (1 : Nat) (Option.some (Jvm.ClassFile.FieldType.array Jvm.ClassFile.FieldType.byte))).before args0 about1 = true := code_word (m := ⟨12, 1⟩) (meth := k12m1) (c := k12c1) (by decide +kernel) rfl rfl rfl (by decide +kernel)
set_option maxRecDepth 65536 in
theorem w_c29 : (Jvm.Cond.code ({ cls := "java/lang/StringUTF16", name := "newBytesLength", desc := "(I)I" } : Jvm.MethodName) jdk_52_method_3_code (1 : Nat) (Option.some Jvm.ClassFile.FieldType.int)).before args0 about1 = true := code_word (m := ⟨12, 2⟩) (meth := k12m2) (c := k12c2) (by decide +kernel) rfl rfl rfl (by decide +kernel)
set_option maxRecDepth 65536 in
theorem w_c30 : (Jvm.Cond.code ({ cls := "java/lang/StringUTF16", name := "putChar", desc := "([BII)V" } : Jvm.MethodName) jdk_52_method_4_code (3 : Nat) (Option.none : Option Jvm.ClassFile.FieldType)).before args0 about1 = true := code_word (m := ⟨12, 3⟩) (meth := k12m3) (c := k12c3) (by decide +kernel) rfl rfl rfl (by decide +kernel)
set_option maxRecDepth 65536 in
theorem w_c31 : (Jvm.Cond.code ({ cls := "java/lang/StringUTF16", name := "getChar", desc := "([BI)C" } : Jvm.MethodName) jdk_52_method_5_code (2 : Nat) (Option.some Jvm.ClassFile.FieldType.char)).before args0 about1 = true := code_word (m := ⟨12, 4⟩) (meth := k12m4) (c := k12c4) (by decide +kernel) rfl rfl rfl (by decide +kernel)
set_option maxRecDepth 65536 in
theorem w_c32 : (Jvm.Cond.code ({ cls := "java/lang/StringUTF16", name := "charAt", desc := "([BI)C" } : Jvm.MethodName) jdk_52_method_83_code (2 : Nat) (Option.some Jvm.ClassFile.FieldType.char)).before args0 about1 = true := code_word (m := ⟨12, 10⟩) (meth := k12m10) (c := k12c10) (by decide +kernel) rfl rfl rfl (by decide +kernel)
set_option maxRecDepth 65536 in
theorem w_c33 : (Jvm.Cond.code ({ cls := "java/lang/StringUTF16", name := "checkIndex", desc := "(I[B)V" } : Jvm.MethodName) jdk_52_method_91_code (2 : Nat) (Option.none : Option Jvm.ClassFile.FieldType)).before args0 about1 = true := code_word (m := ⟨12, 11⟩) (meth := k12m11) (c := k12c11) (by decide +kernel) rfl rfl rfl (by decide +kernel)
set_option maxRecDepth 65536 in
theorem w_c34 : (Jvm.Cond.code ({ cls := "java/lang/StringUTF16", name := "length", desc := "([B)I" } : Jvm.MethodName) jdk_52_method_6_code (1 : Nat) (Option.some Jvm.ClassFile.FieldType.int)).before args0 about1 = true := code_word (m := ⟨12, 5⟩) (meth := k12m5) (c := k12c5) (by decide +kernel) rfl rfl rfl (by decide +kernel)
def codes1 : List Jvm.Cond := [Jvm.Cond.code x code maxLocals ret, Jvm.Cond.code ({ cls := "com/example/citeloom/citeloom/references/FieldTextAfterSeparatorsPinLaw", name := "draw", desc := "(I)C" } : Jvm.MethodName) method_3_code (2 : Nat) (Option.some Jvm.ClassFile.FieldType.char), Jvm.Cond.code ({ cls := "java/lang/String", name := "charAt", desc := "(I)C" } : Jvm.MethodName) jdk_42_method_56_code (2 : Nat) (Option.some Jvm.ClassFile.FieldType.char), Jvm.Cond.code ({ cls := "java/lang/String", name := "isLatin1", desc := "()Z" } : Jvm.MethodName) jdk_42_method_154_code (1 : Nat) (Option.some Jvm.ClassFile.FieldType.boolean), Jvm.Cond.code ({ cls := "java/lang/StringLatin1", name := "charAt", desc := "([BI)C" } : Jvm.MethodName) jdk_43_method_2_code (2 : Nat) (Option.some Jvm.ClassFile.FieldType.char), Jvm.Cond.code ({ cls := "java/lang/String", name := "checkIndex", desc := "(II)V" } : Jvm.MethodName) jdk_42_method_155_code (2 : Nat) (Option.none : Option Jvm.ClassFile.FieldType), Jvm.Cond.code ({ cls := "jdk/internal/util/Preconditions", name := "checkIndex", desc := "(IILjava/util/function/BiFunction;)I" } : Jvm.MethodName) jdk_41_method_11_code (3 : Nat) (Option.some Jvm.ClassFile.FieldType.int), Jvm.Cond.code ({ cls := "com/example/citeloom/citeloom/references/FieldTextAfterSeparatorsPinLaw", name := "make", desc := "(ICCCC)[C" } : Jvm.MethodName) method_4_code (5 : Nat) (Option.some (Jvm.ClassFile.FieldType.array Jvm.ClassFile.FieldType.char)), Jvm.Cond.code ({ cls := "java/lang/String", name := "<init>", desc := "([C)V" } : Jvm.MethodName) jdk_42_method_3_code (2 : Nat) (Option.none : Option Jvm.ClassFile.FieldType), Jvm.Cond.code ({ cls := "java/lang/String", name := "<init>", desc := "([CIILjava/lang/Void;)V" } : Jvm.MethodName) jdk_42_method_149_code (6 : Nat) (Option.none : Option Jvm.ClassFile.FieldType), Jvm.Cond.code ({ cls := "java/lang/Object", name := "<init>", desc := "()V" } : Jvm.MethodName) object_method_1_code (1 : Nat) (Option.none : Option Jvm.ClassFile.FieldType), Jvm.Cond.code ({ cls := "com/example/citeloom/citeloom/references/FieldText", name := "afterSeparators", desc := "(Ljava/lang/String;I)I" } : Jvm.MethodName) prog_34_method_4_code (3 : Nat) (Option.some Jvm.ClassFile.FieldType.int), Jvm.Cond.code ({ cls := "java/lang/String", name := "length", desc := "()I" } : Jvm.MethodName) jdk_42_method_54_code (1 : Nat) (Option.some Jvm.ClassFile.FieldType.int), Jvm.Cond.code ({ cls := "java/lang/String", name := "coder", desc := "()B" } : Jvm.MethodName) jdk_42_method_152_code (1 : Nat) (Option.some Jvm.ClassFile.FieldType.byte), Jvm.Cond.code ({ cls := "java/lang/Math", name := "max", desc := "(II)I" } : Jvm.MethodName) jdk_29_method_65_code (2 : Nat) (Option.some Jvm.ClassFile.FieldType.int), Jvm.Cond.code ({ cls := "com/example/citeloom/citeloom/references/FieldTextAfterSeparatorsPinLaw", name := "inRunOk", desc := "(IIICCCC)Z" } : Jvm.MethodName) method_6_code (7 : Nat) (Option.some Jvm.ClassFile.FieldType.boolean), Jvm.Cond.code ({ cls := "java/lang/StringUTF16", name := "compress", desc := "([CII)[B" } : Jvm.MethodName) jdk_52_method_16_code (6 : Nat) (Option.some (Jvm.ClassFile.FieldType.array Jvm.ClassFile.FieldType.byte)), Jvm.Cond.code ({ cls := "java/lang/StringUTF16", name := "compress", desc := "([CI[BII)I" } : Jvm.MethodName) jdk_52_method_21_code (7 : Nat) (Option.some Jvm.ClassFile.FieldType.int), Jvm.Cond.code ({ cls := "java/lang/StringUTF16", name := "coderFromArrayLen", desc := "([BI)B" } : Jvm.MethodName) jdk_52_method_15_code (2 : Nat) (Option.some Jvm.ClassFile.FieldType.byte), Jvm.Cond.code ({ cls := "java/lang/String", name := "indexOf", desc := "(I)I" } : Jvm.MethodName) jdk_42_method_79_code (2 : Nat) (Option.some Jvm.ClassFile.FieldType.int), Jvm.Cond.code ({ cls := "java/lang/String", name := "indexOf", desc := "(II)I" } : Jvm.MethodName) jdk_42_method_80_code (3 : Nat) (Option.some Jvm.ClassFile.FieldType.int), Jvm.Cond.code ({ cls := "java/lang/StringLatin1", name := "indexOf", desc := "([BIII)I" } : Jvm.MethodName) jdk_43_method_22_code (4 : Nat) (Option.some Jvm.ClassFile.FieldType.int), Jvm.Cond.code ({ cls := "java/lang/StringLatin1", name := "canEncode", desc := "(I)Z" } : Jvm.MethodName) jdk_43_method_4_code (1 : Nat) (Option.some Jvm.ClassFile.FieldType.boolean), Jvm.Cond.code ({ cls := "java/lang/Math", name := "min", desc := "(II)I" } : Jvm.MethodName) jdk_29_method_69_code (2 : Nat) (Option.some Jvm.ClassFile.FieldType.int), Jvm.Cond.code ({ cls := "java/lang/StringLatin1", name := "indexOfChar", desc := "([BIII)I" } : Jvm.MethodName) jdk_43_method_23_code (6 : Nat) (Option.some Jvm.ClassFile.FieldType.int), Jvm.Cond.code ({ cls := "com/example/citeloom/citeloom/references/FieldTextAfterSeparatorsPinLaw", name := "pick", desc := "(ICCCC)C" } : Jvm.MethodName) method_5_code (5 : Nat) (Option.some Jvm.ClassFile.FieldType.char), Jvm.Cond.code ({ cls := "com/example/citeloom/citeloom/references/FieldTextAfterSeparatorsPinLaw", name := "isSep", desc := "(C)Z" } : Jvm.MethodName) method_2_code (1 : Nat) (Option.some Jvm.ClassFile.FieldType.boolean), Jvm.Cond.code ({ cls := "java/lang/StringUTF16", name := "toBytes", desc := "([CII)[B" } : Jvm.MethodName) jdk_52_method_14_code (5 : Nat) (Option.some (Jvm.ClassFile.FieldType.array Jvm.ClassFile.FieldType.byte)), Jvm.Cond.code ({ cls := "java/lang/StringUTF16", name := "newBytesFor", desc := "(I)[B" } : Jvm.MethodName) jdk_52_method_2_code (1 : Nat) (Option.some (Jvm.ClassFile.FieldType.array Jvm.ClassFile.FieldType.byte)), Jvm.Cond.code ({ cls := "java/lang/StringUTF16", name := "newBytesLength", desc := "(I)I" } : Jvm.MethodName) jdk_52_method_3_code (1 : Nat) (Option.some Jvm.ClassFile.FieldType.int), Jvm.Cond.code ({ cls := "java/lang/StringUTF16", name := "putChar", desc := "([BII)V" } : Jvm.MethodName) jdk_52_method_4_code (3 : Nat) (Option.none : Option Jvm.ClassFile.FieldType), Jvm.Cond.code ({ cls := "java/lang/StringUTF16", name := "getChar", desc := "([BI)C" } : Jvm.MethodName) jdk_52_method_5_code (2 : Nat) (Option.some Jvm.ClassFile.FieldType.char), Jvm.Cond.code ({ cls := "java/lang/StringUTF16", name := "charAt", desc := "([BI)C" } : Jvm.MethodName) jdk_52_method_83_code (2 : Nat) (Option.some Jvm.ClassFile.FieldType.char), Jvm.Cond.code ({ cls := "java/lang/StringUTF16", name := "checkIndex", desc := "(I[B)V" } : Jvm.MethodName) jdk_52_method_91_code (2 : Nat) (Option.none : Option Jvm.ClassFile.FieldType), Jvm.Cond.code ({ cls := "java/lang/StringUTF16", name := "length", desc := "([B)I" } : Jvm.MethodName) jdk_52_method_6_code (1 : Nat) (Option.some Jvm.ClassFile.FieldType.int)]
set_option maxRecDepth 65536 in
theorem codes_eq : words1.filter isCode = codes1 := rfl
theorem w_codes : ∀ c ∈ words1.filter isCode, c.before args0 about1 = true := by
  rw [codes_eq]
  intro c hc
  simp only [codes1, List.mem_cons, List.not_mem_nil, or_false] at hc
  rcases hc with rfl | rfl | rfl | rfl | rfl | rfl | rfl | rfl | rfl | rfl | rfl | rfl | rfl | rfl | rfl | rfl | rfl | rfl | rfl | rfl | rfl | rfl | rfl | rfl | rfl | rfl | rfl | rfl | rfl | rfl | rfl | rfl | rfl | rfl | rfl
  · exact w_c0
  · exact w_c1
  · exact w_c2
  · exact w_c3
  · exact w_c4
  · exact w_c5
  · exact w_c6
  · exact w_c7
  · exact w_c8
  · exact w_c9
  · exact w_c10
  · exact w_c11
  · exact w_c12
  · exact w_c13
  · exact w_c14
  · exact w_c15
  · exact w_c16
  · exact w_c17
  · exact w_c18
  · exact w_c19
  · exact w_c20
  · exact w_c21
  · exact w_c22
  · exact w_c23
  · exact w_c24
  · exact w_c25
  · exact w_c26
  · exact w_c27
  · exact w_c28
  · exact w_c29
  · exact w_c30
  · exact w_c31
  · exact w_c32
  · exact w_c33
  · exact w_c34
set_option maxRecDepth 65536 in
theorem w_t1 : (words1.take 24).all (fun c => isCode c || c.before args0 about1) = true := by decide +kernel
set_option maxRecDepth 65536 in
theorem w_t2 : ((words1.drop 24).take 24).all (fun c => isCode c || c.before args0 about1) = true := by decide +kernel
set_option maxRecDepth 65536 in
theorem w_t3 : (((words1.drop 24).drop 24).take 24).all (fun c => isCode c || c.before args0 about1) = true := by decide +kernel
set_option maxRecDepth 65536 in
theorem w_t4 : ((((words1.drop 24).drop 24).drop 24).take 24).all (fun c => isCode c || c.before args0 about1) = true := by decide +kernel
set_option maxRecDepth 65536 in
theorem w_t5 : (((((words1.drop 24).drop 24).drop 24).drop 24).take 24).all (fun c => isCode c || c.before args0 about1) = true := by decide +kernel
set_option maxRecDepth 65536 in
theorem w_t6 : ((((((words1.drop 24).drop 24).drop 24).drop 24).drop 24).take 24).all (fun c => isCode c || c.before args0 about1) = true := by decide +kernel
set_option maxRecDepth 65536 in
theorem w_t7 : ((((((words1.drop 24).drop 24).drop 24).drop 24).drop 24).drop 24).all (fun c => isCode c || c.before args0 about1) = true := by decide +kernel
theorem w_tables : (allAtoms (Jvm.Cond.code x code maxLocals ret :: tables_1)).before args0 about1 = true := by
  rw [allAtoms_all]
  show words1.all (fun c => c.before args0 about1) = true
  refine all_split ?_ w_codes
  rw [← List.take_append_drop 24 words1, List.all_append, w_t1, ← List.take_append_drop 24 (words1.drop 24), List.all_append, w_t2, ← List.take_append_drop 24 ((words1.drop 24).drop 24), List.all_append, w_t3, ← List.take_append_drop 24 (((words1.drop 24).drop 24).drop 24), List.all_append, w_t4, ← List.take_append_drop 24 ((((words1.drop 24).drop 24).drop 24).drop 24), List.all_append, w_t5, ← List.take_append_drop 24 (((((words1.drop 24).drop 24).drop 24).drop 24).drop 24), List.all_append, w_t6, w_t7]
  rfl
set_option maxRecDepth 65536 in
theorem w_rest : rest_1_c.before args0 about1 = true := by decide +kernel
set_option maxRecDepth 65536 in
theorem w_case : (Jvm.Cond.and given_1 narrow_1).before args0 about1 = true := by decide +kernel
set_option maxRecDepth 65536 in
theorem w_consts : constsHeld consts_1 about1 := Jvm.Lit.constsHeldB_iff.mp (by decide +kernel)
theorem w_applies : (headSpec (Jvm.Cond.code x code maxLocals ret :: tables_1) room_1).applies x e0.platform about1 = true :=
  (Spec.applies_iff w_frames).mpr ⟨w_running, w_runnable, w_alone, w_named, w_hears, w_ripe, w_room, w_tables⟩
theorem atStart : AtStart classFile x code maxLocals ret World_1 tables_1 room_1 Calls_1 rest_1 Pre_1 launch0 p0 e0 about1 theMethod args0 below0 :=
  ⟨lists_1, trivial, launch0.admits_env _ _ _, launch0.least_env, fairChoices_fair.cas, fairChoices_fair.clock, w_frames, w_args, w_heap, w_applies, ⟨w_consts, trivial⟩, w_rest, w_case⟩
end start1
theorem witness_1 : WitnessClaimed_1 := ⟨start1.p0, start1.e0, start1.about1, start1.theMethod, start1.args0, start1.below0, start1.atStart⟩
end Jvm.Pilot.@@N@@
