import JvmDerived
import JvmDerived.Pilot.@@N@@Statement
import JvmDerived.Pilot.@@N@@Code
set_option linter.unusedVariables false
set_option linter.unusedSimpArgs false
namespace Jvm.RoadKit
open Sem ClassFile Op Lib Jvm.Stand Jvm.Free Jvm.LawKit
section New
variable {p : Program} {l : Launch} {e : Env} {R : Room} {s : State} {m : MethodId} {args : Array Value} {below : List Frame} {meth : Method} {c : Code} {T : State} {locs : List Loc} {cells slots : Nat}
theorem retI (X : Stand p l e R s m args below meth c T locs cells slots) (hx : p.tables.exec = Jvm.exec) {pc : Nat} {Ls : Array Slot} {z : Int32} {rest : List Value} (hret : meth.sig.returnType = some .int) (hd : decode c.code pc = .ok (.ireturn, 1)) {fs : List Frame}
    (hl : ∀ (f : JFrame) (acts : List Action), f.method = m → f.locked = none → f.entered = [] → (doReturn e (T.setTop f) acts (some (.int z))).1 = T.setFrames fs) : Steps p.tables e below (T.setTop (mkF m pc Ls (.int z :: rest))) (T.setFrames fs) := by
  have hm' : T.vm.method? m = some meth := X.method'
  have hn : narrow .int (.int z) = .int z := rfl
  show Steps p.tables e below (T.setTop { method := m, pc := pc, locals := Ls, stack := _ :: rest, locked := none }) _
  jvm_step X.here [X.here.top, hx, hd, hm', hret, hn]
  first | (intro acts; rw [hl _ acts rfl rfl rfl]) | rw [hl _ _ rfl rfl rfl]
  exact Steps.refl _
end New
end Jvm.RoadKit
namespace Jvm.Pilot.@@N@@
open Jvm Jvm.ClassFile Sem Op Lib Jvm.Free Jvm.Stand Jvm.LawKit Jvm.RoadKit Bundle Jvm.Pilot.@@N@@.Jvm.D
abbrev own_S (p : Program) (e : Env) (below : List Frame) (T : State) (f : JFrame) (t : State) : Prop := Steps p.tables e below (T.setTop f) t
abbrev own_ushr (x y : Int32) : Int32 := (x.toUInt32 >>> (y &&& 31).toUInt32).toInt32
abbrev own_ushrL (x : Int64) (y : Int32) : Int64 := (x.toUInt64 >>> (y &&& 63).toInt64.toUInt64).toInt64
def own_Qi (z : Int32) (h0 : Heap) (n0 : Nat) (v : Option Value) (h : Heap) (L : List Loc) : Prop := v = some (.int z) ∧ Fr n0 L ∧ h = h0
theorem own_wk {Z : State} {ag : Array Value} {d : Jvm.Cond} (hw : ∀ d ∈ tables_1, d.before ag Z = true) (i : Nat) (h : tables_1[i]? = some d) : d.before ag Z = true := hw d (List.mem_of_getElem? h)
theorem own_cast {α : Sort _} {P : α → Prop} {a b : α} (h : a = b) (k : P a) : P b := h ▸ k
abbrev own_EL : List (String × Nat) := consts_1
theorem own_ew {Z : State} {ag : Array Value} (hw : ∀ d ∈ tables_1, d.before ag Z = true) : EW Z ag own_EL := (EW.cons (hw _ (List.mem_of_getElem? (i := 40) rfl)) (by decide) EW.nil)
theorem own_eq_int {t : Term} {k : Int32} {args : Array Value} {s : State} (h : (Jvm.Cond.eq t (.int k)).value args s none s [] = some true) : t.eval args s none [] s = some (.int k) := by
  obtain ⟨x, y, hx, hy, k1, k2⟩ := cmp_v (Or.inl h)
  have e : y = .int k := Option.some.inj (hy.symm.trans (Term.int_eval k))
  subst e
  obtain ⟨z, rfl⟩ := k2
  have q := gotT (Cond.eq_ints hx (Term.int_eval k)) h
  rw [hx, q]
theorem own_safe_at {Z : State} {EL : List (String × Nat)} {vm vm1 : Vm} {h h' : Heap} {x : Addr} (A : CHr Z EL vm h vm1 h') (q : h'.size ≤ x) : Safe Z EL vm1 h' x := Safe.new q
/-- a String whose array isn't laid yet is none of the booked ones -/
theorem own_safe_str {Z : State} {EL : List (String × Nat)} {vm vm1 : Vm} {h h' : Heap} {a : Addr} {a0' : Array Value} (A : CHr Z EL vm h vm1 h') (hal : Z.vm.Alike vm1) (E : Exa Z h' a "java/lang/String") (F : Fld Z h' a "java/lang/String" "value" "[B" .null) (wi : (Jvm.Cond.instantiable "java/lang/String" 4).before a0' Z = true) : Safe Z EL vm1 h' a := fun B => by
  obtain ⟨p, hp, u, a', hb, q, hq, ⟨cS, ⟨⟨s1, s2, s3, ⟨cv, kv, iv, s4, s4'⟩, ⟨cc, kc, ic, s5, s5'⟩, s6, s7, s8, s9, s10, s11, s12, s13⟩, hfS, hcS⟩, hrest⟩, hy⟩ := B
  rcases hy with rfl | rfl
  · obtain ⟨cell, cf, k, i, f, h1, h2, h3, h4, h5, h6, h7⟩ := F
    cases h1.symm.trans s1
    obtain ⟨kv', z4⟩ := ff_back (U := Wst Z vm1 h') hal s4
    cases h2.symm.trans z4
    rw [s8] at h7
    cases h7
  · have s11' : Z.isArrayOf q.SA .byte := by
      obtain ⟨hst, k9, hk9, comp, hkind9⟩ := s11
      obtain ⟨kz, hkz, ekz⟩ : ∃ kz, Z.vm.classes[q.SA.cls]? = some kz ∧ kz.kind = k9.kind := by
        obtain ⟨c2, k2, e1, e2, e3, e4, e5⟩ := E
        cases e1.symm.trans s10
        obtain ⟨k', hk', ek⟩ := hal.2.2 _ _ e3
        cases (show vm1.classes[q.SA.cls]? = some k9 from hk9).symm.trans hk'
        exact ⟨k2, e3, by rw [ek]⟩
      exact ⟨hst, kz, hkz, comp, by rw [ekz]; exact hkind9⟩
    exact ne_arr E wi ⟨s10, s11', s12⟩ rfl
theorem pn_6 : plainName "jdk/internal/util/Preconditions" = true := by first | (simp [plainName, overriddenIn]; done) | decide +kernel
theorem ef_25 (m : MethodId) (p0 : Int32) (p1 : Int32) (v2 : Value) (rv_v2 : v2.isRef = true) : entryFrame m #[(.int p0), (.int p1), v2] 3 = mkF m 0 #[.val (.int p0), .val (.int p1), .val v2] [] := by rcases ref_cases rv_v2 with rfl | ⟨a, rfl⟩ <;> first | (simp [entryFrame, mkF, argsToLocals, Value.category]; done) | rfl
theorem d25_0 : decode jdk_41_method_11_code 0 = .ok (.iload_n 0, 1) := by decide +kernel
theorem d25_1 : decode jdk_41_method_11_code 1 = .ok (.ifCond .lt 8, 3) := by decide +kernel
theorem d25_4 : decode jdk_41_method_11_code 4 = .ok (.iload_n 0, 1) := by decide +kernel
theorem d25_5 : decode jdk_41_method_11_code 5 = .ok (.iload_n 1, 1) := by decide +kernel
theorem d25_6 : decode jdk_41_method_11_code 6 = .ok (.if_icmp .lt 10, 3) := by decide +kernel
theorem d25_16 : decode jdk_41_method_11_code 16 = .ok (.iload_n 0, 1) := by decide +kernel
theorem d25_17 : decode jdk_41_method_11_code 17 = .ok (.ireturn, 1) := by decide +kernel
def Q25 (Z : State) (p0 : Int32) (p1 : Int32) (v2 : Value) (h0 : Heap) (n0 : Nat) (v : Option Value) (h : Heap) (L : List Loc) : Prop := v = some (.int p0) ∧ Fr n0 L ∧ h = h0
set_option maxRecDepth 65536 in
set_option maxHeartbeats 40000000 in
theorem rm25 (l : Launch) (Z : State) (ag : Array Value) (hw : ∀ d ∈ tables_1, d.before ag Z = true) (ws : List Jvm.Cond) (p0 : Int32) (p1 : Int32) (v2 : Value) (h0 : Heap) (n0 : Nat) (Z0 : n0 ≤ h0.size) (rv_v2 : v2.isRef = true) (h1 : ¬ p0 < (0 : Int32)) (h2 : p0 < p1) :
    MetFree l (⟨"jdk/internal/util/Preconditions", "checkIndex", "(IILjava/util/function/BiFunction;)I"⟩ : MethodName) (head1 (Jvm.Cond.code (⟨"jdk/internal/util/Preconditions", "checkIndex", "(IILjava/util/function/BiFunction;)I"⟩ : MethodName) jdk_41_method_11_code 3 (some .int) :: ws) ({ frames := 0, cells := 0, slots := 0, locals := 0 } : Room)) (fun a U => a = #[(.int p0), (.int p1), v2] ∧ Z.Warmed39 U.vm ∧ U.heap = h0) (fun _ _ _ _ _ => True) (fun _ U o U' => ∃ v L, o = .returned v ∧ Q25 Z p0 p1 v2 h0 n0 v U'.heap L ∧ FrameEnd U o U' L ({ frames := 0, cells := 0, slots := 0, locals := 0 } : Room).cells ({ frames := 0, cells := 0, slots := 0, locals := 0 } : Room).slots) := by
  refine MetFree.of_bodySF (plainFor_of_name pn_6) hisR ?_
  intro p e s m args below meth c s₁ Bd hml0 hP hK
  obtain ⟨rfl, hZ, hh⟩ := hP
  have hx := Bd.exec
  have hby := Bd.bytes
  have hml : c.maxLocals = 3 := hml0
  have hown : s.vm.findClass "jdk/internal/util/Preconditions" = some m.cls := findClass_of_methodNamed Bd.named
  have hnm := (name_of_methodNamed Bd.named Bd.method).1
  have X0 : Stand p l e ({ frames := 0, cells := 0, slots := 0, locals := 0 } : Room) s m #[(.int p0), (.int p1), v2] below meth c s₁ [] 0 0 := Stand.of_body Bd
  have e0 : s₁.heap = h0 := by rw [← hh, Bd.state]; rfl
  have N0 := Fr.nil n0
  have pre0 : ∀ t, Steps p.tables e below (s₁.setTop (mkF m 0 #[.val (.int p0), .val (.int p1), .val v2] [])) t → Steps p.tables e below (s₁.setTop (entryFrame m #[(.int p0), (.int p1), v2] 3)) t := fun t k => castTop (ef_25 m p0 p1 v2 rv_v2) k
  obtain ⟨fs, hr, hrun, hended, hW, hsame⟩ := X0.leave (v := some (.int p0)) (fun h => by rw [Bd.returns] at h; cases h)
  refine ⟨_, _, pre0 _ ?_, hrun, hended, _, _, rfl, ?_, ⟨_, rfl⟩, hW, hsame.mono (by decide) (by decide)⟩
  · show own_S p e below s₁ (mkF m 0 #[.val (.int p0), .val (.int p1), .val v2] []) _
    refine XS.iloadN X0.here hx rfl (hb hby d25_0) rfl ?_
    show own_S p e below s₁ (mkF m 1 #[.val (.int p0), .val (.int p1), .val v2] [(.int p0)]) _
    refine XS.ifNo X0.here hx rfl (hb hby d25_1) rfl ((if0 _ _).trans (flt (show ¬ (p0 < (0 : Int32)) from h1)).1) ?_
    show own_S p e below s₁ (mkF m 4 #[.val (.int p0), .val (.int p1), .val v2] []) _
    refine XS.iloadN X0.here hx rfl (hb hby d25_4) rfl ?_
    show own_S p e below s₁ (mkF m 5 #[.val (.int p0), .val (.int p1), .val v2] [(.int p0)]) _
    refine XS.iloadN X0.here hx rfl (hb hby d25_5) rfl ?_
    show own_S p e below s₁ (mkF m 6 #[.val (.int p0), .val (.int p1), .val v2] [(.int p1), (.int p0)]) _
    refine XS.icmpYes X0.here hx rfl (pc0 := 6) (pc' := 16) rfl (hb hby d25_6) rfl (tlt (show p0 < p1 from h2)).1 (by decide) (by decide) ?_
    show own_S p e below s₁ (mkF m 16 #[.val (.int p0), .val (.int p1), .val v2] []) _
    refine XS.iloadN X0.here hx rfl (hb hby d25_16) rfl ?_
    show own_S p e below s₁ (mkF m 17 #[.val (.int p0), .val (.int p1), .val v2] [(.int p0)]) _
    exact retI X0 hx Bd.returns (hb hby d25_17) hr
  · show Q25 Z p0 p1 v2 h0 n0 _ s₁.heap _
    rw [e0]
    exact ⟨rfl, N0, rfl⟩
theorem pn_3 : plainName "java/lang/String" = true := by first | (simp [plainName, overriddenIn]; done) | decide +kernel
theorem ef_24 (m : MethodId) (p0 : Int32) (p1 : Int32) : entryFrame m #[(.int p0), (.int p1)] 2 = mkF m 0 #[.val (.int p0), .val (.int p1)] [] := by first | (simp [entryFrame, mkF, argsToLocals, Value.category]; done) | rfl
theorem d24_0 : decode jdk_42_method_155_code 0 = .ok (.iload_n 0, 1) := by decide +kernel
theorem d24_1 : decode jdk_42_method_155_code 1 = .ok (.iload_n 1, 1) := by decide +kernel
theorem d24_2 : decode jdk_42_method_155_code 2 = .ok (.getstatic 1053, 3) := by decide +kernel
theorem pd_12 : parseMethodDescriptor "(IILjava/util/function/BiFunction;)I" = some ⟨[.int, .int, (.object "java/util/function/BiFunction")], some .int⟩ := by decide +kernel
theorem d24_5 : decode jdk_42_method_155_code 5 = .ok (.invokestatic 1059, 3) := by decide +kernel
theorem d24_8 : decode jdk_42_method_155_code 8 = .ok (.pop, 1) := by decide +kernel
theorem d24_9 : decode jdk_42_method_155_code 9 = .ok (.return_, 1) := by decide +kernel
def Q24 (Z : State) (p0 : Int32) (p1 : Int32) (gf : Value) (h0 : Heap) (n0 : Nat) (v : Option Value) (h : Heap) (L : List Loc) : Prop := v = none ∧ Fr n0 L ∧ h = h0
set_option maxRecDepth 65536 in
set_option maxHeartbeats 40000000 in
theorem rm24 (l : Launch) (Z : State) (ag : Array Value) (hw : ∀ d ∈ tables_1, d.before ag Z = true) (ws : List Jvm.Cond) (p0 : Int32) (p1 : Int32) (gf : Value) (h0 : Heap) (n0 : Nat) (Z0 : n0 ≤ h0.size) (h1 : ¬ p0 < (0 : Int32)) (h2 : p0 < p1) (O_ : Old Z n0 h0) (S_gf : Sta Z Z.heap "jdk/internal/util/Preconditions" "SIOOBE_FORMATTER" "Ljava/util/function/BiFunction;" gf) (rv_gf : gf.isRef = true) :
    MetFree l (⟨"java/lang/String", "checkIndex", "(II)V"⟩ : MethodName) (head1 (Jvm.Cond.code (⟨"java/lang/String", "checkIndex", "(II)V"⟩ : MethodName) jdk_42_method_155_code 2 none :: ws) ({ frames := 1, cells := 0, slots := 0, locals := 14 } : Room)) (fun a U => a = #[(.int p0), (.int p1)] ∧ Z.Warmed39 U.vm ∧ U.heap = h0) (fun _ _ _ _ _ => True) (fun _ U o U' => ∃ v L, o = .returned v ∧ Q24 Z p0 p1 gf h0 n0 v U'.heap L ∧ FrameEnd U o U' L ({ frames := 1, cells := 0, slots := 0, locals := 14 } : Room).cells ({ frames := 1, cells := 0, slots := 0, locals := 14 } : Room).slots) := by
  refine MetFree.of_bodySF (plainFor_of_name pn_3) hisR ?_
  intro p e s m args below meth c s₁ Bd hml0 hP hK
  obtain ⟨rfl, hZ, hh⟩ := hP
  have hx := Bd.exec
  have hby := Bd.bytes
  have hml : c.maxLocals = 2 := hml0
  have hown : s.vm.findClass "java/lang/String" = some m.cls := findClass_of_methodNamed Bd.named
  have hnm := (name_of_methodNamed Bd.named Bd.method).1
  have X0 : Stand p l e ({ frames := 1, cells := 0, slots := 0, locals := 14 } : Room) s m #[(.int p0), (.int p1)] below meth c s₁ [] 0 0 := Stand.of_body Bd
  have e0 : s₁.heap = h0 := by rw [← hh, Bd.state]; rfl
  have N0 := Fr.nil n0
  have pre0 : ∀ t, Steps p.tables e below (s₁.setTop (mkF m 0 #[.val (.int p0), .val (.int p1)] [])) t → Steps p.tables e below (s₁.setTop (entryFrame m #[(.int p0), (.int p1)] 2)) t := fun t k => castTop (ef_24 m p0 p1) k
  obtain ⟨T1, X1, e1, st1⟩ := getS2 X0 hx hZ hown (host := "") (Or.inl (hw _ (List.mem_of_getElem? (i := 101) rfl))) Via.refl e0 (Sta.ext O_.2 S_gf) (g := (mkF m 2 #[.val (.int p0), .val (.int p1)] [(.int p1), (.int p0)])) rfl (hb hby d24_2)
  obtain ⟨_, _, ⟨T2, L2, k2, n2⟩, -, X2, ⟨Lc2, hQ2, l2, y2, z2⟩, st2⟩ := Jvm.LawKit.callS X1 hx (y := (⟨"jdk/internal/util/Preconditions", "checkIndex", "(IILjava/util/function/BiFunction;)I"⟩ : MethodName)) hown (mvT hZ (hw _ (List.mem_of_getElem? (i := 103) rfl))) (mvT hZ (hw _ (List.mem_of_getElem? (i := 104) rfl))) (mvT hZ (hw _ (List.mem_of_getElem? (i := 102) rfl))) (mvT hZ (hw _ (List.mem_of_getElem? (i := 105) rfl))) (by decide) (backOf (W := 0) (rm25 l Z ag hw [] p0 p1 gf  h0 n0 Z0 rv_gf h1 h2) hZ (hw _ (List.mem_of_getElem? (i := 105) rfl)) (hw _ (List.mem_of_getElem? (i := 102) rfl)) (by decide) (by decide)) (g := (mkF m 5 #[.val (.int p0), .val (.int p1)] [gf, (.int p1), (.int p0)])) rfl (by rw [hml]; rfl) (argsL := [(.int p0), (.int p1), gf]) (rest := []) (lenOf pd_12 rfl) rfl (by show 2 * 0 + _ ≤ _; exact Nat.le_of_eq rfl) (hb hby d24_5) (fun _ _ => ⟨rfl, e1, (by decide : 0 + 0 ≤ _), (by decide : 0 + 0 ≤ _)⟩)
  dsimp only [Pt.U, Pt.locs, Pt.cells, Pt.slots] at X2 l2 y2 z2 st2 hQ2
  subst l2 y2 z2
  obtain ⟨rfl, N2q, e2⟩ := hQ2
  have N2 := Fr.app N0 N2q
  obtain ⟨fs, hr, hrun, hended, hW, hsame⟩ := X2.leave (v := none) (fun _ => rfl)
  refine ⟨_, _, pre0 _ ?_, hrun, hended, _, _, rfl, ?_, ⟨_, rfl⟩, hW, hsame.mono (by decide) (by decide)⟩
  · show own_S p e below s₁ (mkF m 0 #[.val (.int p0), .val (.int p1)] []) _
    refine XS.iloadN X0.here hx rfl (hb hby d24_0) rfl ?_
    show own_S p e below s₁ (mkF m 1 #[.val (.int p0), .val (.int p1)] [(.int p0)]) _
    refine XS.iloadN X0.here hx rfl (hb hby d24_1) rfl ?_
    show own_S p e below s₁ (mkF m 2 #[.val (.int p0), .val (.int p1)] [(.int p1), (.int p0)]) _
    refine st1 _ ?_
    show own_S p e below T1 (mkF m 5 #[.val (.int p0), .val (.int p1)] [gf, (.int p1), (.int p0)]) _
    refine st2 _ ?_
    show own_S p e below T2 (mkF m 8 #[.val (.int p0), .val (.int p1)] [(.int p0)]) _
    refine XS.pop X2.here hx rfl (hb hby d24_8) rfl rfl ?_
    show own_S p e below T2 (mkF m 9 #[.val (.int p0), .val (.int p1)] []) _
    exact X2.returnOut hx Bd.returns (hb hby d24_9) hr
  · show Q24 Z p0 p1 gf h0 n0 _ T2.heap _
    rw [e2]
    exact ⟨rfl, N2, rfl⟩
theorem ef_20 (m : MethodId) (a0 : Addr) : entryFrame m #[(.ref a0)] 1 = mkF m 0 #[.val (.ref a0)] [] := by first | (simp [entryFrame, mkF, argsToLocals, Value.category]; done) | rfl
theorem d20_0 : decode jdk_42_method_154_code 0 = .ok (.getstatic 38, 3) := by decide +kernel
theorem d20_3 : decode jdk_42_method_154_code 3 = .ok (.ifCond .eq 14, 3) := by decide +kernel
theorem d20_6 : decode jdk_42_method_154_code 6 = .ok (.aload_n 0, 1) := by decide +kernel
theorem d20_7 : decode jdk_42_method_154_code 7 = .ok (.getfield 15, 3) := by decide +kernel
theorem d20_10 : decode jdk_42_method_154_code 10 = .ok (.ifCond .ne 7, 3) := by decide +kernel
theorem d20_13 : decode jdk_42_method_154_code 13 = .ok (.iconst 1, 1) := by decide +kernel
theorem d20_14 : decode jdk_42_method_154_code 14 = .ok (.goto 4, 3) := by decide +kernel
theorem d20_18 : decode jdk_42_method_154_code 18 = .ok (.ireturn, 1) := by decide +kernel
def Q20_0 (Z : State) (a0 : Addr) (cs : Int32) (h0 : Heap) (n0 : Nat) (v : Option Value) (h : Heap) (L : List Loc) : Prop := v = some (.int (1 : Int32)) ∧ Fr n0 L ∧ h = h0
set_option maxRecDepth 65536 in
set_option maxHeartbeats 40000000 in
theorem rm20_0 (l : Launch) (Z : State) (ag : Array Value) (hw : ∀ d ∈ tables_1, d.before ag Z = true) (ws : List Jvm.Cond) (a0 : Addr) (cs : Int32) (h0 : Heap) (n0 : Nat) (Z0 : n0 ≤ h0.size) (F_coder_a0 : Fld Z h0 a0 "java/lang/String" "coder" "B" (.int (0 : Int32))) (O_ : Old Z n0 h0) (S_cs : Sta Z Z.heap "java/lang/String" "COMPACT_STRINGS" "Z" (.int cs)) (hcs : ¬ cs = (0 : Int32)) :
    MetFree l (⟨"java/lang/String", "isLatin1", "()Z"⟩ : MethodName) (head1 (Jvm.Cond.code (⟨"java/lang/String", "isLatin1", "()Z"⟩ : MethodName) jdk_42_method_154_code 1 (some .boolean) :: ws) ({ frames := 0, cells := 0, slots := 0, locals := 0 } : Room)) (fun a U => a = #[(.ref a0)] ∧ Z.Warmed39 U.vm ∧ U.heap = h0) (fun _ _ _ _ _ => True) (fun _ U o U' => ∃ v L, o = .returned v ∧ Q20_0 Z a0 cs h0 n0 v U'.heap L ∧ FrameEnd U o U' L ({ frames := 0, cells := 0, slots := 0, locals := 0 } : Room).cells ({ frames := 0, cells := 0, slots := 0, locals := 0 } : Room).slots) := by
  refine MetFree.of_bodySF (plainFor_of_name pn_3) hisR ?_
  intro p e s m args below meth c s₁ Bd hml0 hP hK
  obtain ⟨rfl, hZ, hh⟩ := hP
  have hx := Bd.exec
  have hby := Bd.bytes
  have hml : c.maxLocals = 1 := hml0
  have hown : s.vm.findClass "java/lang/String" = some m.cls := findClass_of_methodNamed Bd.named
  have hnm := (name_of_methodNamed Bd.named Bd.method).1
  have X0 : Stand p l e ({ frames := 0, cells := 0, slots := 0, locals := 0 } : Room) s m #[(.ref a0)] below meth c s₁ [] 0 0 := Stand.of_body Bd
  have e0 : s₁.heap = h0 := by rw [← hh, Bd.state]; rfl
  have N0 := Fr.nil n0
  have pre0 : ∀ t, Steps p.tables e below (s₁.setTop (mkF m 0 #[.val (.ref a0)] [])) t → Steps p.tables e below (s₁.setTop (entryFrame m #[(.ref a0)] 1)) t := fun t k => castTop (ef_20 m a0) k
  obtain ⟨T3, X3, e3, st3⟩ := getS2 X0 hx hZ hown (host := "") (Or.inl (hw _ (List.mem_of_getElem? (i := 24) rfl))) Via.refl e0 (Sta.ext O_.2 S_cs) (g := (mkF m 0 #[.val (.ref a0)] [])) rfl (hb hby d20_0)
  obtain ⟨T4, X4, e4, st4⟩ := getF X3 hx hZ hown (host := "") (Or.inl (hw _ (List.mem_of_getElem? (i := 36) rfl))) Via.refl e3 F_coder_a0 (g := (mkF m 7 #[.val (.ref a0)] [(.ref a0)])) rfl rfl (hb hby d20_7)
  obtain ⟨fs, hr, hrun, hended, hW, hsame⟩ := X4.leave (v := some (.int (1 : Int32))) (fun h => by rw [Bd.returns] at h; cases h)
  refine ⟨_, _, pre0 _ ?_, hrun, hended, _, _, rfl, ?_, ⟨_, rfl⟩, hW, hsame.mono (by decide) (by decide)⟩
  · show own_S p e below s₁ (mkF m 0 #[.val (.ref a0)] []) _
    refine st3 _ ?_
    show own_S p e below T3 (mkF m 3 #[.val (.ref a0)] [(.int cs)]) _
    refine XS.ifNo X3.here hx rfl (hb hby d20_3) rfl ((if0 _ _).trans (feq (show ¬ (cs = (0 : Int32)) from hcs)).1) ?_
    show own_S p e below T3 (mkF m 6 #[.val (.ref a0)] []) _
    refine XS.aloadN X3.here hx rfl (hb hby d20_6) rfl rfl ?_
    show own_S p e below T3 (mkF m 7 #[.val (.ref a0)] [(.ref a0)]) _
    refine st4 _ ?_
    show own_S p e below T4 (mkF m 10 #[.val (.ref a0)] [.int 0]) _
    refine XS.ifNo X4.here hx rfl (hb hby d20_10) rfl ((if0 _ _).trans (teq (by decide : (0 : Int32) = (0 : Int32))).2) ?_
    show own_S p e below T4 (mkF m 13 #[.val (.ref a0)] []) _
    refine XS.iconst X4.here hx rfl (hb hby d20_13) ?_
    show own_S p e below T4 (mkF m 14 #[.val (.ref a0)] [.int 1]) _
    refine XS.goto X4.here hx rfl (pc0 := 14) (pc' := 18) rfl (hb hby d20_14) (by decide) (by decide) ?_
    show own_S p e below T4 (mkF m 18 #[.val (.ref a0)] [.int 1]) _
    exact retN X4 hx (t := .boolean) Bd.returns (by simp) (hb hby d20_18) hr
  · show Q20_0 Z a0 cs h0 n0 _ T4.heap _
    rw [e4]
    exact ⟨rfl, N0, rfl⟩
theorem d20_17 : decode jdk_42_method_154_code 17 = .ok (.iconst 0, 1) := by decide +kernel
def Q20_1 (Z : State) (a0 : Addr) (cs : Int32) (h0 : Heap) (n0 : Nat) (v : Option Value) (h : Heap) (L : List Loc) : Prop := v = some (.int (0 : Int32)) ∧ Fr n0 L ∧ h = h0
set_option maxRecDepth 65536 in
set_option maxHeartbeats 40000000 in
theorem rm20_1 (l : Launch) (Z : State) (ag : Array Value) (hw : ∀ d ∈ tables_1, d.before ag Z = true) (ws : List Jvm.Cond) (a0 : Addr) (cs : Int32) (h0 : Heap) (n0 : Nat) (Z0 : n0 ≤ h0.size) (F_coder_a0 : Fld Z h0 a0 "java/lang/String" "coder" "B" (.int (1 : Int32))) (O_ : Old Z n0 h0) (S_cs : Sta Z Z.heap "java/lang/String" "COMPACT_STRINGS" "Z" (.int cs)) (hcs : ¬ cs = (0 : Int32)) :
    MetFree l (⟨"java/lang/String", "isLatin1", "()Z"⟩ : MethodName) (head1 (Jvm.Cond.code (⟨"java/lang/String", "isLatin1", "()Z"⟩ : MethodName) jdk_42_method_154_code 1 (some .boolean) :: ws) ({ frames := 0, cells := 0, slots := 0, locals := 0 } : Room)) (fun a U => a = #[(.ref a0)] ∧ Z.Warmed39 U.vm ∧ U.heap = h0) (fun _ _ _ _ _ => True) (fun _ U o U' => ∃ v L, o = .returned v ∧ Q20_1 Z a0 cs h0 n0 v U'.heap L ∧ FrameEnd U o U' L ({ frames := 0, cells := 0, slots := 0, locals := 0 } : Room).cells ({ frames := 0, cells := 0, slots := 0, locals := 0 } : Room).slots) := by
  refine MetFree.of_bodySF (plainFor_of_name pn_3) hisR ?_
  intro p e s m args below meth c s₁ Bd hml0 hP hK
  obtain ⟨rfl, hZ, hh⟩ := hP
  have hx := Bd.exec
  have hby := Bd.bytes
  have hml : c.maxLocals = 1 := hml0
  have hown : s.vm.findClass "java/lang/String" = some m.cls := findClass_of_methodNamed Bd.named
  have hnm := (name_of_methodNamed Bd.named Bd.method).1
  have X0 : Stand p l e ({ frames := 0, cells := 0, slots := 0, locals := 0 } : Room) s m #[(.ref a0)] below meth c s₁ [] 0 0 := Stand.of_body Bd
  have e0 : s₁.heap = h0 := by rw [← hh, Bd.state]; rfl
  have N0 := Fr.nil n0
  have pre0 : ∀ t, Steps p.tables e below (s₁.setTop (mkF m 0 #[.val (.ref a0)] [])) t → Steps p.tables e below (s₁.setTop (entryFrame m #[(.ref a0)] 1)) t := fun t k => castTop (ef_20 m a0) k
  obtain ⟨T5, X5, e5, st5⟩ := getS2 X0 hx hZ hown (host := "") (Or.inl (hw _ (List.mem_of_getElem? (i := 24) rfl))) Via.refl e0 (Sta.ext O_.2 S_cs) (g := (mkF m 0 #[.val (.ref a0)] [])) rfl (hb hby d20_0)
  obtain ⟨T6, X6, e6, st6⟩ := getF X5 hx hZ hown (host := "") (Or.inl (hw _ (List.mem_of_getElem? (i := 36) rfl))) Via.refl e5 F_coder_a0 (g := (mkF m 7 #[.val (.ref a0)] [(.ref a0)])) rfl rfl (hb hby d20_7)
  obtain ⟨fs, hr, hrun, hended, hW, hsame⟩ := X6.leave (v := some (.int (0 : Int32))) (fun h => by rw [Bd.returns] at h; cases h)
  refine ⟨_, _, pre0 _ ?_, hrun, hended, _, _, rfl, ?_, ⟨_, rfl⟩, hW, hsame.mono (by decide) (by decide)⟩
  · show own_S p e below s₁ (mkF m 0 #[.val (.ref a0)] []) _
    refine st5 _ ?_
    show own_S p e below T5 (mkF m 3 #[.val (.ref a0)] [(.int cs)]) _
    refine XS.ifNo X5.here hx rfl (hb hby d20_3) rfl ((if0 _ _).trans (feq (show ¬ (cs = (0 : Int32)) from hcs)).1) ?_
    show own_S p e below T5 (mkF m 6 #[.val (.ref a0)] []) _
    refine XS.aloadN X5.here hx rfl (hb hby d20_6) rfl rfl ?_
    show own_S p e below T5 (mkF m 7 #[.val (.ref a0)] [(.ref a0)]) _
    refine st6 _ ?_
    show own_S p e below T6 (mkF m 10 #[.val (.ref a0)] [.int 1]) _
    refine XS.ifYes X6.here hx rfl (pc0 := 10) (pc' := 17) rfl (hb hby d20_10) rfl ((if0 _ _).trans (feq (by decide : ¬ ((1 : Int32) = (0 : Int32)))).2) (by decide) (by decide) ?_
    show own_S p e below T6 (mkF m 17 #[.val (.ref a0)] []) _
    refine XS.iconst X6.here hx rfl (hb hby d20_17) ?_
    show own_S p e below T6 (mkF m 18 #[.val (.ref a0)] [.int 0]) _
    exact retN X6 hx (t := .boolean) Bd.returns (by simp) (hb hby d20_18) hr
  · show Q20_1 Z a0 cs h0 n0 _ T6.heap _
    rw [e6]
    exact ⟨rfl, N0, rfl⟩
theorem pn_4 : plainName "java/lang/StringLatin1" = true := by first | (simp [plainName, overriddenIn]; done) | decide +kernel
theorem ef_27 (m : MethodId) (a0 : Addr) (p1 : Int32) : entryFrame m #[(.ref a0), (.int p1)] 2 = mkF m 0 #[.val (.ref a0), .val (.int p1)] [] := by first | (simp [entryFrame, mkF, argsToLocals, Value.category]; done) | rfl
theorem d27_0 : decode jdk_43_method_2_code 0 = .ok (.iload_n 1, 1) := by decide +kernel
theorem d27_1 : decode jdk_43_method_2_code 1 = .ok (.aload_n 0, 1) := by decide +kernel
theorem d27_2 : decode jdk_43_method_2_code 2 = .ok (.arraylength, 1) := by decide +kernel
theorem pd_11 : parseMethodDescriptor "(II)V" = some ⟨[.int, .int], none⟩ := by decide +kernel
theorem d27_3 : decode jdk_43_method_2_code 3 = .ok (.invokestatic 9, 3) := by decide +kernel
theorem d27_6 : decode jdk_43_method_2_code 6 = .ok (.aload_n 0, 1) := by decide +kernel
theorem d27_7 : decode jdk_43_method_2_code 7 = .ok (.iload_n 1, 1) := by decide +kernel
theorem d27_8 : decode jdk_43_method_2_code 8 = .ok (.baload, 1) := by decide +kernel
theorem d27_9 : decode jdk_43_method_2_code 9 = .ok (.sipush 255, 3) := by decide +kernel
theorem d27_12 : decode jdk_43_method_2_code 12 = .ok (.iand, 1) := by decide +kernel
theorem d27_13 : decode jdk_43_method_2_code 13 = .ok (.i2c, 1) := by decide +kernel
theorem d27_14 : decode jdk_43_method_2_code 14 = .ok (.ireturn, 1) := by decide +kernel
def Q27 (Z : State) (a0 : Addr) (p1 : Int32) (kb : ClassId) (nb : Int32) (bs : List Value) (u : Int32) (gf : Value) (h0 : Heap) (n0 : Nat) (v : Option Value) (h : Heap) (L : List Loc) : Prop := v = some (.int (nar .char ((u &&& (255 : Int32)).toUInt32.toUInt16.toUInt32.toInt32))) ∧ Fr n0 L ∧ h = h0
set_option maxRecDepth 65536 in
set_option maxHeartbeats 40000000 in
theorem rm27 (l : Launch) (Z : State) (ag : Array Value) (hw : ∀ d ∈ tables_1, d.before ag Z = true) (ws : List Jvm.Cond) (a0 : Addr) (p1 : Int32) (kb : ClassId) (nb : Int32) (bs : List Value) (u : Int32) (gf : Value) (h0 : Heap) (n0 : Nat) (Z0 : n0 ≤ h0.size) (V_a0 : Arv Z h0 a0 kb .byte nb bs (.int (0 : Int32))) (h1 : ¬ p1 < (0 : Int32)) (h2 : p1 < nb) (hu : bs.getD (p1).toNatClampNeg (.int (0 : Int32)) = .int u) (O_ : Old Z n0 h0) (S_gf : Sta Z Z.heap "jdk/internal/util/Preconditions" "SIOOBE_FORMATTER" "Ljava/util/function/BiFunction;" gf) (rv_gf : gf.isRef = true) :
    MetFree l (⟨"java/lang/StringLatin1", "charAt", "([BI)C"⟩ : MethodName) (head1 (Jvm.Cond.code (⟨"java/lang/StringLatin1", "charAt", "([BI)C"⟩ : MethodName) jdk_43_method_2_code 2 (some .char) :: ws) ({ frames := 2, cells := 0, slots := 0, locals := 27 } : Room)) (fun a U => a = #[(.ref a0), (.int p1)] ∧ Z.Warmed39 U.vm ∧ U.heap = h0) (fun _ _ _ _ _ => True) (fun _ U o U' => ∃ v L, o = .returned v ∧ Q27 Z a0 p1 kb nb bs u gf h0 n0 v U'.heap L ∧ FrameEnd U o U' L ({ frames := 2, cells := 0, slots := 0, locals := 27 } : Room).cells ({ frames := 2, cells := 0, slots := 0, locals := 27 } : Room).slots) := by
  refine MetFree.of_bodySF (plainFor_of_name pn_4) hisR ?_
  intro p e s m args below meth c s₁ Bd hml0 hP hK
  obtain ⟨rfl, hZ, hh⟩ := hP
  have hx := Bd.exec
  have hby := Bd.bytes
  have hml : c.maxLocals = 2 := hml0
  have hown : s.vm.findClass "java/lang/StringLatin1" = some m.cls := findClass_of_methodNamed Bd.named
  have hnm := (name_of_methodNamed Bd.named Bd.method).1
  have X0 : Stand p l e ({ frames := 2, cells := 0, slots := 0, locals := 27 } : Room) s m #[(.ref a0), (.int p1)] below meth c s₁ [] 0 0 := Stand.of_body Bd
  have e0 : s₁.heap = h0 := by rw [← hh, Bd.state]; rfl
  have N0 := Fr.nil n0
  have pre0 : ∀ t, Steps p.tables e below (s₁.setTop (mkF m 0 #[.val (.ref a0), .val (.int p1)] [])) t → Steps p.tables e below (s₁.setTop (entryFrame m #[(.ref a0), (.int p1)] 2)) t := fun t k => castTop (ef_27 m a0 p1) k
  obtain ⟨cl7, Ar7, -, S7, M7, -, -⟩ := id V_a0
  have ld7 := X0.arraylength hx (by rw [e0]; exact Ar7.1) (State.isArrayOf_alike hZ.alike Ar7.2.1) (g := (mkF m 2 #[.val (.ref a0), .val (.int p1)] [(.ref a0), (.int p1)])) rfl rfl (hb hby d27_2)
  obtain ⟨_, _, ⟨T8, L8, k8, n8⟩, -, X8, ⟨Lc8, hQ8, l8, y8, z8⟩, st8⟩ := Jvm.LawKit.callS X0 hx (y := (⟨"java/lang/String", "checkIndex", "(II)V"⟩ : MethodName)) hown (mvT hZ (hw _ (List.mem_of_getElem? (i := 113) rfl))) (mvT hZ (hw _ (List.mem_of_getElem? (i := 99) rfl))) (mvT hZ (hw _ (List.mem_of_getElem? (i := 12) rfl))) (mvT hZ (hw _ (List.mem_of_getElem? (i := 100) rfl))) (by decide) (backOf (W := 0) (rm24 l Z ag hw [] p1 nb gf h0 n0 Z0 h1 h2 O_ S_gf rv_gf) hZ (hw _ (List.mem_of_getElem? (i := 100) rfl)) (hw _ (List.mem_of_getElem? (i := 12) rfl)) (by decide) (by decide)) (g := (mkF m 3 #[.val (.ref a0), .val (.int p1)] [(.int nb), (.int p1)])) rfl (by rw [hml]; rfl) (argsL := [(.int p1), (.int nb)]) (rest := []) (lenOf pd_11 rfl) rfl (by show 2 * 0 + _ ≤ _; exact Nat.le_of_eq rfl) (hb hby d27_3) (fun _ _ => ⟨rfl, e0, (by decide : 0 + 0 ≤ _), (by decide : 0 + 0 ≤ _)⟩)
  dsimp only [Pt.U, Pt.locs, Pt.cells, Pt.slots] at X8 l8 y8 z8 st8 hQ8
  subst l8 y8 z8
  obtain ⟨rfl, N8q, e8⟩ := hQ8
  have N8 := Fr.app N0 N8q
  obtain ⟨cl9, Ar9, q9, S9, M9, H9, G9⟩ := id V_a0
  have hin9 : ¬ (p1 < 0 ∨ cl9.slots.size ≤ (p1).toNatClampNeg) := inb_of S9 ⟨h1, h2⟩
  have hat9 : cl9.slots[(p1).toNatClampNeg]? = some (.int u) := Has.at H9 hin9 hu
  have ld9 := X8.baloadBytes hx (j := p1) (v := (.int u)) (by rw [e8]; exact Ar9.1) (State.isArrayOf_alike hZ.alike Ar9.2.1) Ar9.2.2 hin9 hat9 (g := (mkF m 8 #[.val (.ref a0), .val (.int p1)] [(.int p1), (.ref a0)])) rfl rfl (hb hby d27_8)
  obtain ⟨fs, hr, hrun, hended, hW, hsame⟩ := X8.leave (v := some (.int (nar .char ((u &&& (255 : Int32)).toUInt32.toUInt16.toUInt32.toInt32)))) (fun h => by rw [Bd.returns] at h; cases h)
  refine ⟨_, _, pre0 _ ?_, hrun, hended, _, _, rfl, ?_, ⟨_, rfl⟩, hW, hsame.mono (by decide) (by decide)⟩
  · show own_S p e below s₁ (mkF m 0 #[.val (.ref a0), .val (.int p1)] []) _
    refine XS.iloadN X0.here hx rfl (hb hby d27_0) rfl ?_
    show own_S p e below s₁ (mkF m 1 #[.val (.ref a0), .val (.int p1)] [(.int p1)]) _
    refine XS.aloadN X0.here hx rfl (hb hby d27_1) rfl rfl ?_
    show own_S p e below s₁ (mkF m 2 #[.val (.ref a0), .val (.int p1)] [(.ref a0), (.int p1)]) _
    refine ld7 _ ?_
    rw [len_of S7 M7]
    show own_S p e below s₁ (mkF m 3 #[.val (.ref a0), .val (.int p1)] [(.int nb), (.int p1)]) _
    refine st8 _ ?_
    show own_S p e below T8 (mkF m 6 #[.val (.ref a0), .val (.int p1)] []) _
    refine XS.aloadN X8.here hx rfl (hb hby d27_6) rfl rfl ?_
    show own_S p e below T8 (mkF m 7 #[.val (.ref a0), .val (.int p1)] [(.ref a0)]) _
    refine XS.iloadN X8.here hx rfl (hb hby d27_7) rfl ?_
    show own_S p e below T8 (mkF m 8 #[.val (.ref a0), .val (.int p1)] [(.int p1), (.ref a0)]) _
    refine ld9 _ ?_
    show own_S p e below T8 (mkF m 9 #[.val (.ref a0), .val (.int p1)] [(.int u)]) _
    refine XS.sipush X8.here hx rfl (hb hby d27_9) ?_
    show own_S p e below T8 (mkF m 12 #[.val (.ref a0), .val (.int p1)] [.int 255, (.int u)]) _
    refine XS.iand X8.here hx rfl (hb hby d27_12) rfl ?_
    show own_S p e below T8 (mkF m 13 #[.val (.ref a0), .val (.int p1)] [(.int (u &&& (255 : Int32)))]) _
    refine XS.i2c X8.here hx rfl (hb hby d27_13) rfl ?_
    show own_S p e below T8 (mkF m 14 #[.val (.ref a0), .val (.int p1)] [(.int ((u &&& (255 : Int32)).toUInt32.toUInt16.toUInt32.toInt32))]) _
    exact retN X8 hx (t := .char) Bd.returns (by simp) (hb hby d27_14) hr
  · show Q27 Z a0 p1 kb nb bs u gf h0 n0 _ T8.heap _
    rw [e8]
    exact ⟨rfl, N8, rfl⟩
theorem ef_12 (m : MethodId) (a0 : Addr) : entryFrame m #[(.ref a0)] 1 = mkF m 0 #[.val (.ref a0)] [] := by first | (simp [entryFrame, mkF, argsToLocals, Value.category]; done) | rfl
theorem d12_0 : decode jdk_42_method_152_code 0 = .ok (.getstatic 38, 3) := by decide +kernel
theorem d12_3 : decode jdk_42_method_152_code 3 = .ok (.ifCond .eq 10, 3) := by decide +kernel
theorem d12_6 : decode jdk_42_method_152_code 6 = .ok (.aload_n 0, 1) := by decide +kernel
theorem d12_7 : decode jdk_42_method_152_code 7 = .ok (.getfield 15, 3) := by decide +kernel
theorem d12_10 : decode jdk_42_method_152_code 10 = .ok (.goto 4, 3) := by decide +kernel
theorem d12_14 : decode jdk_42_method_152_code 14 = .ok (.ireturn, 1) := by decide +kernel
def Q12 (Z : State) (a0 : Addr) (cd : Int32) (cs : Int32) (h0 : Heap) (n0 : Nat) (v : Option Value) (h : Heap) (L : List Loc) : Prop := v = some (.int (nar .byte cd)) ∧ Fr n0 L ∧ h = h0
set_option maxRecDepth 65536 in
set_option maxHeartbeats 40000000 in
theorem rm12 (l : Launch) (Z : State) (ag : Array Value) (hw : ∀ d ∈ tables_1, d.before ag Z = true) (ws : List Jvm.Cond) (a0 : Addr) (cd : Int32) (cs : Int32) (h0 : Heap) (n0 : Nat) (Z0 : n0 ≤ h0.size) (F_coder_a0 : Fld Z h0 a0 "java/lang/String" "coder" "B" (.int cd)) (O_ : Old Z n0 h0) (S_cs : Sta Z Z.heap "java/lang/String" "COMPACT_STRINGS" "Z" (.int cs)) (hcs : ¬ cs = (0 : Int32)) :
    MetFree l (⟨"java/lang/String", "coder", "()B"⟩ : MethodName) (head1 (Jvm.Cond.code (⟨"java/lang/String", "coder", "()B"⟩ : MethodName) jdk_42_method_152_code 1 (some .byte) :: ws) ({ frames := 0, cells := 0, slots := 0, locals := 0 } : Room)) (fun a U => a = #[(.ref a0)] ∧ Z.Warmed39 U.vm ∧ U.heap = h0) (fun _ _ _ _ _ => True) (fun _ U o U' => ∃ v L, o = .returned v ∧ Q12 Z a0 cd cs h0 n0 v U'.heap L ∧ FrameEnd U o U' L ({ frames := 0, cells := 0, slots := 0, locals := 0 } : Room).cells ({ frames := 0, cells := 0, slots := 0, locals := 0 } : Room).slots) := by
  refine MetFree.of_bodySF (plainFor_of_name pn_3) hisR ?_
  intro p e s m args below meth c s₁ Bd hml0 hP hK
  obtain ⟨rfl, hZ, hh⟩ := hP
  have hx := Bd.exec
  have hby := Bd.bytes
  have hml : c.maxLocals = 1 := hml0
  have hown : s.vm.findClass "java/lang/String" = some m.cls := findClass_of_methodNamed Bd.named
  have hnm := (name_of_methodNamed Bd.named Bd.method).1
  have X0 : Stand p l e ({ frames := 0, cells := 0, slots := 0, locals := 0 } : Room) s m #[(.ref a0)] below meth c s₁ [] 0 0 := Stand.of_body Bd
  have e0 : s₁.heap = h0 := by rw [← hh, Bd.state]; rfl
  have N0 := Fr.nil n0
  have pre0 : ∀ t, Steps p.tables e below (s₁.setTop (mkF m 0 #[.val (.ref a0)] [])) t → Steps p.tables e below (s₁.setTop (entryFrame m #[(.ref a0)] 1)) t := fun t k => castTop (ef_12 m a0) k
  obtain ⟨T10, X10, e10, st10⟩ := getS2 X0 hx hZ hown (host := "") (Or.inl (hw _ (List.mem_of_getElem? (i := 24) rfl))) Via.refl e0 (Sta.ext O_.2 S_cs) (g := (mkF m 0 #[.val (.ref a0)] [])) rfl (hb hby d12_0)
  obtain ⟨T11, X11, e11, st11⟩ := getF X10 hx hZ hown (host := "") (Or.inl (hw _ (List.mem_of_getElem? (i := 36) rfl))) Via.refl e10 F_coder_a0 (g := (mkF m 7 #[.val (.ref a0)] [(.ref a0)])) rfl rfl (hb hby d12_7)
  obtain ⟨fs, hr, hrun, hended, hW, hsame⟩ := X11.leave (v := some (.int (nar .byte cd))) (fun h => by rw [Bd.returns] at h; cases h)
  refine ⟨_, _, pre0 _ ?_, hrun, hended, _, _, rfl, ?_, ⟨_, rfl⟩, hW, hsame.mono (by decide) (by decide)⟩
  · show own_S p e below s₁ (mkF m 0 #[.val (.ref a0)] []) _
    refine st10 _ ?_
    show own_S p e below T10 (mkF m 3 #[.val (.ref a0)] [(.int cs)]) _
    refine XS.ifNo X10.here hx rfl (hb hby d12_3) rfl ((if0 _ _).trans (feq (show ¬ (cs = (0 : Int32)) from hcs)).1) ?_
    show own_S p e below T10 (mkF m 6 #[.val (.ref a0)] []) _
    refine XS.aloadN X10.here hx rfl (hb hby d12_6) rfl rfl ?_
    show own_S p e below T10 (mkF m 7 #[.val (.ref a0)] [(.ref a0)]) _
    refine st11 _ ?_
    show own_S p e below T11 (mkF m 10 #[.val (.ref a0)] [(.int cd)]) _
    refine XS.goto X11.here hx rfl (pc0 := 10) (pc' := 14) rfl (hb hby d12_10) (by decide) (by decide) ?_
    show own_S p e below T11 (mkF m 14 #[.val (.ref a0)] [(.int cd)]) _
    exact retN X11 hx (t := .byte) Bd.returns (by simp) (hb hby d12_14) hr
  · show Q12 Z a0 cd cs h0 n0 _ T11.heap _
    rw [e11]
    exact ⟨rfl, N0, rfl⟩
theorem pn_5 : plainName "java/lang/StringUTF16" = true := by first | (simp [plainName, overriddenIn]; done) | decide +kernel
theorem ef_23 (m : MethodId) (a0 : Addr) : entryFrame m #[(.ref a0)] 1 = mkF m 0 #[.val (.ref a0)] [] := by first | (simp [entryFrame, mkF, argsToLocals, Value.category]; done) | rfl
theorem d23_0 : decode jdk_52_method_6_code 0 = .ok (.aload_n 0, 1) := by decide +kernel
theorem d23_1 : decode jdk_52_method_6_code 1 = .ok (.arraylength, 1) := by decide +kernel
theorem d23_2 : decode jdk_52_method_6_code 2 = .ok (.iconst 1, 1) := by decide +kernel
theorem d23_3 : decode jdk_52_method_6_code 3 = .ok (.ishr, 1) := by decide +kernel
theorem d23_4 : decode jdk_52_method_6_code 4 = .ok (.ireturn, 1) := by decide +kernel
def Q23 (Z : State) (a0 : Addr) (kb : ClassId) (nb : Int32) (bs : List Value) (h0 : Heap) (n0 : Nat) (v : Option Value) (h : Heap) (L : List Loc) : Prop := v = some (.int (nb >>> ((1 : Int32) &&& 31))) ∧ Fr n0 L ∧ h = h0
set_option maxRecDepth 65536 in
set_option maxHeartbeats 40000000 in
theorem rm23 (l : Launch) (Z : State) (ag : Array Value) (hw : ∀ d ∈ tables_1, d.before ag Z = true) (ws : List Jvm.Cond) (a0 : Addr) (kb : ClassId) (nb : Int32) (bs : List Value) (h0 : Heap) (n0 : Nat) (Z0 : n0 ≤ h0.size) (V_a0 : Arv Z h0 a0 kb .byte nb bs (.int (0 : Int32))) :
    MetFree l (⟨"java/lang/StringUTF16", "length", "([B)I"⟩ : MethodName) (head1 (Jvm.Cond.code (⟨"java/lang/StringUTF16", "length", "([B)I"⟩ : MethodName) jdk_52_method_6_code 1 (some .int) :: ws) ({ frames := 0, cells := 0, slots := 0, locals := 0 } : Room)) (fun a U => a = #[(.ref a0)] ∧ Z.Warmed39 U.vm ∧ U.heap = h0) (fun _ _ _ _ _ => True) (fun _ U o U' => ∃ v L, o = .returned v ∧ Q23 Z a0 kb nb bs h0 n0 v U'.heap L ∧ FrameEnd U o U' L ({ frames := 0, cells := 0, slots := 0, locals := 0 } : Room).cells ({ frames := 0, cells := 0, slots := 0, locals := 0 } : Room).slots) := by
  refine MetFree.of_bodySF (plainFor_of_name pn_5) hisR ?_
  intro p e s m args below meth c s₁ Bd hml0 hP hK
  obtain ⟨rfl, hZ, hh⟩ := hP
  have hx := Bd.exec
  have hby := Bd.bytes
  have hml : c.maxLocals = 1 := hml0
  have hown : s.vm.findClass "java/lang/StringUTF16" = some m.cls := findClass_of_methodNamed Bd.named
  have hnm := (name_of_methodNamed Bd.named Bd.method).1
  have X0 : Stand p l e ({ frames := 0, cells := 0, slots := 0, locals := 0 } : Room) s m #[(.ref a0)] below meth c s₁ [] 0 0 := Stand.of_body Bd
  have e0 : s₁.heap = h0 := by rw [← hh, Bd.state]; rfl
  have N0 := Fr.nil n0
  have pre0 : ∀ t, Steps p.tables e below (s₁.setTop (mkF m 0 #[.val (.ref a0)] [])) t → Steps p.tables e below (s₁.setTop (entryFrame m #[(.ref a0)] 1)) t := fun t k => castTop (ef_23 m a0) k
  obtain ⟨cl12, Ar12, -, S12, M12, -, -⟩ := id V_a0
  have ld12 := X0.arraylength hx (by rw [e0]; exact Ar12.1) (State.isArrayOf_alike hZ.alike Ar12.2.1) (g := (mkF m 1 #[.val (.ref a0)] [(.ref a0)])) rfl rfl (hb hby d23_1)
  obtain ⟨fs, hr, hrun, hended, hW, hsame⟩ := X0.leave (v := some (.int (nb >>> ((1 : Int32) &&& 31)))) (fun h => by rw [Bd.returns] at h; cases h)
  refine ⟨_, _, pre0 _ ?_, hrun, hended, _, _, rfl, ?_, ⟨_, rfl⟩, hW, hsame.mono (by decide) (by decide)⟩
  · show own_S p e below s₁ (mkF m 0 #[.val (.ref a0)] []) _
    refine XS.aloadN X0.here hx rfl (hb hby d23_0) rfl rfl ?_
    show own_S p e below s₁ (mkF m 1 #[.val (.ref a0)] [(.ref a0)]) _
    refine ld12 _ ?_
    rw [len_of S12 M12]
    show own_S p e below s₁ (mkF m 2 #[.val (.ref a0)] [(.int nb)]) _
    refine XS.iconst X0.here hx rfl (hb hby d23_2) ?_
    show own_S p e below s₁ (mkF m 3 #[.val (.ref a0)] [.int 1, (.int nb)]) _
    refine XS.ishr X0.here hx rfl (hb hby d23_3) rfl ?_
    show own_S p e below s₁ (mkF m 4 #[.val (.ref a0)] [(.int (nb >>> ((1 : Int32) &&& 31)))]) _
    exact retI X0 hx Bd.returns (hb hby d23_4) hr
  · show Q23 Z a0 kb nb bs h0 n0 _ s₁.heap _
    rw [e0]
    exact ⟨rfl, N0, rfl⟩
theorem ef_22 (m : MethodId) (p0 : Int32) (a1 : Addr) : entryFrame m #[(.int p0), (.ref a1)] 2 = mkF m 0 #[.val (.int p0), .val (.ref a1)] [] := by first | (simp [entryFrame, mkF, argsToLocals, Value.category]; done) | rfl
theorem d22_0 : decode jdk_52_method_91_code 0 = .ok (.iload_n 0, 1) := by decide +kernel
theorem d22_1 : decode jdk_52_method_91_code 1 = .ok (.aload_n 1, 1) := by decide +kernel
theorem pd_15 : parseMethodDescriptor "([B)I" = some ⟨[(.array .byte)], some .int⟩ := by decide +kernel
theorem d22_2 : decode jdk_52_method_91_code 2 = .ok (.invokestatic 48, 3) := by decide +kernel
theorem d22_5 : decode jdk_52_method_91_code 5 = .ok (.invokestatic 414, 3) := by decide +kernel
theorem d22_8 : decode jdk_52_method_91_code 8 = .ok (.return_, 1) := by decide +kernel
def Q22 (Z : State) (p0 : Int32) (a1 : Addr) (kb : ClassId) (nb : Int32) (bs : List Value) (gf : Value) (h0 : Heap) (n0 : Nat) (v : Option Value) (h : Heap) (L : List Loc) : Prop := v = none ∧ Fr n0 L ∧ h = h0
set_option maxRecDepth 65536 in
set_option maxHeartbeats 40000000 in
theorem rm22 (l : Launch) (Z : State) (ag : Array Value) (hw : ∀ d ∈ tables_1, d.before ag Z = true) (ws : List Jvm.Cond) (p0 : Int32) (a1 : Addr) (kb : ClassId) (nb : Int32) (bs : List Value) (gf : Value) (h0 : Heap) (n0 : Nat) (Z0 : n0 ≤ h0.size) (V_a1 : Arv Z h0 a1 kb .byte nb bs (.int (0 : Int32))) (h1 : ¬ p0 < (0 : Int32)) (h2 : p0 < (nb >>> ((1 : Int32) &&& 31))) (O_ : Old Z n0 h0) (S_gf : Sta Z Z.heap "jdk/internal/util/Preconditions" "SIOOBE_FORMATTER" "Ljava/util/function/BiFunction;" gf) (rv_gf : gf.isRef = true) :
    MetFree l (⟨"java/lang/StringUTF16", "checkIndex", "(I[B)V"⟩ : MethodName) (head1 (Jvm.Cond.code (⟨"java/lang/StringUTF16", "checkIndex", "(I[B)V"⟩ : MethodName) jdk_52_method_91_code 2 none :: ws) ({ frames := 2, cells := 0, slots := 0, locals := 27 } : Room)) (fun a U => a = #[(.int p0), (.ref a1)] ∧ Z.Warmed39 U.vm ∧ U.heap = h0) (fun _ _ _ _ _ => True) (fun _ U o U' => ∃ v L, o = .returned v ∧ Q22 Z p0 a1 kb nb bs gf h0 n0 v U'.heap L ∧ FrameEnd U o U' L ({ frames := 2, cells := 0, slots := 0, locals := 27 } : Room).cells ({ frames := 2, cells := 0, slots := 0, locals := 27 } : Room).slots) := by
  refine MetFree.of_bodySF (plainFor_of_name pn_5) hisR ?_
  intro p e s m args below meth c s₁ Bd hml0 hP hK
  obtain ⟨rfl, hZ, hh⟩ := hP
  have hx := Bd.exec
  have hby := Bd.bytes
  have hml : c.maxLocals = 2 := hml0
  have hown : s.vm.findClass "java/lang/StringUTF16" = some m.cls := findClass_of_methodNamed Bd.named
  have hnm := (name_of_methodNamed Bd.named Bd.method).1
  have X0 : Stand p l e ({ frames := 2, cells := 0, slots := 0, locals := 27 } : Room) s m #[(.int p0), (.ref a1)] below meth c s₁ [] 0 0 := Stand.of_body Bd
  have e0 : s₁.heap = h0 := by rw [← hh, Bd.state]; rfl
  have N0 := Fr.nil n0
  have pre0 : ∀ t, Steps p.tables e below (s₁.setTop (mkF m 0 #[.val (.int p0), .val (.ref a1)] [])) t → Steps p.tables e below (s₁.setTop (entryFrame m #[(.int p0), (.ref a1)] 2)) t := fun t k => castTop (ef_22 m p0 a1) k
  obtain ⟨_, _, ⟨T13, L13, k13, n13⟩, -, X13, ⟨Lc13, hQ13, l13, y13, z13⟩, st13⟩ := Jvm.LawKit.callS X0 hx (y := (⟨"java/lang/StringUTF16", "length", "([B)I"⟩ : MethodName)) hown (mvT hZ (hw _ (List.mem_of_getElem? (i := 95) rfl))) (mvT hZ (hw _ (List.mem_of_getElem? (i := 96) rfl))) (mvT hZ (hw _ (List.mem_of_getElem? (i := 27) rfl))) (mvT hZ (hw _ (List.mem_of_getElem? (i := 97) rfl))) (by decide) (backOf (W := 1) (rm23 l Z ag hw [] a1 kb nb bs h0 n0 Z0 V_a1) hZ (hw _ (List.mem_of_getElem? (i := 97) rfl)) (hw _ (List.mem_of_getElem? (i := 27) rfl)) (by decide) (by decide)) (g := (mkF m 2 #[.val (.int p0), .val (.ref a1)] [(.ref a1), (.int p0)])) rfl (by rw [hml]; rfl) (argsL := [(.ref a1)]) (rest := [(.int p0)]) (lenOf pd_15 rfl) rfl (by show 2 * 0 + _ ≤ _; exact Nat.le_of_eq rfl) (hb hby d22_2) (fun _ _ => ⟨rfl, e0, (by decide : 0 + 0 ≤ _), (by decide : 0 + 0 ≤ _)⟩)
  dsimp only [Pt.U, Pt.locs, Pt.cells, Pt.slots] at X13 l13 y13 z13 st13 hQ13
  subst l13 y13 z13
  obtain ⟨rfl, N13q, e13⟩ := hQ13
  have N13 := Fr.app N0 N13q
  obtain ⟨_, _, ⟨T14, L14, k14, n14⟩, -, X14, ⟨Lc14, hQ14, l14, y14, z14⟩, st14⟩ := Jvm.LawKit.callS X13 hx (y := (⟨"java/lang/String", "checkIndex", "(II)V"⟩ : MethodName)) hown (mvT hZ (hw _ (List.mem_of_getElem? (i := 98) rfl))) (mvT hZ (hw _ (List.mem_of_getElem? (i := 99) rfl))) (mvT hZ (hw _ (List.mem_of_getElem? (i := 12) rfl))) (mvT hZ (hw _ (List.mem_of_getElem? (i := 100) rfl))) (by decide) (backOf (W := 0) (rm24 l Z ag hw [] p0 (nb >>> ((1 : Int32) &&& 31)) gf h0 n0 Z0 h1 h2 O_ S_gf rv_gf) hZ (hw _ (List.mem_of_getElem? (i := 100) rfl)) (hw _ (List.mem_of_getElem? (i := 12) rfl)) (by decide) (by decide)) (g := (mkF m 5 #[.val (.int p0), .val (.ref a1)] [(.int (nb >>> ((1 : Int32) &&& 31))), (.int p0)])) rfl (by rw [hml]; rfl) (argsL := [(.int p0), (.int (nb >>> ((1 : Int32) &&& 31)))]) (rest := []) (lenOf pd_11 rfl) rfl (by show 2 * 0 + _ ≤ _; exact Nat.le_of_eq rfl) (hb hby d22_5) (fun _ _ => ⟨rfl, e13, (by decide : 0 + 0 ≤ _), (by decide : 0 + 0 ≤ _)⟩)
  dsimp only [Pt.U, Pt.locs, Pt.cells, Pt.slots] at X14 l14 y14 z14 st14 hQ14
  subst l14 y14 z14
  obtain ⟨rfl, N14q, e14⟩ := hQ14
  have N14 := Fr.app N13 N14q
  obtain ⟨fs, hr, hrun, hended, hW, hsame⟩ := X14.leave (v := none) (fun _ => rfl)
  refine ⟨_, _, pre0 _ ?_, hrun, hended, _, _, rfl, ?_, ⟨_, rfl⟩, hW, hsame.mono (by decide) (by decide)⟩
  · show own_S p e below s₁ (mkF m 0 #[.val (.int p0), .val (.ref a1)] []) _
    refine XS.iloadN X0.here hx rfl (hb hby d22_0) rfl ?_
    show own_S p e below s₁ (mkF m 1 #[.val (.int p0), .val (.ref a1)] [(.int p0)]) _
    refine XS.aloadN X0.here hx rfl (hb hby d22_1) rfl rfl ?_
    show own_S p e below s₁ (mkF m 2 #[.val (.int p0), .val (.ref a1)] [(.ref a1), (.int p0)]) _
    refine st13 _ ?_
    show own_S p e below T13 (mkF m 5 #[.val (.int p0), .val (.ref a1)] [(.int (nb >>> ((1 : Int32) &&& 31))), (.int p0)]) _
    refine st14 _ ?_
    show own_S p e below T14 (mkF m 8 #[.val (.int p0), .val (.ref a1)] []) _
    exact X14.returnOut hx Bd.returns (hb hby d22_8) hr
  · show Q22 Z p0 a1 kb nb bs gf h0 n0 _ T14.heap _
    rw [e14]
    exact ⟨rfl, N14, rfl⟩
theorem ef_17 (m : MethodId) (a0 : Addr) (p1 : Int32) : entryFrame m #[(.ref a0), (.int p1)] 2 = mkF m 0 #[.val (.ref a0), .val (.int p1)] [] := by first | (simp [entryFrame, mkF, argsToLocals, Value.category]; done) | rfl
theorem d17_0 : decode jdk_52_method_5_code 0 = .ok (.getstatic 44, 3) := by decide +kernel
theorem d17_3 : decode jdk_52_method_5_code 3 = .ok (.ifCond .ne 25, 3) := by decide +kernel
theorem d17_28 : decode jdk_52_method_5_code 28 = .ok (.iload_n 1, 1) := by decide +kernel
theorem d17_29 : decode jdk_52_method_5_code 29 = .ok (.iconst 1, 1) := by decide +kernel
theorem d17_30 : decode jdk_52_method_5_code 30 = .ok (.ishl, 1) := by decide +kernel
theorem d17_31 : decode jdk_52_method_5_code 31 = .ok (.istore_n 1, 1) := by decide +kernel
theorem d17_32 : decode jdk_52_method_5_code 32 = .ok (.aload_n 0, 1) := by decide +kernel
theorem d17_33 : decode jdk_52_method_5_code 33 = .ok (.iload_n 1, 1) := by decide +kernel
theorem d17_34 : decode jdk_52_method_5_code 34 = .ok (.iinc 1 1, 3) := by decide +kernel
theorem d17_37 : decode jdk_52_method_5_code 37 = .ok (.baload, 1) := by decide +kernel
theorem d17_38 : decode jdk_52_method_5_code 38 = .ok (.sipush 255, 3) := by decide +kernel
theorem d17_41 : decode jdk_52_method_5_code 41 = .ok (.iand, 1) := by decide +kernel
theorem d17_42 : decode jdk_52_method_5_code 42 = .ok (.getstatic 59, 3) := by decide +kernel
theorem d17_45 : decode jdk_52_method_5_code 45 = .ok (.ishl, 1) := by decide +kernel
theorem d17_46 : decode jdk_52_method_5_code 46 = .ok (.aload_n 0, 1) := by decide +kernel
theorem d17_47 : decode jdk_52_method_5_code 47 = .ok (.iload_n 1, 1) := by decide +kernel
theorem d17_48 : decode jdk_52_method_5_code 48 = .ok (.baload, 1) := by decide +kernel
theorem d17_49 : decode jdk_52_method_5_code 49 = .ok (.sipush 255, 3) := by decide +kernel
theorem d17_52 : decode jdk_52_method_5_code 52 = .ok (.iand, 1) := by decide +kernel
theorem d17_53 : decode jdk_52_method_5_code 53 = .ok (.getstatic 63, 3) := by decide +kernel
theorem d17_56 : decode jdk_52_method_5_code 56 = .ok (.ishl, 1) := by decide +kernel
theorem d17_57 : decode jdk_52_method_5_code 57 = .ok (.ior, 1) := by decide +kernel
theorem d17_58 : decode jdk_52_method_5_code 58 = .ok (.i2c, 1) := by decide +kernel
theorem d17_59 : decode jdk_52_method_5_code 59 = .ok (.ireturn, 1) := by decide +kernel
def Q17 (Z : State) (a0 : Addr) (p1 : Int32) (kb : ClassId) (nb : Int32) (bs : List Value) (u : Int32) (x : Int32) (h0 : Heap) (n0 : Nat) (v : Option Value) (h : Heap) (L : List Loc) : Prop := v = some (.int (nar .char ((((u &&& (255 : Int32)) <<< ((0 : Int32) &&& 31)) ||| ((x &&& (255 : Int32)) <<< ((8 : Int32) &&& 31))).toUInt32.toUInt16.toUInt32.toInt32))) ∧ Fr n0 L ∧ h = h0
set_option maxRecDepth 65536 in
set_option maxHeartbeats 40000000 in
theorem rm17 (l : Launch) (Z : State) (ag : Array Value) (hw : ∀ d ∈ tables_1, d.before ag Z = true) (ws : List Jvm.Cond) (a0 : Addr) (p1 : Int32) (kb : ClassId) (nb : Int32) (bs : List Value) (u : Int32) (x : Int32) (h0 : Heap) (n0 : Nat) (Z0 : n0 ≤ h0.size) (V_a0 : Arv Z h0 a0 kb .byte nb bs (.int (0 : Int32))) (hj : ¬ (p1 <<< ((1 : Int32) &&& 31)) < 0 ∧ (p1 <<< ((1 : Int32) &&& 31)) < nb) (hj1 : ¬ ((p1 <<< ((1 : Int32) &&& 31)) + (1 : Int32)) < 0 ∧ ((p1 <<< ((1 : Int32) &&& 31)) + (1 : Int32)) < nb) (hu : bs.getD ((p1 <<< ((1 : Int32) &&& 31))).toNatClampNeg (.int (0 : Int32)) = .int u) (hx_ : bs.getD (((p1 <<< ((1 : Int32) &&& 31)) + (1 : Int32))).toNatClampNeg (.int (0 : Int32)) = .int x) (O_ : Old Z n0 h0) (S_ad : Sta Z Z.heap "java/lang/StringUTF16" "$assertionsDisabled" "Z" (.int (1 : Int32))) (S_hi : Sta Z Z.heap "java/lang/StringUTF16" "HI_BYTE_SHIFT" "I" (.int (0 : Int32))) (S_lo : Sta Z Z.heap "java/lang/StringUTF16" "LO_BYTE_SHIFT" "I" (.int (8 : Int32))) :
    MetFree l (⟨"java/lang/StringUTF16", "getChar", "([BI)C"⟩ : MethodName) (head1 (Jvm.Cond.code (⟨"java/lang/StringUTF16", "getChar", "([BI)C"⟩ : MethodName) jdk_52_method_5_code 2 (some .char) :: ws) ({ frames := 0, cells := 0, slots := 0, locals := 0 } : Room)) (fun a U => a = #[(.ref a0), (.int p1)] ∧ Z.Warmed39 U.vm ∧ U.heap = h0) (fun _ _ _ _ _ => True) (fun _ U o U' => ∃ v L, o = .returned v ∧ Q17 Z a0 p1 kb nb bs u x h0 n0 v U'.heap L ∧ FrameEnd U o U' L ({ frames := 0, cells := 0, slots := 0, locals := 0 } : Room).cells ({ frames := 0, cells := 0, slots := 0, locals := 0 } : Room).slots) := by
  refine MetFree.of_bodySF (plainFor_of_name pn_5) hisR ?_
  intro p e s m args below meth c s₁ Bd hml0 hP hK
  obtain ⟨rfl, hZ, hh⟩ := hP
  have hx := Bd.exec
  have hby := Bd.bytes
  have hml : c.maxLocals = 2 := hml0
  have hown : s.vm.findClass "java/lang/StringUTF16" = some m.cls := findClass_of_methodNamed Bd.named
  have hnm := (name_of_methodNamed Bd.named Bd.method).1
  have X0 : Stand p l e ({ frames := 0, cells := 0, slots := 0, locals := 0 } : Room) s m #[(.ref a0), (.int p1)] below meth c s₁ [] 0 0 := Stand.of_body Bd
  have e0 : s₁.heap = h0 := by rw [← hh, Bd.state]; rfl
  have N0 := Fr.nil n0
  have pre0 : ∀ t, Steps p.tables e below (s₁.setTop (mkF m 0 #[.val (.ref a0), .val (.int p1)] [])) t → Steps p.tables e below (s₁.setTop (entryFrame m #[(.ref a0), (.int p1)] 2)) t := fun t k => castTop (ef_17 m a0 p1) k
  obtain ⟨T15, X15, e15, st15⟩ := getS2 X0 hx hZ hown (host := "") (Or.inl (hw _ (List.mem_of_getElem? (i := 70) rfl))) Via.refl e0 (Sta.ext O_.2 S_ad) (g := (mkF m 0 #[.val (.ref a0), .val (.int p1)] [])) rfl (hb hby d17_0)
  obtain ⟨cl16, Ar16, q16, S16, M16, H16, G16⟩ := id V_a0
  have hin16 : ¬ ((p1 <<< ((1 : Int32) &&& 31)) < 0 ∨ cl16.slots.size ≤ ((p1 <<< ((1 : Int32) &&& 31))).toNatClampNeg) := inb_of S16 hj
  have hat16 : cl16.slots[((p1 <<< ((1 : Int32) &&& 31))).toNatClampNeg]? = some (.int u) := Has.at H16 hin16 hu
  have ld16 := X15.baloadBytes hx (j := (p1 <<< ((1 : Int32) &&& 31))) (v := (.int u)) (by rw [e15]; exact Ar16.1) (State.isArrayOf_alike hZ.alike Ar16.2.1) Ar16.2.2 hin16 hat16 (g := (mkF m 37 #[.val (.ref a0), .val (.int ((p1 <<< ((1 : Int32) &&& 31)) + (1 : Int32)))] [(.int (p1 <<< ((1 : Int32) &&& 31))), (.ref a0)])) rfl rfl (hb hby d17_37)
  obtain ⟨T17, X17, e17, st17⟩ := getS2 X15 hx hZ hown (host := "") (Or.inl (hw _ (List.mem_of_getElem? (i := 71) rfl))) Via.refl e15 (Sta.ext O_.2 S_hi) (g := (mkF m 42 #[.val (.ref a0), .val (.int ((p1 <<< ((1 : Int32) &&& 31)) + (1 : Int32)))] [(.int (u &&& (255 : Int32)))])) rfl (hb hby d17_42)
  obtain ⟨cl18, Ar18, q18, S18, M18, H18, G18⟩ := id V_a0
  have hin18 : ¬ (((p1 <<< ((1 : Int32) &&& 31)) + (1 : Int32)) < 0 ∨ cl18.slots.size ≤ (((p1 <<< ((1 : Int32) &&& 31)) + (1 : Int32))).toNatClampNeg) := inb_of S18 hj1
  have hat18 : cl18.slots[(((p1 <<< ((1 : Int32) &&& 31)) + (1 : Int32))).toNatClampNeg]? = some (.int x) := Has.at H18 hin18 hx_
  have ld18 := X17.baloadBytes hx (j := ((p1 <<< ((1 : Int32) &&& 31)) + (1 : Int32))) (v := (.int x)) (by rw [e17]; exact Ar18.1) (State.isArrayOf_alike hZ.alike Ar18.2.1) Ar18.2.2 hin18 hat18 (g := (mkF m 48 #[.val (.ref a0), .val (.int ((p1 <<< ((1 : Int32) &&& 31)) + (1 : Int32)))] [(.int ((p1 <<< ((1 : Int32) &&& 31)) + (1 : Int32))), (.ref a0), (.int ((u &&& (255 : Int32)) <<< ((0 : Int32) &&& 31)))])) rfl rfl (hb hby d17_48)
  obtain ⟨T19, X19, e19, st19⟩ := getS2 X17 hx hZ hown (host := "") (Or.inl (hw _ (List.mem_of_getElem? (i := 72) rfl))) Via.refl e17 (Sta.ext O_.2 S_lo) (g := (mkF m 53 #[.val (.ref a0), .val (.int ((p1 <<< ((1 : Int32) &&& 31)) + (1 : Int32)))] [(.int (x &&& (255 : Int32))), (.int ((u &&& (255 : Int32)) <<< ((0 : Int32) &&& 31)))])) rfl (hb hby d17_53)
  obtain ⟨fs, hr, hrun, hended, hW, hsame⟩ := X19.leave (v := some (.int (nar .char ((((u &&& (255 : Int32)) <<< ((0 : Int32) &&& 31)) ||| ((x &&& (255 : Int32)) <<< ((8 : Int32) &&& 31))).toUInt32.toUInt16.toUInt32.toInt32)))) (fun h => by rw [Bd.returns] at h; cases h)
  refine ⟨_, _, pre0 _ ?_, hrun, hended, _, _, rfl, ?_, ⟨_, rfl⟩, hW, hsame.mono (by decide) (by decide)⟩
  · show own_S p e below s₁ (mkF m 0 #[.val (.ref a0), .val (.int p1)] []) _
    refine st15 _ ?_
    show own_S p e below T15 (mkF m 3 #[.val (.ref a0), .val (.int p1)] [.int 1]) _
    refine XS.ifYes X15.here hx rfl (pc0 := 3) (pc' := 28) rfl (hb hby d17_3) rfl ((if0 _ _).trans (feq (by decide : ¬ ((1 : Int32) = (0 : Int32)))).2) (by decide) (by decide) ?_
    show own_S p e below T15 (mkF m 28 #[.val (.ref a0), .val (.int p1)] []) _
    refine XS.iloadN X15.here hx rfl (hb hby d17_28) rfl ?_
    show own_S p e below T15 (mkF m 29 #[.val (.ref a0), .val (.int p1)] [(.int p1)]) _
    refine XS.iconst X15.here hx rfl (hb hby d17_29) ?_
    show own_S p e below T15 (mkF m 30 #[.val (.ref a0), .val (.int p1)] [.int 1, (.int p1)]) _
    refine XS.ishl X15.here hx rfl (hb hby d17_30) rfl ?_
    show own_S p e below T15 (mkF m 31 #[.val (.ref a0), .val (.int p1)] [(.int (p1 <<< ((1 : Int32) &&& 31)))]) _
    refine XS.istoreN X15.here hx rfl (hb hby d17_31) rfl (l' := #[.val (.ref a0), .val (.int (p1 <<< ((1 : Int32) &&& 31)))]) rfl ?_
    show own_S p e below T15 (mkF m 32 #[.val (.ref a0), .val (.int (p1 <<< ((1 : Int32) &&& 31)))] []) _
    refine XS.aloadN X15.here hx rfl (hb hby d17_32) rfl rfl ?_
    show own_S p e below T15 (mkF m 33 #[.val (.ref a0), .val (.int (p1 <<< ((1 : Int32) &&& 31)))] [(.ref a0)]) _
    refine XS.iloadN X15.here hx rfl (hb hby d17_33) rfl ?_
    show own_S p e below T15 (mkF m 34 #[.val (.ref a0), .val (.int (p1 <<< ((1 : Int32) &&& 31)))] [(.int (p1 <<< ((1 : Int32) &&& 31))), (.ref a0)]) _
    refine XS.iinc X15.here hx rfl (hb hby d17_34) rfl (l' := #[.val (.ref a0), .val (.int ((p1 <<< ((1 : Int32) &&& 31)) + (1 : Int32)))]) rfl ?_
    show own_S p e below T15 (mkF m 37 #[.val (.ref a0), .val (.int ((p1 <<< ((1 : Int32) &&& 31)) + (1 : Int32)))] [(.int (p1 <<< ((1 : Int32) &&& 31))), (.ref a0)]) _
    refine ld16 _ ?_
    show own_S p e below T15 (mkF m 38 #[.val (.ref a0), .val (.int ((p1 <<< ((1 : Int32) &&& 31)) + (1 : Int32)))] [(.int u)]) _
    refine XS.sipush X15.here hx rfl (hb hby d17_38) ?_
    show own_S p e below T15 (mkF m 41 #[.val (.ref a0), .val (.int ((p1 <<< ((1 : Int32) &&& 31)) + (1 : Int32)))] [.int 255, (.int u)]) _
    refine XS.iand X15.here hx rfl (hb hby d17_41) rfl ?_
    show own_S p e below T15 (mkF m 42 #[.val (.ref a0), .val (.int ((p1 <<< ((1 : Int32) &&& 31)) + (1 : Int32)))] [(.int (u &&& (255 : Int32)))]) _
    refine st17 _ ?_
    show own_S p e below T17 (mkF m 45 #[.val (.ref a0), .val (.int ((p1 <<< ((1 : Int32) &&& 31)) + (1 : Int32)))] [.int 0, (.int (u &&& (255 : Int32)))]) _
    refine XS.ishl X17.here hx rfl (hb hby d17_45) rfl ?_
    show own_S p e below T17 (mkF m 46 #[.val (.ref a0), .val (.int ((p1 <<< ((1 : Int32) &&& 31)) + (1 : Int32)))] [(.int ((u &&& (255 : Int32)) <<< ((0 : Int32) &&& 31)))]) _
    refine XS.aloadN X17.here hx rfl (hb hby d17_46) rfl rfl ?_
    show own_S p e below T17 (mkF m 47 #[.val (.ref a0), .val (.int ((p1 <<< ((1 : Int32) &&& 31)) + (1 : Int32)))] [(.ref a0), (.int ((u &&& (255 : Int32)) <<< ((0 : Int32) &&& 31)))]) _
    refine XS.iloadN X17.here hx rfl (hb hby d17_47) rfl ?_
    show own_S p e below T17 (mkF m 48 #[.val (.ref a0), .val (.int ((p1 <<< ((1 : Int32) &&& 31)) + (1 : Int32)))] [(.int ((p1 <<< ((1 : Int32) &&& 31)) + (1 : Int32))), (.ref a0), (.int ((u &&& (255 : Int32)) <<< ((0 : Int32) &&& 31)))]) _
    refine ld18 _ ?_
    show own_S p e below T17 (mkF m 49 #[.val (.ref a0), .val (.int ((p1 <<< ((1 : Int32) &&& 31)) + (1 : Int32)))] [(.int x), (.int ((u &&& (255 : Int32)) <<< ((0 : Int32) &&& 31)))]) _
    refine XS.sipush X17.here hx rfl (hb hby d17_49) ?_
    show own_S p e below T17 (mkF m 52 #[.val (.ref a0), .val (.int ((p1 <<< ((1 : Int32) &&& 31)) + (1 : Int32)))] [.int 255, (.int x), (.int ((u &&& (255 : Int32)) <<< ((0 : Int32) &&& 31)))]) _
    refine XS.iand X17.here hx rfl (hb hby d17_52) rfl ?_
    show own_S p e below T17 (mkF m 53 #[.val (.ref a0), .val (.int ((p1 <<< ((1 : Int32) &&& 31)) + (1 : Int32)))] [(.int (x &&& (255 : Int32))), (.int ((u &&& (255 : Int32)) <<< ((0 : Int32) &&& 31)))]) _
    refine st19 _ ?_
    show own_S p e below T19 (mkF m 56 #[.val (.ref a0), .val (.int ((p1 <<< ((1 : Int32) &&& 31)) + (1 : Int32)))] [.int 8, (.int (x &&& (255 : Int32))), (.int ((u &&& (255 : Int32)) <<< ((0 : Int32) &&& 31)))]) _
    refine XS.ishl X19.here hx rfl (hb hby d17_56) rfl ?_
    show own_S p e below T19 (mkF m 57 #[.val (.ref a0), .val (.int ((p1 <<< ((1 : Int32) &&& 31)) + (1 : Int32)))] [(.int ((x &&& (255 : Int32)) <<< ((8 : Int32) &&& 31))), (.int ((u &&& (255 : Int32)) <<< ((0 : Int32) &&& 31)))]) _
    refine XS.ior X19.here hx rfl (hb hby d17_57) rfl ?_
    show own_S p e below T19 (mkF m 58 #[.val (.ref a0), .val (.int ((p1 <<< ((1 : Int32) &&& 31)) + (1 : Int32)))] [(.int (((u &&& (255 : Int32)) <<< ((0 : Int32) &&& 31)) ||| ((x &&& (255 : Int32)) <<< ((8 : Int32) &&& 31))))]) _
    refine XS.i2c X19.here hx rfl (hb hby d17_58) rfl ?_
    show own_S p e below T19 (mkF m 59 #[.val (.ref a0), .val (.int ((p1 <<< ((1 : Int32) &&& 31)) + (1 : Int32)))] [(.int ((((u &&& (255 : Int32)) <<< ((0 : Int32) &&& 31)) ||| ((x &&& (255 : Int32)) <<< ((8 : Int32) &&& 31))).toUInt32.toUInt16.toUInt32.toInt32))]) _
    exact retN X19 hx (t := .char) Bd.returns (by simp) (hb hby d17_59) hr
  · show Q17 Z a0 p1 kb nb bs u x h0 n0 _ T19.heap _
    rw [e19]
    exact ⟨rfl, N0, rfl⟩
def own_gc (u x : Int32) : Int32 := (nar .char ((((u &&& (255 : Int32)) <<< ((0 : Int32) &&& 31)) ||| ((x &&& (255 : Int32)) <<< ((8 : Int32) &&& 31))).toUInt32.toUInt16.toUInt32.toInt32))
theorem ef_21 (m : MethodId) (a0 : Addr) (p1 : Int32) : entryFrame m #[(.ref a0), (.int p1)] 2 = mkF m 0 #[.val (.ref a0), .val (.int p1)] [] := by first | (simp [entryFrame, mkF, argsToLocals, Value.category]; done) | rfl
theorem d21_0 : decode jdk_52_method_83_code 0 = .ok (.iload_n 1, 1) := by decide +kernel
theorem d21_1 : decode jdk_52_method_83_code 1 = .ok (.aload_n 0, 1) := by decide +kernel
theorem pd_13 : parseMethodDescriptor "(I[B)V" = some ⟨[.int, (.array .byte)], none⟩ := by decide +kernel
theorem d21_2 : decode jdk_52_method_83_code 2 = .ok (.invokestatic 67, 3) := by decide +kernel
theorem d21_5 : decode jdk_52_method_83_code 5 = .ok (.aload_n 0, 1) := by decide +kernel
theorem d21_6 : decode jdk_52_method_83_code 6 = .ok (.iload_n 1, 1) := by decide +kernel
theorem pd_17 : parseMethodDescriptor "([BI)C" = some ⟨[(.array .byte), .int], some .char⟩ := by decide +kernel
theorem d21_7 : decode jdk_52_method_83_code 7 = .ok (.invokestatic 71, 3) := by decide +kernel
theorem d21_10 : decode jdk_52_method_83_code 10 = .ok (.ireturn, 1) := by decide +kernel
def Q21 (Z : State) (a0 : Addr) (p1 : Int32) (kb : ClassId) (nb : Int32) (bs : List Value) (u : Int32) (x : Int32) (gf : Value) (h0 : Heap) (n0 : Nat) (v : Option Value) (h : Heap) (L : List Loc) : Prop := v = some (.int (nar .char (own_gc u x))) ∧ Fr n0 L ∧ h = h0
set_option maxRecDepth 65536 in
set_option maxHeartbeats 40000000 in
theorem rm21 (l : Launch) (Z : State) (ag : Array Value) (hw : ∀ d ∈ tables_1, d.before ag Z = true) (ws : List Jvm.Cond) (a0 : Addr) (p1 : Int32) (kb : ClassId) (nb : Int32) (bs : List Value) (u : Int32) (x : Int32) (gf : Value) (h0 : Heap) (n0 : Nat) (Z0 : n0 ≤ h0.size) (V_a0 : Arv Z h0 a0 kb .byte nb bs (.int (0 : Int32))) (h1 : ¬ p1 < (0 : Int32)) (h2 : p1 < (nb >>> ((1 : Int32) &&& 31))) (hj : ¬ (p1 <<< ((1 : Int32) &&& 31)) < 0 ∧ (p1 <<< ((1 : Int32) &&& 31)) < nb) (hj1 : ¬ ((p1 <<< ((1 : Int32) &&& 31)) + (1 : Int32)) < 0 ∧ ((p1 <<< ((1 : Int32) &&& 31)) + (1 : Int32)) < nb) (hu : bs.getD ((p1 <<< ((1 : Int32) &&& 31))).toNatClampNeg (.int (0 : Int32)) = .int u) (hx_ : bs.getD (((p1 <<< ((1 : Int32) &&& 31)) + (1 : Int32))).toNatClampNeg (.int (0 : Int32)) = .int x) (O_ : Old Z n0 h0) (S_gf : Sta Z Z.heap "jdk/internal/util/Preconditions" "SIOOBE_FORMATTER" "Ljava/util/function/BiFunction;" gf) (rv_gf : gf.isRef = true) (S_ad : Sta Z Z.heap "java/lang/StringUTF16" "$assertionsDisabled" "Z" (.int (1 : Int32))) (S_hi : Sta Z Z.heap "java/lang/StringUTF16" "HI_BYTE_SHIFT" "I" (.int (0 : Int32))) (S_lo : Sta Z Z.heap "java/lang/StringUTF16" "LO_BYTE_SHIFT" "I" (.int (8 : Int32))) :
    MetFree l (⟨"java/lang/StringUTF16", "charAt", "([BI)C"⟩ : MethodName) (head1 (Jvm.Cond.code (⟨"java/lang/StringUTF16", "charAt", "([BI)C"⟩ : MethodName) jdk_52_method_83_code 2 (some .char) :: ws) ({ frames := 3, cells := 0, slots := 0, locals := 40 } : Room)) (fun a U => a = #[(.ref a0), (.int p1)] ∧ Z.Warmed39 U.vm ∧ U.heap = h0) (fun _ _ _ _ _ => True) (fun _ U o U' => ∃ v L, o = .returned v ∧ Q21 Z a0 p1 kb nb bs u x gf h0 n0 v U'.heap L ∧ FrameEnd U o U' L ({ frames := 3, cells := 0, slots := 0, locals := 40 } : Room).cells ({ frames := 3, cells := 0, slots := 0, locals := 40 } : Room).slots) := by
  refine MetFree.of_bodySF (plainFor_of_name pn_5) hisR ?_
  intro p e s m args below meth c s₁ Bd hml0 hP hK
  obtain ⟨rfl, hZ, hh⟩ := hP
  have hx := Bd.exec
  have hby := Bd.bytes
  have hml : c.maxLocals = 2 := hml0
  have hown : s.vm.findClass "java/lang/StringUTF16" = some m.cls := findClass_of_methodNamed Bd.named
  have hnm := (name_of_methodNamed Bd.named Bd.method).1
  have X0 : Stand p l e ({ frames := 3, cells := 0, slots := 0, locals := 40 } : Room) s m #[(.ref a0), (.int p1)] below meth c s₁ [] 0 0 := Stand.of_body Bd
  have e0 : s₁.heap = h0 := by rw [← hh, Bd.state]; rfl
  have N0 := Fr.nil n0
  have pre0 : ∀ t, Steps p.tables e below (s₁.setTop (mkF m 0 #[.val (.ref a0), .val (.int p1)] [])) t → Steps p.tables e below (s₁.setTop (entryFrame m #[(.ref a0), (.int p1)] 2)) t := fun t k => castTop (ef_21 m a0 p1) k
  obtain ⟨_, _, ⟨T20, L20, k20, n20⟩, -, X20, ⟨Lc20, hQ20, l20, y20, z20⟩, st20⟩ := Jvm.LawKit.callS X0 hx (y := (⟨"java/lang/StringUTF16", "checkIndex", "(I[B)V"⟩ : MethodName)) hown (mvT hZ (hw _ (List.mem_of_getElem? (i := 92) rfl))) (mvT hZ (hw _ (List.mem_of_getElem? (i := 93) rfl))) (mvT hZ (hw _ (List.mem_of_getElem? (i := 27) rfl))) (mvT hZ (hw _ (List.mem_of_getElem? (i := 94) rfl))) (by decide) (backOf (W := 0) (rm22 l Z ag hw [] p1 a0 kb nb bs gf h0 n0 Z0 V_a0 h1 h2 O_ S_gf rv_gf) hZ (hw _ (List.mem_of_getElem? (i := 94) rfl)) (hw _ (List.mem_of_getElem? (i := 27) rfl)) (by decide) (by decide)) (g := (mkF m 2 #[.val (.ref a0), .val (.int p1)] [(.ref a0), (.int p1)])) rfl (by rw [hml]; rfl) (argsL := [(.int p1), (.ref a0)]) (rest := []) (lenOf pd_13 rfl) rfl (by show 2 * 0 + _ ≤ _; exact Nat.le_of_eq rfl) (hb hby d21_2) (fun _ _ => ⟨rfl, e0, (by decide : 0 + 0 ≤ _), (by decide : 0 + 0 ≤ _)⟩)
  dsimp only [Pt.U, Pt.locs, Pt.cells, Pt.slots] at X20 l20 y20 z20 st20 hQ20
  subst l20 y20 z20
  obtain ⟨rfl, N20q, e20⟩ := hQ20
  have N20 := Fr.app N0 N20q
  obtain ⟨_, _, ⟨T21, L21, k21, n21⟩, -, X21, ⟨Lc21, hQ21, l21, y21, z21⟩, st21⟩ := Jvm.LawKit.callS X20 hx (y := (⟨"java/lang/StringUTF16", "getChar", "([BI)C"⟩ : MethodName)) hown (mvT hZ (hw _ (List.mem_of_getElem? (i := 73) rfl))) (mvT hZ (hw _ (List.mem_of_getElem? (i := 74) rfl))) (mvT hZ (hw _ (List.mem_of_getElem? (i := 27) rfl))) (mvT hZ (hw _ (List.mem_of_getElem? (i := 75) rfl))) (by decide) (backOf (W := 0) (rm17 l Z ag hw [] a0 p1 kb nb bs u x h0 n0 Z0 V_a0 hj hj1 hu hx_ O_ S_ad S_hi S_lo) hZ (hw _ (List.mem_of_getElem? (i := 75) rfl)) (hw _ (List.mem_of_getElem? (i := 27) rfl)) (by decide) (by decide)) (g := (mkF m 7 #[.val (.ref a0), .val (.int p1)] [(.int p1), (.ref a0)])) rfl (by rw [hml]; rfl) (argsL := [(.ref a0), (.int p1)]) (rest := []) (lenOf pd_17 rfl) rfl (by show 2 * 0 + _ ≤ _; exact Nat.le_of_eq rfl) (hb hby d21_7) (fun _ _ => ⟨rfl, e20, (by decide : 0 + 0 ≤ _), (by decide : 0 + 0 ≤ _)⟩)
  dsimp only [Pt.U, Pt.locs, Pt.cells, Pt.slots] at X21 l21 y21 z21 st21 hQ21
  subst l21 y21 z21
  obtain ⟨rfl, N21q, e21⟩ := hQ21
  have N21 := Fr.app N20 N21q
  obtain ⟨fs, hr, hrun, hended, hW, hsame⟩ := X21.leave (v := some (.int (nar .char (own_gc u x)))) (fun h => by rw [Bd.returns] at h; cases h)
  refine ⟨_, _, pre0 _ ?_, hrun, hended, _, _, rfl, ?_, ⟨_, rfl⟩, hW, hsame.mono (by decide) (by decide)⟩
  · show own_S p e below s₁ (mkF m 0 #[.val (.ref a0), .val (.int p1)] []) _
    refine XS.iloadN X0.here hx rfl (hb hby d21_0) rfl ?_
    show own_S p e below s₁ (mkF m 1 #[.val (.ref a0), .val (.int p1)] [(.int p1)]) _
    refine XS.aloadN X0.here hx rfl (hb hby d21_1) rfl rfl ?_
    show own_S p e below s₁ (mkF m 2 #[.val (.ref a0), .val (.int p1)] [(.ref a0), (.int p1)]) _
    refine st20 _ ?_
    show own_S p e below T20 (mkF m 5 #[.val (.ref a0), .val (.int p1)] []) _
    refine XS.aloadN X20.here hx rfl (hb hby d21_5) rfl rfl ?_
    show own_S p e below T20 (mkF m 6 #[.val (.ref a0), .val (.int p1)] [(.ref a0)]) _
    refine XS.iloadN X20.here hx rfl (hb hby d21_6) rfl ?_
    show own_S p e below T20 (mkF m 7 #[.val (.ref a0), .val (.int p1)] [(.int p1), (.ref a0)]) _
    refine st21 _ ?_
    show own_S p e below T21 (mkF m 10 #[.val (.ref a0), .val (.int p1)] [(.int (own_gc u x))]) _
    exact retN X21 hx (t := .char) Bd.returns (by simp) (hb hby d21_10) hr
  · show Q21 Z a0 p1 kb nb bs u x gf h0 n0 _ T21.heap _
    rw [e21]
    exact ⟨rfl, N21, rfl⟩
def own_lc (u : Int32) : Int32 := (nar .char (nar .char ((u &&& (255 : Int32)).toUInt32.toUInt16.toUInt32.toInt32)))
def own_uc (u x : Int32) : Int32 := (nar .char (nar .char (own_gc u x)))
theorem own_char (a : Int32) (h0 : 0 ≤ a.toInt) (h1 : a.toInt < 65536) : a.toUInt32.toUInt16.toUInt32.toInt32 = a := by
  apply Int32.toBitVec_inj.mp; apply BitVec.eq_of_toNat_eq
  have e : a.toBitVec.toInt = a.toInt := rfl
  rw [← e, BitVec.toInt_eq_toNat_cond] at h0 h1
  show a.toUInt32.toUInt16.toUInt32.toNat = a.toBitVec.toNat
  rw [UInt16.toNat_toUInt32, UInt32.toNat_toUInt16]
  show a.toBitVec.toNat % 2 ^ 16 = _
  split at h0 <;> split at h1 <;> omega
theorem own_nar (a : Int32) (h0 : 0 ≤ a.toInt) (h1 : a.toInt < 65536) : nar .char a = a := own_char a h0 h1
/-- the low byte of x, as a byte and back -/
theorem own_by (x : Int32) : ((nar .byte (x.toInt8.toInt32)) &&& (255 : Int32)).toInt = x.toInt % 256 := by
  have a := (c_i2b x).1
  have b := (c_i2b (x.toInt8.toInt32)).1
  have m := c_mask ((x.toInt8.toInt32).toInt8.toInt32) 255 8 (by decide) (by decide)
  show (((x.toInt8.toInt32).toInt8.toInt32) &&& (255 : Int32)).toInt = x.toInt % 256
  omega
theorem own_gc_back (c : Int32) (h : 0 ≤ c.toInt ∧ c.toInt < 65536) : own_gc (nar .byte ((c >>> ((0 : Int32) &&& 31)).toInt8.toInt32)) (nar .byte ((c >>> ((8 : Int32) &&& 31)).toInt8.toInt32)) = c := by
  have s0 := c_ishr c 0 0 (by decide); have s8 := c_ishr c 8 8 (by decide)
  have b0 := own_by (c >>> ((0 : Int32) &&& 31)); have b8 := own_by (c >>> ((8 : Int32) &&& 31))
  unfold own_gc
  generalize hA : ((nar .byte ((c >>> ((0 : Int32) &&& 31)).toInt8.toInt32)) &&& (255 : Int32)) = A at *
  generalize hB : ((nar .byte ((c >>> ((8 : Int32) &&& 31)).toInt8.toInt32)) &&& (255 : Int32)) = B at *
  have t0 := c_ishl A 0 0 (by decide); have r0 := rng32 (A <<< ((0 : Int32) &&& 31))
  have t8 := c_ishl B 8 8 (by decide); have r8 := rng32 (B <<< ((8 : Int32) &&& 31))
  have u0 : (A <<< ((0 : Int32) &&& 31)).toInt = A.toInt := by omega
  have u8 : (B <<< ((8 : Int32) &&& 31)).toInt = B.toInt * 256 := by omega
  have o := c_or (B <<< ((8 : Int32) &&& 31)) (A <<< ((0 : Int32) &&& 31)) 8 (by decide) 256 (by decide) (by omega) (by omega) (by omega)
  have r := rng32 ((B <<< ((8 : Int32) &&& 31)) ||| (A <<< ((0 : Int32) &&& 31)))
  have e : ((A <<< ((0 : Int32) &&& 31)) ||| (B <<< ((8 : Int32) &&& 31))) = c := by
    rw [Int32.or_comm]; exact Int32.toInt_inj.mp (by omega)
  rw [e, own_char c h.1 h.2, own_nar c h.1 h.2]
theorem own_uc_back (c : Int32) (h : 0 ≤ c.toInt ∧ c.toInt < 65536) : own_uc (nar .byte ((c >>> ((0 : Int32) &&& 31)).toInt8.toInt32)) (nar .byte ((c >>> ((8 : Int32) &&& 31)).toInt8.toInt32)) = c := by
  unfold own_uc; rw [own_gc_back c h, own_nar c h.1 h.2, own_nar c h.1 h.2]
theorem own_lc_back (c : Int32) (h : 0 ≤ c.toInt ∧ c.toInt < 65536) (k : ¬ (255 : Int32) < c) : own_lc (nar .byte (c.toInt8.toInt32)) = c := by
  have b := own_by c
  rw [Int32.lt_iff_toInt_lt, show (255 : Int32).toInt = 255 from rfl] at k
  have e : ((nar .byte (c.toInt8.toInt32)) &&& (255 : Int32)) = c := Int32.toInt_inj.mp (by omega)
  unfold own_lc; rw [e, own_char c h.1 h.2, own_nar c h.1 h.2, own_nar c h.1 h.2]
theorem own_four (p : Int32) (n : Nat) (h4 : n ≤ 4) (h1 : ¬ p < 0) (h2 : p.toNatClampNeg < n) : (p = 0 ∧ 0 < n) ∨ (p = 1 ∧ 1 < n) ∨ (p = 2 ∧ 2 < n) ∨ (p = 3 ∧ 3 < n) := by
  have e := nat_of h1
  simp only [← Int32.toInt_inj, show (0 : Int32).toInt = 0 from rfl, show (1 : Int32).toInt = 1 from rfl, show (2 : Int32).toInt = 2 from rfl, show (3 : Int32).toInt = 3 from rfl]; omega
theorem own_five (n : Nat) (h : n ≤ 4) : n = 0 ∨ n = 1 ∨ n = 2 ∨ n = 3 ∨ n = 4 := by omega
theorem own_ll {p nb : Int32} {n : Nat} (h4 : n ≤ 4) (h1 : ¬ p < 0) (h2 : p.toNatClampNeg < n) (hn : nb = Int32.ofNat n) : p < nb := by
  subst hn
  rcases own_five n h4 with rfl | rfl | rfl | rfl | rfl <;> rcases own_four p _ (by decide) h1 h2 with ⟨rfl, q⟩ | ⟨rfl, q⟩ | ⟨rfl, q⟩ | ⟨rfl, q⟩ <;> first | (exact absurd q (by decide)) | decide
theorem own_ui {p nb : Int32} {n : Nat} (h4 : n ≤ 4) (h1 : ¬ p < 0) (h2 : p.toNatClampNeg < n) (hn : nb = Int32.ofNat (2 * n)) :
    p < (nb >>> ((1 : Int32) &&& 31)) ∧ (¬ (p <<< ((1 : Int32) &&& 31)) < 0 ∧ (p <<< ((1 : Int32) &&& 31)) < nb) ∧ (¬ ((p <<< ((1 : Int32) &&& 31)) + (1 : Int32)) < 0 ∧ ((p <<< ((1 : Int32) &&& 31)) + (1 : Int32)) < nb) ∧ (p <<< ((1 : Int32) &&& 31)).toNatClampNeg = 2 * p.toNatClampNeg ∧ ((p <<< ((1 : Int32) &&& 31)) + (1 : Int32)).toNatClampNeg = 2 * p.toNatClampNeg + 1 := by
  subst hn
  rcases own_five n h4 with rfl | rfl | rfl | rfl | rfl <;> rcases own_four p _ (by decide) h1 h2 with ⟨rfl, q⟩ | ⟨rfl, q⟩ | ⟨rfl, q⟩ | ⟨rfl, q⟩ <;> first | (exact absurd q (by decide)) | decide
theorem own_sl {nb cd : Int32} {n : Nat} (h4 : n ≤ 4) (h : (cd = 0 ∧ nb = Int32.ofNat n) ∨ (cd = 1 ∧ nb = Int32.ofNat (2 * n))) : (nb >>> ((nar .byte cd) &&& 31)) = Int32.ofNat n := by
  rcases h with ⟨rfl, rfl⟩ | ⟨rfl, rfl⟩ <;> rcases own_five n h4 with rfl | rfl | rfl | rfl | rfl <;> decide
def own_lat (vs : List Value) (cs : List Int32) : Prop := ∀ i, i < cs.length → ∃ u : Int32, vs.getD i (.int (0 : Int32)) = .int u ∧ own_lc u = cs.getD i 0
def own_u16 (vs : List Value) (cs : List Int32) : Prop := ∀ i, i < cs.length → ∃ u x : Int32, vs.getD (2 * i) (.int (0 : Int32)) = .int u ∧ vs.getD (2 * i + 1) (.int (0 : Int32)) = .int x ∧ own_uc u x = cs.getD i 0
/-- what the String at r spells: these chars, four at the most -/
def own_str (Z : State) (h : Heap) (r : Addr) (cs : List Int32) : Prop :=
  Exa Z h r "java/lang/String" ∧ cs.length ≤ 4 ∧ ∃ (b : Addr) (k : ClassId) (nb cd : Int32) (vs : List Value), Fld Z h r "java/lang/String" "value" "[B" (.ref b) ∧ Fld Z h r "java/lang/String" "coder" "B" (.int cd) ∧ Arv Z h b k .byte nb vs (.int (0 : Int32)) ∧
    ((cd = 0 ∧ nb = Int32.ofNat cs.length ∧ own_lat vs cs) ∨ (cd = 1 ∧ nb = Int32.ofNat (2 * cs.length) ∧ own_u16 vs cs))
theorem own_str.ext {Z : State} {h h' : Heap} {r : Addr} {cs : List Int32} (S : own_str Z h r cs) (E : Ext h h') : own_str Z h' r cs := by
  obtain ⟨e, l, b, k, nb, cd, vs, f1, f2, v, q⟩ := S; exact ⟨e.ext E, l, b, k, nb, cd, vs, f1.ext E, f2.ext E, v.ext E, q⟩
theorem own_str.keep0 {Z : State} {h h' : Heap} {r : Addr} {cs : List Int32} (S : own_str Z h r cs) (K : Keep h h' []) : own_str Z h' r cs := by
  obtain ⟨e, l, b, k, nb, cd, vs, f1, f2, v, q⟩ := S; exact ⟨e.keep K, l, b, k, nb, cd, vs, f1.keep K nin0, f2.keep K nin0, v.keep K nin0, q⟩
theorem own_str.lt {Z : State} {h : Heap} {r : Addr} {cs : List Int32} (S : own_str Z h r cs) : r < h.size := S.1.lt
theorem own_str_len {nb cd : Int32} {cs : List Int32} {vs : List Value} (h4 : cs.length ≤ 4) (h : (cd = 0 ∧ nb = Int32.ofNat cs.length ∧ own_lat vs cs) ∨ (cd = 1 ∧ nb = Int32.ofNat (2 * cs.length) ∧ own_u16 vs cs)) : (nb >>> ((nar .byte cd) &&& 31)) = Int32.ofNat cs.length :=
  own_sl h4 (h.imp (fun q => ⟨q.1, q.2.1⟩) (fun q => ⟨q.1, q.2.1⟩))
theorem own_lat_lt {p nb : Int32} {cs : List Int32} (h4 : cs.length ≤ 4) (h1 : ¬ p < 0) (h2 : p.toNatClampNeg < cs.length) (hn : nb = Int32.ofNat cs.length) : p < nb := own_ll h4 h1 h2 hn
theorem own_u16_ix {p nb : Int32} {cs : List Int32} (h4 : cs.length ≤ 4) (h1 : ¬ p < 0) (h2 : p.toNatClampNeg < cs.length) (hn : nb = Int32.ofNat (2 * cs.length)) :
    p < (nb >>> ((1 : Int32) &&& 31)) ∧ (¬ (p <<< ((1 : Int32) &&& 31)) < 0 ∧ (p <<< ((1 : Int32) &&& 31)) < nb) ∧ (¬ ((p <<< ((1 : Int32) &&& 31)) + (1 : Int32)) < 0 ∧ ((p <<< ((1 : Int32) &&& 31)) + (1 : Int32)) < nb) ∧ (p <<< ((1 : Int32) &&& 31)).toNatClampNeg = 2 * p.toNatClampNeg ∧ ((p <<< ((1 : Int32) &&& 31)) + (1 : Int32)).toNatClampNeg = 2 * p.toNatClampNeg + 1 := own_ui h4 h1 h2 hn
theorem own_lat_of1 {c0 : Int32} (r0 : 0 ≤ c0.toInt ∧ c0.toInt < 65536) (l0 : ¬ ((255 : Int32) < c0)) : own_lat [(.int (nar .byte (c0.toInt8.toInt32)))] [c0] := fun i hi => by
  match i, hi with
  | 0, _ => exact ⟨_, rfl, own_lc_back c0 r0 l0⟩
  | n + 1, q => exact absurd q (by simp)
theorem own_u16_of1 {c0 : Int32} (r0 : 0 ≤ c0.toInt ∧ c0.toInt < 65536) : own_u16 [(.int (nar .byte ((c0 >>> ((0 : Int32) &&& 31)).toInt8.toInt32))), (.int (nar .byte ((c0 >>> ((8 : Int32) &&& 31)).toInt8.toInt32)))] [c0] := fun i hi => by
  match i, hi with
  | 0, _ => exact ⟨_, _, rfl, rfl, own_uc_back c0 r0⟩
  | n + 1, q => exact absurd q (by simp)
theorem own_lat_of2 {c0 c1 : Int32} (r0 : 0 ≤ c0.toInt ∧ c0.toInt < 65536) (r1 : 0 ≤ c1.toInt ∧ c1.toInt < 65536) (l0 : ¬ ((255 : Int32) < c0)) (l1 : ¬ ((255 : Int32) < c1)) : own_lat [(.int (nar .byte (c0.toInt8.toInt32))), (.int (nar .byte (c1.toInt8.toInt32)))] [c0, c1] := fun i hi => by
  match i, hi with
  | 0, _ => exact ⟨_, rfl, own_lc_back c0 r0 l0⟩
  | 1, _ => exact ⟨_, rfl, own_lc_back c1 r1 l1⟩
  | n + 2, q => exact absurd q (by simp)
theorem own_u16_of2 {c0 c1 : Int32} (r0 : 0 ≤ c0.toInt ∧ c0.toInt < 65536) (r1 : 0 ≤ c1.toInt ∧ c1.toInt < 65536) : own_u16 [(.int (nar .byte ((c0 >>> ((0 : Int32) &&& 31)).toInt8.toInt32))), (.int (nar .byte ((c0 >>> ((8 : Int32) &&& 31)).toInt8.toInt32))), (.int (nar .byte ((c1 >>> ((0 : Int32) &&& 31)).toInt8.toInt32))), (.int (nar .byte ((c1 >>> ((8 : Int32) &&& 31)).toInt8.toInt32)))] [c0, c1] := fun i hi => by
  match i, hi with
  | 0, _ => exact ⟨_, _, rfl, rfl, own_uc_back c0 r0⟩
  | 1, _ => exact ⟨_, _, rfl, rfl, own_uc_back c1 r1⟩
  | n + 2, q => exact absurd q (by simp)
theorem own_lat_of3 {c0 c1 c2 : Int32} (r0 : 0 ≤ c0.toInt ∧ c0.toInt < 65536) (r1 : 0 ≤ c1.toInt ∧ c1.toInt < 65536) (r2 : 0 ≤ c2.toInt ∧ c2.toInt < 65536) (l0 : ¬ ((255 : Int32) < c0)) (l1 : ¬ ((255 : Int32) < c1)) (l2 : ¬ ((255 : Int32) < c2)) : own_lat [(.int (nar .byte (c0.toInt8.toInt32))), (.int (nar .byte (c1.toInt8.toInt32))), (.int (nar .byte (c2.toInt8.toInt32)))] [c0, c1, c2] := fun i hi => by
  match i, hi with
  | 0, _ => exact ⟨_, rfl, own_lc_back c0 r0 l0⟩
  | 1, _ => exact ⟨_, rfl, own_lc_back c1 r1 l1⟩
  | 2, _ => exact ⟨_, rfl, own_lc_back c2 r2 l2⟩
  | n + 3, q => exact absurd q (by simp)
theorem own_u16_of3 {c0 c1 c2 : Int32} (r0 : 0 ≤ c0.toInt ∧ c0.toInt < 65536) (r1 : 0 ≤ c1.toInt ∧ c1.toInt < 65536) (r2 : 0 ≤ c2.toInt ∧ c2.toInt < 65536) : own_u16 [(.int (nar .byte ((c0 >>> ((0 : Int32) &&& 31)).toInt8.toInt32))), (.int (nar .byte ((c0 >>> ((8 : Int32) &&& 31)).toInt8.toInt32))), (.int (nar .byte ((c1 >>> ((0 : Int32) &&& 31)).toInt8.toInt32))), (.int (nar .byte ((c1 >>> ((8 : Int32) &&& 31)).toInt8.toInt32))), (.int (nar .byte ((c2 >>> ((0 : Int32) &&& 31)).toInt8.toInt32))), (.int (nar .byte ((c2 >>> ((8 : Int32) &&& 31)).toInt8.toInt32)))] [c0, c1, c2] := fun i hi => by
  match i, hi with
  | 0, _ => exact ⟨_, _, rfl, rfl, own_uc_back c0 r0⟩
  | 1, _ => exact ⟨_, _, rfl, rfl, own_uc_back c1 r1⟩
  | 2, _ => exact ⟨_, _, rfl, rfl, own_uc_back c2 r2⟩
  | n + 3, q => exact absurd q (by simp)
theorem own_lat_of4 {c0 c1 c2 c3 : Int32} (r0 : 0 ≤ c0.toInt ∧ c0.toInt < 65536) (r1 : 0 ≤ c1.toInt ∧ c1.toInt < 65536) (r2 : 0 ≤ c2.toInt ∧ c2.toInt < 65536) (r3 : 0 ≤ c3.toInt ∧ c3.toInt < 65536) (l0 : ¬ ((255 : Int32) < c0)) (l1 : ¬ ((255 : Int32) < c1)) (l2 : ¬ ((255 : Int32) < c2)) (l3 : ¬ ((255 : Int32) < c3)) : own_lat [(.int (nar .byte (c0.toInt8.toInt32))), (.int (nar .byte (c1.toInt8.toInt32))), (.int (nar .byte (c2.toInt8.toInt32))), (.int (nar .byte (c3.toInt8.toInt32)))] [c0, c1, c2, c3] := fun i hi => by
  match i, hi with
  | 0, _ => exact ⟨_, rfl, own_lc_back c0 r0 l0⟩
  | 1, _ => exact ⟨_, rfl, own_lc_back c1 r1 l1⟩
  | 2, _ => exact ⟨_, rfl, own_lc_back c2 r2 l2⟩
  | 3, _ => exact ⟨_, rfl, own_lc_back c3 r3 l3⟩
  | n + 4, q => exact absurd q (by simp)
theorem own_u16_of4 {c0 c1 c2 c3 : Int32} (r0 : 0 ≤ c0.toInt ∧ c0.toInt < 65536) (r1 : 0 ≤ c1.toInt ∧ c1.toInt < 65536) (r2 : 0 ≤ c2.toInt ∧ c2.toInt < 65536) (r3 : 0 ≤ c3.toInt ∧ c3.toInt < 65536) : own_u16 [(.int (nar .byte ((c0 >>> ((0 : Int32) &&& 31)).toInt8.toInt32))), (.int (nar .byte ((c0 >>> ((8 : Int32) &&& 31)).toInt8.toInt32))), (.int (nar .byte ((c1 >>> ((0 : Int32) &&& 31)).toInt8.toInt32))), (.int (nar .byte ((c1 >>> ((8 : Int32) &&& 31)).toInt8.toInt32))), (.int (nar .byte ((c2 >>> ((0 : Int32) &&& 31)).toInt8.toInt32))), (.int (nar .byte ((c2 >>> ((8 : Int32) &&& 31)).toInt8.toInt32))), (.int (nar .byte ((c3 >>> ((0 : Int32) &&& 31)).toInt8.toInt32))), (.int (nar .byte ((c3 >>> ((8 : Int32) &&& 31)).toInt8.toInt32)))] [c0, c1, c2, c3] := fun i hi => by
  match i, hi with
  | 0, _ => exact ⟨_, _, rfl, rfl, own_uc_back c0 r0⟩
  | 1, _ => exact ⟨_, _, rfl, rfl, own_uc_back c1 r1⟩
  | 2, _ => exact ⟨_, _, rfl, rfl, own_uc_back c2 r2⟩
  | 3, _ => exact ⟨_, _, rfl, rfl, own_uc_back c3 r3⟩
  | n + 4, q => exact absurd q (by simp)
theorem ef_11 (m : MethodId) (a0 : Addr) : entryFrame m #[(.ref a0)] 1 = mkF m 0 #[.val (.ref a0)] [] := by first | (simp [entryFrame, mkF, argsToLocals, Value.category]; done) | rfl
theorem d11_0 : decode jdk_42_method_54_code 0 = .ok (.aload_n 0, 1) := by decide +kernel
theorem d11_1 : decode jdk_42_method_54_code 1 = .ok (.getfield 9, 3) := by decide +kernel
theorem d11_4 : decode jdk_42_method_54_code 4 = .ok (.arraylength, 1) := by decide +kernel
theorem d11_5 : decode jdk_42_method_54_code 5 = .ok (.aload_n 0, 1) := by decide +kernel
theorem pd_0 : parseMethodDescriptor "()B" = some ⟨[], some .byte⟩ := by decide +kernel
theorem d11_6 : decode jdk_42_method_54_code 6 = .ok (.invokevirtual 335, 3) := by decide +kernel
theorem d11_9 : decode jdk_42_method_54_code 9 = .ok (.ishr, 1) := by decide +kernel
theorem d11_10 : decode jdk_42_method_54_code 10 = .ok (.ireturn, 1) := by decide +kernel
def Q11 (Z : State) (a0 : Addr) (b : Addr) (kb : ClassId) (nb : Int32) (bs : List Value) (cd : Int32) (res : Int32) (cs : Int32) (h0 : Heap) (n0 : Nat) (v : Option Value) (h : Heap) (L : List Loc) : Prop := v = some (.int res) ∧ Fr n0 L ∧ h = h0
set_option maxRecDepth 65536 in
set_option maxHeartbeats 40000000 in
theorem rm11_g (l : Launch) (Z : State) (ag : Array Value) (hw : ∀ d ∈ tables_1, d.before ag Z = true) (ws : List Jvm.Cond) (a0 : Addr) (b : Addr) (kb : ClassId) (nb : Int32) (bs : List Value) (cd : Int32) (res : Int32) (cs : Int32) (h0 : Heap) (n0 : Nat) (Z0 : n0 ≤ h0.size) (E_a0 : Exa Z h0 a0 "java/lang/String") (F_value_a0 : Fld Z h0 a0 "java/lang/String" "value" "[B" (.ref b)) (F_coder_a0 : Fld Z h0 a0 "java/lang/String" "coder" "B" (.int cd)) (V_b : Arv Z h0 b kb .byte nb bs (.int (0 : Int32))) (hres : (nb >>> ((nar .byte cd) &&& 31)) = res) (O_ : Old Z n0 h0) (S_cs : Sta Z Z.heap "java/lang/String" "COMPACT_STRINGS" "Z" (.int cs)) (hcs : ¬ cs = (0 : Int32)) :
    MetFree l (⟨"java/lang/String", "length", "()I"⟩ : MethodName) (head1 (Jvm.Cond.code (⟨"java/lang/String", "length", "()I"⟩ : MethodName) jdk_42_method_54_code 1 (some .int) :: ws) ({ frames := 1, cells := 0, slots := 0, locals := 13 } : Room)) (fun a U => a = #[(.ref a0)] ∧ Z.Warmed39 U.vm ∧ U.heap = h0) (fun _ _ _ _ _ => True) (fun _ U o U' => ∃ v L, o = .returned v ∧ Q11 Z a0 b kb nb bs cd res cs h0 n0 v U'.heap L ∧ FrameEnd U o U' L ({ frames := 1, cells := 0, slots := 0, locals := 13 } : Room).cells ({ frames := 1, cells := 0, slots := 0, locals := 13 } : Room).slots) := by
  refine MetFree.of_bodySF (plainFor_of_name pn_3) hisR ?_
  intro p e s m args below meth c s₁ Bd hml0 hP hK
  obtain ⟨rfl, hZ, hh⟩ := hP
  have hx := Bd.exec
  have hby := Bd.bytes
  have hml : c.maxLocals = 1 := hml0
  have hown : s.vm.findClass "java/lang/String" = some m.cls := findClass_of_methodNamed Bd.named
  have hnm := (name_of_methodNamed Bd.named Bd.method).1
  have X0 : Stand p l e ({ frames := 1, cells := 0, slots := 0, locals := 13 } : Room) s m #[(.ref a0)] below meth c s₁ [] 0 0 := Stand.of_body Bd
  have e0 : s₁.heap = h0 := by rw [← hh, Bd.state]; rfl
  have N0 := Fr.nil n0
  have pre0 : ∀ t, Steps p.tables e below (s₁.setTop (mkF m 0 #[.val (.ref a0)] [])) t → Steps p.tables e below (s₁.setTop (entryFrame m #[(.ref a0)] 1)) t := fun t k => castTop (ef_11 m a0) k
  obtain ⟨T22, X22, e22, st22⟩ := getF X0 hx hZ hown (host := "") (Or.inl (hw _ (List.mem_of_getElem? (i := 38) rfl))) Via.refl e0 F_value_a0 (g := (mkF m 1 #[.val (.ref a0)] [(.ref a0)])) rfl rfl (hb hby d11_1)
  obtain ⟨cl23, Ar23, -, S23, M23, -, -⟩ := id V_b
  have ld23 := X22.arraylength hx (by rw [e22]; exact Ar23.1) (State.isArrayOf_alike hZ.alike Ar23.2.1) (g := (mkF m 4 #[.val (.ref a0)] [(.ref b)])) rfl rfl (hb hby d11_4)
  obtain ⟨cq24, kq24, q24a, q24b, q24c⟩ := isOf hZ e22 E_a0
  obtain ⟨_, _, ⟨T24, L24, k24, n24⟩, -, X24, ⟨Lc24, hQ24, l24, y24, z24⟩, st24⟩ := X22.virtualBack hx (y := (⟨"java/lang/String", "coder", "()B"⟩ : MethodName)) (z := (⟨"java/lang/String", "coder", "()B"⟩ : MethodName)) hown (mvT hZ (hw _ (List.mem_of_getElem? (i := 52) rfl))) (mvT hZ (hw _ (List.mem_of_getElem? (i := 53) rfl))) (notFace_of_selects (args := #[]) (mvT hZ (hw _ (List.mem_of_getElem? (i := 55) rfl)))) (mvT hZ (hw _ (List.mem_of_getElem? (i := 55) rfl))) (mvT hZ (hw _ (List.mem_of_getElem? (i := 54) rfl))) (by decide) (backOf (W := 1) (rm12 l Z ag hw [] a0 cd cs h0 n0 Z0 F_coder_a0 O_ S_cs hcs) hZ (hw _ (List.mem_of_getElem? (i := 56) rfl)) (hw _ (List.mem_of_getElem? (i := 12) rfl)) (by decide) (by decide)) q24a q24c (g := (mkF m 6 #[.val (.ref a0)] [(.ref a0), (.int nb)])) rfl (by rw [hml]; rfl) (Steps.refl _) (argsL := []) (rest := [(.int nb)]) (lenOf pd_0 rfl) rfl (by show 2 * 0 + _ ≤ _; exact Nat.le_of_eq rfl) (hb hby d11_6) (fun _ _ => ⟨rfl, e22, (by decide : 0 + 0 ≤ _), (by decide : 0 + 0 ≤ _)⟩)
  dsimp only [Pt.U, Pt.locs, Pt.cells, Pt.slots] at X24 l24 y24 z24 st24 hQ24
  subst l24 y24 z24
  obtain ⟨rfl, N24q, e24⟩ := hQ24
  have N24 := Fr.app N0 N24q
  obtain ⟨fs, hr, hrun, hended, hW, hsame⟩ := X24.leave (v := some (.int (nb >>> ((nar .byte cd) &&& 31)))) (fun h => by rw [Bd.returns] at h; cases h)
  refine ⟨_, _, pre0 _ ?_, hrun, hended, _, _, rfl, ?_, ⟨_, rfl⟩, hW, hsame.mono (by decide) (by decide)⟩
  · show own_S p e below s₁ (mkF m 0 #[.val (.ref a0)] []) _
    refine XS.aloadN X0.here hx rfl (hb hby d11_0) rfl rfl ?_
    show own_S p e below s₁ (mkF m 1 #[.val (.ref a0)] [(.ref a0)]) _
    refine st22 _ ?_
    show own_S p e below T22 (mkF m 4 #[.val (.ref a0)] [(.ref b)]) _
    refine ld23 _ ?_
    rw [len_of S23 M23]
    show own_S p e below T22 (mkF m 5 #[.val (.ref a0)] [(.int nb)]) _
    refine XS.aloadN X22.here hx rfl (hb hby d11_5) rfl rfl ?_
    show own_S p e below T22 (mkF m 6 #[.val (.ref a0)] [(.ref a0), (.int nb)]) _
    refine st24.trans ?_
    show own_S p e below T24 (mkF m 9 #[.val (.ref a0)] [(.int (nar .byte cd)), (.int nb)]) _
    refine XS.ishr X24.here hx rfl (hb hby d11_9) rfl ?_
    show own_S p e below T24 (mkF m 10 #[.val (.ref a0)] [(.int (nb >>> ((nar .byte cd) &&& 31)))]) _
    exact retI X24 hx Bd.returns (hb hby d11_10) hr
  · show Q11 Z a0 b kb nb bs cd res cs h0 n0 _ T24.heap _
    rw [e24]
    exact ⟨congrArg (fun z => some (Value.int z)) hres, N24, rfl⟩
theorem rm11 (l : Launch) (Z : State) (a0_ : Array Value) (hw : ∀ d ∈ tables_1, d.before a0_ Z = true) (ws : List Jvm.Cond) (a0 : Addr) (ds : List Int32) (cs : Int32) (h0 : Heap) (n0 : Nat) (Z0 : n0 ≤ h0.size) (S : own_str Z h0 a0 ds) (O_ : Old Z n0 h0) (S_cs : Sta Z Z.heap "java/lang/String" "COMPACT_STRINGS" "Z" (.int cs)) (hcs : ¬ cs = (0 : Int32)) :
    MetFree l (⟨"java/lang/String", "length", "()I"⟩ : MethodName) (head1 (Jvm.Cond.code (⟨"java/lang/String", "length", "()I"⟩ : MethodName) jdk_42_method_54_code 1 (some .int) :: ws) ({ frames := 1, cells := 0, slots := 0, locals := 13 } : Room)) (fun a U => a = #[(.ref a0)] ∧ Z.Warmed39 U.vm ∧ U.heap = h0) (fun _ _ _ _ _ => True) (fun _ U o U' => ∃ v L, o = .returned v ∧ own_Qi (Int32.ofNat ds.length) h0 n0 v U'.heap L ∧ FrameEnd U o U' L ({ frames := 1, cells := 0, slots := 0, locals := 13 } : Room).cells ({ frames := 1, cells := 0, slots := 0, locals := 13 } : Room).slots) := by
  obtain ⟨E, hl4, b, k, nb, cd, vs, Fv, Fc, V, hor⟩ := S
  exact rm11_g l Z a0_ hw ws a0 b k nb vs cd _ cs h0 n0 Z0 E Fv Fc V (own_str_len hl4 hor) O_ S_cs hcs
theorem ef_19 (m : MethodId) (a0 : Addr) (p1 : Int32) : entryFrame m #[(.ref a0), (.int p1)] 2 = mkF m 0 #[.val (.ref a0), .val (.int p1)] [] := by first | (simp [entryFrame, mkF, argsToLocals, Value.category]; done) | rfl
theorem d19_0 : decode jdk_42_method_56_code 0 = .ok (.aload_n 0, 1) := by decide +kernel
theorem pd_3 : parseMethodDescriptor "()Z" = some ⟨[], some .boolean⟩ := by decide +kernel
theorem d19_1 : decode jdk_42_method_56_code 1 = .ok (.invokevirtual 492, 3) := by decide +kernel
theorem d19_4 : decode jdk_42_method_56_code 4 = .ok (.ifCond .eq 12, 3) := by decide +kernel
theorem d19_7 : decode jdk_42_method_56_code 7 = .ok (.aload_n 0, 1) := by decide +kernel
theorem d19_8 : decode jdk_42_method_56_code 8 = .ok (.getfield 9, 3) := by decide +kernel
theorem d19_11 : decode jdk_42_method_56_code 11 = .ok (.iload_n 1, 1) := by decide +kernel
theorem d19_12 : decode jdk_42_method_56_code 12 = .ok (.invokestatic 495, 3) := by decide +kernel
theorem d19_15 : decode jdk_42_method_56_code 15 = .ok (.ireturn, 1) := by decide +kernel
def Q19_0 (Z : State) (a0 : Addr) (p1 : Int32) (b : Addr) (kb : ClassId) (nb : Int32) (bs : List Value) (u : Int32) (res : Int32) (cs : Int32) (gf : Value) (h0 : Heap) (n0 : Nat) (v : Option Value) (h : Heap) (L : List Loc) : Prop := v = some (.int res) ∧ Fr n0 L ∧ h = h0
set_option maxRecDepth 65536 in
set_option maxHeartbeats 40000000 in
theorem rm19_0 (l : Launch) (Z : State) (ag : Array Value) (hw : ∀ d ∈ tables_1, d.before ag Z = true) (ws : List Jvm.Cond) (a0 : Addr) (p1 : Int32) (b : Addr) (kb : ClassId) (nb : Int32) (bs : List Value) (u : Int32) (res : Int32) (cs : Int32) (gf : Value) (h0 : Heap) (n0 : Nat) (Z0 : n0 ≤ h0.size) (E_a0 : Exa Z h0 a0 "java/lang/String") (F_value_a0 : Fld Z h0 a0 "java/lang/String" "value" "[B" (.ref b)) (F_coder_a0 : Fld Z h0 a0 "java/lang/String" "coder" "B" (.int (0 : Int32))) (V_b : Arv Z h0 b kb .byte nb bs (.int (0 : Int32))) (h1 : ¬ p1 < (0 : Int32)) (h2 : p1 < nb) (hu : bs.getD (p1).toNatClampNeg (.int (0 : Int32)) = .int u) (hres : own_lc u = res) (O_ : Old Z n0 h0) (S_cs : Sta Z Z.heap "java/lang/String" "COMPACT_STRINGS" "Z" (.int cs)) (hcs : ¬ cs = (0 : Int32)) (S_gf : Sta Z Z.heap "jdk/internal/util/Preconditions" "SIOOBE_FORMATTER" "Ljava/util/function/BiFunction;" gf) (rv_gf : gf.isRef = true) (S_ad : Sta Z Z.heap "java/lang/StringUTF16" "$assertionsDisabled" "Z" (.int (1 : Int32))) (S_hi : Sta Z Z.heap "java/lang/StringUTF16" "HI_BYTE_SHIFT" "I" (.int (0 : Int32))) (S_lo : Sta Z Z.heap "java/lang/StringUTF16" "LO_BYTE_SHIFT" "I" (.int (8 : Int32))) :
    MetFree l (⟨"java/lang/String", "charAt", "(I)C"⟩ : MethodName) (head1 (Jvm.Cond.code (⟨"java/lang/String", "charAt", "(I)C"⟩ : MethodName) jdk_42_method_56_code 2 (some .char) :: ws) ({ frames := 5, cells := 0, slots := 0, locals := 70 } : Room)) (fun a U => a = #[(.ref a0), (.int p1)] ∧ Z.Warmed39 U.vm ∧ U.heap = h0) (fun _ _ _ _ _ => True) (fun _ U o U' => ∃ v L, o = .returned v ∧ Q19_0 Z a0 p1 b kb nb bs u res cs gf h0 n0 v U'.heap L ∧ FrameEnd U o U' L ({ frames := 5, cells := 0, slots := 0, locals := 70 } : Room).cells ({ frames := 5, cells := 0, slots := 0, locals := 70 } : Room).slots) := by
  refine MetFree.of_bodySF (plainFor_of_name pn_3) hisR ?_
  intro p e s m args below meth c s₁ Bd hml0 hP hK
  obtain ⟨rfl, hZ, hh⟩ := hP
  have hx := Bd.exec
  have hby := Bd.bytes
  have hml : c.maxLocals = 2 := hml0
  have hown : s.vm.findClass "java/lang/String" = some m.cls := findClass_of_methodNamed Bd.named
  have hnm := (name_of_methodNamed Bd.named Bd.method).1
  have X0 : Stand p l e ({ frames := 5, cells := 0, slots := 0, locals := 70 } : Room) s m #[(.ref a0), (.int p1)] below meth c s₁ [] 0 0 := Stand.of_body Bd
  have e0 : s₁.heap = h0 := by rw [← hh, Bd.state]; rfl
  have N0 := Fr.nil n0
  have pre0 : ∀ t, Steps p.tables e below (s₁.setTop (mkF m 0 #[.val (.ref a0), .val (.int p1)] [])) t → Steps p.tables e below (s₁.setTop (entryFrame m #[(.ref a0), (.int p1)] 2)) t := fun t k => castTop (ef_19 m a0 p1) k
  obtain ⟨cq25, kq25, q25a, q25b, q25c⟩ := isOf hZ e0 E_a0
  obtain ⟨_, _, ⟨T25, L25, k25, n25⟩, -, X25, ⟨Lc25, hQ25, l25, y25, z25⟩, st25⟩ := X0.virtualBack hx (y := (⟨"java/lang/String", "isLatin1", "()Z"⟩ : MethodName)) (z := (⟨"java/lang/String", "isLatin1", "()Z"⟩ : MethodName)) hown (mvT hZ (hw _ (List.mem_of_getElem? (i := 84) rfl))) (mvT hZ (hw _ (List.mem_of_getElem? (i := 85) rfl))) (notFace_of_selects (args := #[]) (mvT hZ (hw _ (List.mem_of_getElem? (i := 87) rfl)))) (mvT hZ (hw _ (List.mem_of_getElem? (i := 87) rfl))) (mvT hZ (hw _ (List.mem_of_getElem? (i := 86) rfl))) (by decide) (backOf (W := 0) (rm20_0 l Z ag hw [] a0 cs h0 n0 Z0 F_coder_a0 O_ S_cs hcs) hZ (hw _ (List.mem_of_getElem? (i := 88) rfl)) (hw _ (List.mem_of_getElem? (i := 12) rfl)) (by decide) (by decide)) q25a q25c (g := (mkF m 1 #[.val (.ref a0), .val (.int p1)] [(.ref a0)])) rfl (by rw [hml]; rfl) (Steps.refl _) (argsL := []) (rest := []) (lenOf pd_3 rfl) rfl (by show 2 * 0 + _ ≤ _; exact Nat.le_of_eq rfl) (hb hby d19_1) (fun _ _ => ⟨rfl, e0, (by decide : 0 + 0 ≤ _), (by decide : 0 + 0 ≤ _)⟩)
  dsimp only [Pt.U, Pt.locs, Pt.cells, Pt.slots] at X25 l25 y25 z25 st25 hQ25
  subst l25 y25 z25
  obtain ⟨rfl, N25q, e25⟩ := hQ25
  have N25 := Fr.app N0 N25q
  obtain ⟨T26, X26, e26, st26⟩ := getF X25 hx hZ hown (host := "") (Or.inl (hw _ (List.mem_of_getElem? (i := 38) rfl))) Via.refl e25 F_value_a0 (g := (mkF m 8 #[.val (.ref a0), .val (.int p1)] [(.ref a0)])) rfl rfl (hb hby d19_8)
  obtain ⟨_, _, ⟨T27, L27, k27, n27⟩, -, X27, ⟨Lc27, hQ27, l27, y27, z27⟩, st27⟩ := Jvm.LawKit.callS X26 hx (y := (⟨"java/lang/StringLatin1", "charAt", "([BI)C"⟩ : MethodName)) hown (mvT hZ (hw _ (List.mem_of_getElem? (i := 109) rfl))) (mvT hZ (hw _ (List.mem_of_getElem? (i := 110) rfl))) (mvT hZ (hw _ (List.mem_of_getElem? (i := 111) rfl))) (mvT hZ (hw _ (List.mem_of_getElem? (i := 112) rfl))) (by decide) (backOf (W := 0) (rm27 l Z ag hw [] b p1 kb nb bs u gf h0 n0 Z0 V_b h1 h2 hu O_ S_gf rv_gf) hZ (hw _ (List.mem_of_getElem? (i := 112) rfl)) (hw _ (List.mem_of_getElem? (i := 111) rfl)) (by decide) (by decide)) (g := (mkF m 12 #[.val (.ref a0), .val (.int p1)] [(.int p1), (.ref b)])) rfl (by rw [hml]; rfl) (argsL := [(.ref b), (.int p1)]) (rest := []) (lenOf pd_17 rfl) rfl (by show 2 * 0 + _ ≤ _; exact Nat.le_of_eq rfl) (hb hby d19_12) (fun _ _ => ⟨rfl, e26, (by decide : 0 + 0 ≤ _), (by decide : 0 + 0 ≤ _)⟩)
  dsimp only [Pt.U, Pt.locs, Pt.cells, Pt.slots] at X27 l27 y27 z27 st27 hQ27
  subst l27 y27 z27
  obtain ⟨rfl, N27q, e27⟩ := hQ27
  have N27 := Fr.app N25 N27q
  obtain ⟨fs, hr, hrun, hended, hW, hsame⟩ := X27.leave (v := some (.int (nar .char (nar .char ((u &&& (255 : Int32)).toUInt32.toUInt16.toUInt32.toInt32))))) (fun h => by rw [Bd.returns] at h; cases h)
  refine ⟨_, _, pre0 _ ?_, hrun, hended, _, _, rfl, ?_, ⟨_, rfl⟩, hW, hsame.mono (by decide) (by decide)⟩
  · show own_S p e below s₁ (mkF m 0 #[.val (.ref a0), .val (.int p1)] []) _
    refine XS.aloadN X0.here hx rfl (hb hby d19_0) rfl rfl ?_
    show own_S p e below s₁ (mkF m 1 #[.val (.ref a0), .val (.int p1)] [(.ref a0)]) _
    refine st25.trans ?_
    show own_S p e below T25 (mkF m 4 #[.val (.ref a0), .val (.int p1)] [.int 1]) _
    refine XS.ifNo X25.here hx rfl (hb hby d19_4) rfl ((if0 _ _).trans (feq (by decide : ¬ ((1 : Int32) = (0 : Int32)))).1) ?_
    show own_S p e below T25 (mkF m 7 #[.val (.ref a0), .val (.int p1)] []) _
    refine XS.aloadN X25.here hx rfl (hb hby d19_7) rfl rfl ?_
    show own_S p e below T25 (mkF m 8 #[.val (.ref a0), .val (.int p1)] [(.ref a0)]) _
    refine st26 _ ?_
    show own_S p e below T26 (mkF m 11 #[.val (.ref a0), .val (.int p1)] [(.ref b)]) _
    refine XS.iloadN X26.here hx rfl (hb hby d19_11) rfl ?_
    show own_S p e below T26 (mkF m 12 #[.val (.ref a0), .val (.int p1)] [(.int p1), (.ref b)]) _
    refine st27 _ ?_
    show own_S p e below T27 (mkF m 15 #[.val (.ref a0), .val (.int p1)] [(.int (nar .char ((u &&& (255 : Int32)).toUInt32.toUInt16.toUInt32.toInt32)))]) _
    exact retN X27 hx (t := .char) Bd.returns (by simp) (hb hby d19_15) hr
  · show Q19_0 Z a0 p1 b kb nb bs u res cs gf h0 n0 _ T27.heap _
    rw [e27]
    exact ⟨congrArg (fun z => some (Value.int z)) hres, N27, rfl⟩
theorem d19_16 : decode jdk_42_method_56_code 16 = .ok (.aload_n 0, 1) := by decide +kernel
theorem d19_17 : decode jdk_42_method_56_code 17 = .ok (.getfield 9, 3) := by decide +kernel
theorem d19_20 : decode jdk_42_method_56_code 20 = .ok (.iload_n 1, 1) := by decide +kernel
theorem d19_21 : decode jdk_42_method_56_code 21 = .ok (.invokestatic 498, 3) := by decide +kernel
theorem d19_24 : decode jdk_42_method_56_code 24 = .ok (.ireturn, 1) := by decide +kernel
def Q19_1 (Z : State) (a0 : Addr) (p1 : Int32) (b : Addr) (kb : ClassId) (nb : Int32) (bs : List Value) (u : Int32) (x : Int32) (res : Int32) (cs : Int32) (gf : Value) (h0 : Heap) (n0 : Nat) (v : Option Value) (h : Heap) (L : List Loc) : Prop := v = some (.int res) ∧ Fr n0 L ∧ h = h0
set_option maxRecDepth 65536 in
set_option maxHeartbeats 40000000 in
theorem rm19_1 (l : Launch) (Z : State) (ag : Array Value) (hw : ∀ d ∈ tables_1, d.before ag Z = true) (ws : List Jvm.Cond) (a0 : Addr) (p1 : Int32) (b : Addr) (kb : ClassId) (nb : Int32) (bs : List Value) (u : Int32) (x : Int32) (res : Int32) (cs : Int32) (gf : Value) (h0 : Heap) (n0 : Nat) (Z0 : n0 ≤ h0.size) (E_a0 : Exa Z h0 a0 "java/lang/String") (F_value_a0 : Fld Z h0 a0 "java/lang/String" "value" "[B" (.ref b)) (F_coder_a0 : Fld Z h0 a0 "java/lang/String" "coder" "B" (.int (1 : Int32))) (V_b : Arv Z h0 b kb .byte nb bs (.int (0 : Int32))) (h1 : ¬ p1 < (0 : Int32)) (h2 : p1 < (nb >>> ((1 : Int32) &&& 31))) (hj : ¬ (p1 <<< ((1 : Int32) &&& 31)) < 0 ∧ (p1 <<< ((1 : Int32) &&& 31)) < nb) (hj1 : ¬ ((p1 <<< ((1 : Int32) &&& 31)) + (1 : Int32)) < 0 ∧ ((p1 <<< ((1 : Int32) &&& 31)) + (1 : Int32)) < nb) (hu : bs.getD ((p1 <<< ((1 : Int32) &&& 31))).toNatClampNeg (.int (0 : Int32)) = .int u) (hx_ : bs.getD (((p1 <<< ((1 : Int32) &&& 31)) + (1 : Int32))).toNatClampNeg (.int (0 : Int32)) = .int x) (hres : own_uc u x = res) (O_ : Old Z n0 h0) (S_cs : Sta Z Z.heap "java/lang/String" "COMPACT_STRINGS" "Z" (.int cs)) (hcs : ¬ cs = (0 : Int32)) (S_gf : Sta Z Z.heap "jdk/internal/util/Preconditions" "SIOOBE_FORMATTER" "Ljava/util/function/BiFunction;" gf) (rv_gf : gf.isRef = true) (S_ad : Sta Z Z.heap "java/lang/StringUTF16" "$assertionsDisabled" "Z" (.int (1 : Int32))) (S_hi : Sta Z Z.heap "java/lang/StringUTF16" "HI_BYTE_SHIFT" "I" (.int (0 : Int32))) (S_lo : Sta Z Z.heap "java/lang/StringUTF16" "LO_BYTE_SHIFT" "I" (.int (8 : Int32))) :
    MetFree l (⟨"java/lang/String", "charAt", "(I)C"⟩ : MethodName) (head1 (Jvm.Cond.code (⟨"java/lang/String", "charAt", "(I)C"⟩ : MethodName) jdk_42_method_56_code 2 (some .char) :: ws) ({ frames := 5, cells := 0, slots := 0, locals := 70 } : Room)) (fun a U => a = #[(.ref a0), (.int p1)] ∧ Z.Warmed39 U.vm ∧ U.heap = h0) (fun _ _ _ _ _ => True) (fun _ U o U' => ∃ v L, o = .returned v ∧ Q19_1 Z a0 p1 b kb nb bs u x res cs gf h0 n0 v U'.heap L ∧ FrameEnd U o U' L ({ frames := 5, cells := 0, slots := 0, locals := 70 } : Room).cells ({ frames := 5, cells := 0, slots := 0, locals := 70 } : Room).slots) := by
  refine MetFree.of_bodySF (plainFor_of_name pn_3) hisR ?_
  intro p e s m args below meth c s₁ Bd hml0 hP hK
  obtain ⟨rfl, hZ, hh⟩ := hP
  have hx := Bd.exec
  have hby := Bd.bytes
  have hml : c.maxLocals = 2 := hml0
  have hown : s.vm.findClass "java/lang/String" = some m.cls := findClass_of_methodNamed Bd.named
  have hnm := (name_of_methodNamed Bd.named Bd.method).1
  have X0 : Stand p l e ({ frames := 5, cells := 0, slots := 0, locals := 70 } : Room) s m #[(.ref a0), (.int p1)] below meth c s₁ [] 0 0 := Stand.of_body Bd
  have e0 : s₁.heap = h0 := by rw [← hh, Bd.state]; rfl
  have N0 := Fr.nil n0
  have pre0 : ∀ t, Steps p.tables e below (s₁.setTop (mkF m 0 #[.val (.ref a0), .val (.int p1)] [])) t → Steps p.tables e below (s₁.setTop (entryFrame m #[(.ref a0), (.int p1)] 2)) t := fun t k => castTop (ef_19 m a0 p1) k
  obtain ⟨cq28, kq28, q28a, q28b, q28c⟩ := isOf hZ e0 E_a0
  obtain ⟨_, _, ⟨T28, L28, k28, n28⟩, -, X28, ⟨Lc28, hQ28, l28, y28, z28⟩, st28⟩ := X0.virtualBack hx (y := (⟨"java/lang/String", "isLatin1", "()Z"⟩ : MethodName)) (z := (⟨"java/lang/String", "isLatin1", "()Z"⟩ : MethodName)) hown (mvT hZ (hw _ (List.mem_of_getElem? (i := 84) rfl))) (mvT hZ (hw _ (List.mem_of_getElem? (i := 85) rfl))) (notFace_of_selects (args := #[]) (mvT hZ (hw _ (List.mem_of_getElem? (i := 87) rfl)))) (mvT hZ (hw _ (List.mem_of_getElem? (i := 87) rfl))) (mvT hZ (hw _ (List.mem_of_getElem? (i := 86) rfl))) (by decide) (backOf (W := 0) (rm20_1 l Z ag hw [] a0 cs h0 n0 Z0 F_coder_a0 O_ S_cs hcs) hZ (hw _ (List.mem_of_getElem? (i := 88) rfl)) (hw _ (List.mem_of_getElem? (i := 12) rfl)) (by decide) (by decide)) q28a q28c (g := (mkF m 1 #[.val (.ref a0), .val (.int p1)] [(.ref a0)])) rfl (by rw [hml]; rfl) (Steps.refl _) (argsL := []) (rest := []) (lenOf pd_3 rfl) rfl (by show 2 * 0 + _ ≤ _; exact Nat.le_of_eq rfl) (hb hby d19_1) (fun _ _ => ⟨rfl, e0, (by decide : 0 + 0 ≤ _), (by decide : 0 + 0 ≤ _)⟩)
  dsimp only [Pt.U, Pt.locs, Pt.cells, Pt.slots] at X28 l28 y28 z28 st28 hQ28
  subst l28 y28 z28
  obtain ⟨rfl, N28q, e28⟩ := hQ28
  have N28 := Fr.app N0 N28q
  obtain ⟨T29, X29, e29, st29⟩ := getF X28 hx hZ hown (host := "") (Or.inl (hw _ (List.mem_of_getElem? (i := 38) rfl))) Via.refl e28 F_value_a0 (g := (mkF m 17 #[.val (.ref a0), .val (.int p1)] [(.ref a0)])) rfl rfl (hb hby d19_17)
  obtain ⟨_, _, ⟨T30, L30, k30, n30⟩, -, X30, ⟨Lc30, hQ30, l30, y30, z30⟩, st30⟩ := Jvm.LawKit.callS X29 hx (y := (⟨"java/lang/StringUTF16", "charAt", "([BI)C"⟩ : MethodName)) hown (mvT hZ (hw _ (List.mem_of_getElem? (i := 89) rfl))) (mvT hZ (hw _ (List.mem_of_getElem? (i := 90) rfl))) (mvT hZ (hw _ (List.mem_of_getElem? (i := 27) rfl))) (mvT hZ (hw _ (List.mem_of_getElem? (i := 91) rfl))) (by decide) (backOf (W := 0) (rm21 l Z ag hw [] b p1 kb nb bs u x gf h0 n0 Z0 V_b h1 h2 hj hj1 hu hx_ O_ S_gf rv_gf S_ad S_hi S_lo) hZ (hw _ (List.mem_of_getElem? (i := 91) rfl)) (hw _ (List.mem_of_getElem? (i := 27) rfl)) (by decide) (by decide)) (g := (mkF m 21 #[.val (.ref a0), .val (.int p1)] [(.int p1), (.ref b)])) rfl (by rw [hml]; rfl) (argsL := [(.ref b), (.int p1)]) (rest := []) (lenOf pd_17 rfl) rfl (by show 2 * 0 + _ ≤ _; exact Nat.le_of_eq rfl) (hb hby d19_21) (fun _ _ => ⟨rfl, e29, (by decide : 0 + 0 ≤ _), (by decide : 0 + 0 ≤ _)⟩)
  dsimp only [Pt.U, Pt.locs, Pt.cells, Pt.slots] at X30 l30 y30 z30 st30 hQ30
  subst l30 y30 z30
  obtain ⟨rfl, N30q, e30⟩ := hQ30
  have N30 := Fr.app N28 N30q
  obtain ⟨fs, hr, hrun, hended, hW, hsame⟩ := X30.leave (v := some (.int (nar .char (nar .char (own_gc u x))))) (fun h => by rw [Bd.returns] at h; cases h)
  refine ⟨_, _, pre0 _ ?_, hrun, hended, _, _, rfl, ?_, ⟨_, rfl⟩, hW, hsame.mono (by decide) (by decide)⟩
  · show own_S p e below s₁ (mkF m 0 #[.val (.ref a0), .val (.int p1)] []) _
    refine XS.aloadN X0.here hx rfl (hb hby d19_0) rfl rfl ?_
    show own_S p e below s₁ (mkF m 1 #[.val (.ref a0), .val (.int p1)] [(.ref a0)]) _
    refine st28.trans ?_
    show own_S p e below T28 (mkF m 4 #[.val (.ref a0), .val (.int p1)] [.int 0]) _
    refine XS.ifYes X28.here hx rfl (pc0 := 4) (pc' := 16) rfl (hb hby d19_4) rfl ((if0 _ _).trans (teq (by decide : (0 : Int32) = (0 : Int32))).1) (by decide) (by decide) ?_
    show own_S p e below T28 (mkF m 16 #[.val (.ref a0), .val (.int p1)] []) _
    refine XS.aloadN X28.here hx rfl (hb hby d19_16) rfl rfl ?_
    show own_S p e below T28 (mkF m 17 #[.val (.ref a0), .val (.int p1)] [(.ref a0)]) _
    refine st29 _ ?_
    show own_S p e below T29 (mkF m 20 #[.val (.ref a0), .val (.int p1)] [(.ref b)]) _
    refine XS.iloadN X29.here hx rfl (hb hby d19_20) rfl ?_
    show own_S p e below T29 (mkF m 21 #[.val (.ref a0), .val (.int p1)] [(.int p1), (.ref b)]) _
    refine st30 _ ?_
    show own_S p e below T30 (mkF m 24 #[.val (.ref a0), .val (.int p1)] [(.int (nar .char (own_gc u x)))]) _
    exact retN X30 hx (t := .char) Bd.returns (by simp) (hb hby d19_24) hr
  · show Q19_1 Z a0 p1 b kb nb bs u x res cs gf h0 n0 _ T30.heap _
    rw [e30]
    exact ⟨congrArg (fun z => some (Value.int z)) hres, N30, rfl⟩
theorem rm19 (l : Launch) (Z : State) (a0_ : Array Value) (hw : ∀ d ∈ tables_1, d.before a0_ Z = true) (ws : List Jvm.Cond) (a0 : Addr) (p1 : Int32) (ds : List Int32) (cs : Int32) (gf : Value) (h0 : Heap) (n0 : Nat) (Z0 : n0 ≤ h0.size) (S : own_str Z h0 a0 ds) (h1 : ¬ p1 < (0 : Int32)) (h2 : p1.toNatClampNeg < ds.length) (O_ : Old Z n0 h0) (S_cs : Sta Z Z.heap "java/lang/String" "COMPACT_STRINGS" "Z" (.int cs)) (hcs : ¬ cs = (0 : Int32)) (S_gf : Sta Z Z.heap "jdk/internal/util/Preconditions" "SIOOBE_FORMATTER" "Ljava/util/function/BiFunction;" gf) (rv_gf : gf.isRef = true) (S_ad : Sta Z Z.heap "java/lang/StringUTF16" "$assertionsDisabled" "Z" (.int (1 : Int32))) (S_hi : Sta Z Z.heap "java/lang/StringUTF16" "HI_BYTE_SHIFT" "I" (.int (0 : Int32))) (S_lo : Sta Z Z.heap "java/lang/StringUTF16" "LO_BYTE_SHIFT" "I" (.int (8 : Int32))) :
    MetFree l (⟨"java/lang/String", "charAt", "(I)C"⟩ : MethodName) (head1 (Jvm.Cond.code (⟨"java/lang/String", "charAt", "(I)C"⟩ : MethodName) jdk_42_method_56_code 2 (some .char) :: ws) ({ frames := 5, cells := 0, slots := 0, locals := 70 } : Room)) (fun a U => a = #[(.ref a0), (.int p1)] ∧ Z.Warmed39 U.vm ∧ U.heap = h0) (fun _ _ _ _ _ => True) (fun _ U o U' => ∃ v L, o = .returned v ∧ own_Qi (ds.getD p1.toNatClampNeg 0) h0 n0 v U'.heap L ∧ FrameEnd U o U' L ({ frames := 5, cells := 0, slots := 0, locals := 70 } : Room).cells ({ frames := 5, cells := 0, slots := 0, locals := 70 } : Room).slots) := by
  obtain ⟨E, hl4, b, k, nb, cd, vs, Fv, Fc, V, hor⟩ := S
  rcases hor with ⟨rfl, hn, H⟩ | ⟨rfl, hn, H⟩
  · obtain ⟨u, hu, hr⟩ := H _ h2
    exact rm19_0 l Z a0_ hw ws a0 p1 b k nb vs u _ cs gf h0 n0 Z0 E Fv Fc V h1 (own_lat_lt hl4 h1 h2 hn) hu hr O_ S_cs hcs S_gf rv_gf S_ad S_hi S_lo
  · obtain ⟨u, x, hu, hx, hr⟩ := H _ h2
    obtain ⟨q1, q2, q3, q4, q5⟩ := own_u16_ix hl4 h1 h2 hn
    exact rm19_1 l Z a0_ hw ws a0 p1 b k nb vs u x _ cs gf h0 n0 Z0 E Fv Fc V h1 q1 q2 q3 (by rw [q4]; exact hu) (by rw [q5]; exact hx) hr O_ S_cs hcs S_gf rv_gf S_ad S_hi S_lo
theorem ef_5_vv00n (m : MethodId) (a0 : Addr) (a1 : Addr) : entryFrame m #[(.ref a0), (.ref a1), (.int (0 : Int32)), (.int (0 : Int32)), .null] 6 = mkF m 0 #[.val (.ref a0), .val (.ref a1), .val (.int 0), .val (.int 0), .val .null, .unset] [] := by first | (simp [entryFrame, mkF, argsToLocals, Value.category]; done) | rfl
theorem d5_0 : decode jdk_42_method_149_code 0 = .ok (.aload_n 0, 1) := by decide +kernel
theorem d5_1 : decode jdk_42_method_149_code 1 = .ok (.invokespecial 1, 3) := by decide +kernel
theorem d5_4 : decode jdk_42_method_149_code 4 = .ok (.iload_n 3, 1) := by decide +kernel
theorem d5_5 : decode jdk_42_method_149_code 5 = .ok (.ifCond .ne 22, 3) := by decide +kernel
theorem d5_8 : decode jdk_42_method_149_code 8 = .ok (.aload_n 0, 1) := by decide +kernel
theorem d5_9 : decode jdk_42_method_149_code 9 = .ok (.ldc 7, 2) := by decide +kernel
theorem d5_11 : decode jdk_42_method_149_code 11 = .ok (.getfield 9, 3) := by decide +kernel
theorem d5_14 : decode jdk_42_method_149_code 14 = .ok (.putfield 9, 3) := by decide +kernel
theorem d5_17 : decode jdk_42_method_149_code 17 = .ok (.aload_n 0, 1) := by decide +kernel
theorem d5_18 : decode jdk_42_method_149_code 18 = .ok (.ldc 7, 2) := by decide +kernel
theorem d5_20 : decode jdk_42_method_149_code 20 = .ok (.getfield 15, 3) := by decide +kernel
theorem d5_23 : decode jdk_42_method_149_code 23 = .ok (.putfield 15, 3) := by decide +kernel
theorem d5_26 : decode jdk_42_method_149_code 26 = .ok (.return_, 1) := by decide +kernel
def Q5_s0 (Z : State) (a0 : Addr) (a1 : Addr) (kc : ClassId) (us : List Value) (h0 : Heap) (n0 : Nat) (v : Option Value) (h : Heap) (L : List Loc) : Prop := v = none ∧ Fr n0 L ∧ Keep h0 h [a0] ∧ own_str Z h a0 []
set_option maxRecDepth 65536 in
set_option maxHeartbeats 40000000 in
theorem rm5_s0 (l : Launch) (Z : State) (ag : Array Value) (hw : ∀ d ∈ tables_1, d.before ag Z = true) (ws : List Jvm.Cond) (a0 : Addr) (a1 : Addr) (kc : ClassId) (us : List Value) (h0 : Heap) (n0 : Nat) (Z0 : n0 ≤ h0.size) (E_a0 : Exa Z h0 a0 "java/lang/String") (F_value_a0 : Fld Z h0 a0 "java/lang/String" "value" "[B" .null) (F_coder_a0 : Fld Z h0 a0 "java/lang/String" "coder" "B" (.int (0 : Int32))) (ge_a0 : n0 ≤ a0) (V_a1 : Arv Z h0 a1 kc .char (0 : Int32) us (.int (0 : Int32))) :
    MetFree l (⟨"java/lang/String", "<init>", "([CIILjava/lang/Void;)V"⟩ : MethodName) (head1 (Jvm.Cond.code (⟨"java/lang/String", "<init>", "([CIILjava/lang/Void;)V"⟩ : MethodName) jdk_42_method_149_code 6 none :: ws) ({ frames := 1, cells := 4, slots := 8, locals := 12 } : Room)) (fun a U => a = #[(.ref a0), (.ref a1), (.int (0 : Int32)), (.int (0 : Int32)), .null] ∧ Z.Warmed39 U.vm ∧ U.heap = h0 ∧ CHv Z own_EL U.vm h0) (fun _ _ _ _ _ => True) (fun _ U o U' => ∃ v L, o = .returned v ∧ Q5_s0 Z a0 a1 kc us h0 n0 v U'.heap L ∧ CHr Z own_EL U.vm U.heap U'.vm U'.heap ∧ ReturnedEndW U o U' L ({ frames := 1, cells := 4, slots := 8, locals := 12 } : Room).cells ({ frames := 1, cells := 4, slots := 8, locals := 12 } : Room).slots) := by
  refine MetFree.of_bodySF (plainFor_of_name pn_3) hisR ?_
  intro p e s m args below meth c s₁ Bd hml0 hP hK
  obtain ⟨rfl, hZ, hh, hI⟩ := hP
  have hx := Bd.exec
  have hby := Bd.bytes
  have hml : c.maxLocals = 6 := hml0
  have hown : s.vm.findClass "java/lang/String" = some m.cls := findClass_of_methodNamed Bd.named
  have hnm := (name_of_methodNamed Bd.named Bd.method).1
  have X0 : Stand p l e ({ frames := 1, cells := 4, slots := 8, locals := 12 } : Room) s m #[(.ref a0), (.ref a1), (.int (0 : Int32)), (.int (0 : Int32)), .null] below meth c s₁ [] 0 0 := Stand.of_body Bd
  have e0 : s₁.heap = h0 := by rw [← hh, Bd.state]; rfl
  have N0 := Fr.nil n0
  have pre0 : ∀ t, Steps p.tables e below (s₁.setTop (mkF m 0 #[.val (.ref a0), .val (.ref a1), .val (.int 0), .val (.int 0), .val .null, .unset] [])) t → Steps p.tables e below (s₁.setTop (entryFrame m #[(.ref a0), (.ref a1), (.int (0 : Int32)), (.int (0 : Int32)), .null] 6)) t := fun t k => castTop (ef_5_vv00n m a0 a1) k
  have X0 : Stand p l e ({ frames := 1, cells := 4, slots := 8, locals := 12 } : Room) (s.setVm s.vm) m #[(.ref a0), (.ref a1), (.int (0 : Int32)), (.int (0 : Int32)), .null] below meth c s₁ [] 0 0 := X0
  have hS : s.Since s.vm 0 := (State.WarmedH.refl s).since 0
  have hkS : 0 ≤ h0.size := Nat.zero_le _
  have hC : CHr Z own_EL s.vm h0 s.vm h0 := CHr.refl hI
  have hEL : EW Z ag own_EL := own_ew hw
  have hwS : ∀ d ∈ Bundle.stringAtoms, d.before ag Z = true := fun d hd => hw d ((by decide +kernel : ∀ d ∈ Bundle.stringAtoms, d ∈ tables_1) d hd)
  have sf_a0 := own_safe_str hC hZ.alike E_a0 F_value_a0 (hw _ (List.mem_of_getElem? (i := 11) rfl))
  obtain ⟨T31, X31, e31, st31⟩ := initO X0 hx hZ hown (hw _ (List.mem_of_getElem? (i := 21) rfl)) (hw _ (List.mem_of_getElem? (i := 22) rfl)) (hw _ (List.mem_of_getElem? (i := 23) rfl)) e0 (g := (mkF m 1 #[.val (.ref a0), .val (.ref a1), .val (.int 0), .val (.int 0), .val .null, .unset] [(.ref a0)])) rfl (by rw [hml]; rfl) rfl (hb hby d5_1) (by decide) (W := 0) (by show 2 * 0 + _ ≤ _; exact Nat.le_of_eq rfl) (by decide)
  obtain ⟨sa32, T32, h32, kS32, sb32, kb32, X32, e32, E32, hS, hkS32, hZ, hown, Es32, Fc32, Fv32, Vs32, lta32, ltb32, hCs32, hLit32, hSf32, st32⟩ := ldcCH X31 hx hZ hown (hw _ (List.mem_of_getElem? (i := 40) rfl)) hwS e31 hS hkS hEL (by decide) hC.1 (vs := []) (z := (0 : Int32)) ⟨by decide, rfl⟩ (by decide) (by decide) (g := (mkF m 9 #[.val (.ref a0), .val (.ref a1), .val (.int 0), .val (.int 0), .val .null, .unset] [(.ref a0)])) rfl (hb hby d5_9) (n := 0) (by decide) (by decide) (by decide) (by decide)
  have x33 := E_a0.ext E32
  have x34 := F_value_a0.ext E32
  have x35 := F_coder_a0.ext E32
  have x36 := hCs32.safe E_a0.lt sf_a0
  have sz37 : n0 ≤ h32.size := Nat.le_trans Z0 E32.1
  have hkS := Nat.le_trans hkS E32.1
  have hC := hC.trans hCs32
  have kp38 : Keep h0 h32 [a0] := (Keep.refl h0 [a0]).ext E32
  have hkS := hkS32
  obtain ⟨T39, X39, e39, st39⟩ := getF X32 hx hZ hown (host := "") (Or.inl (hw _ (List.mem_of_getElem? (i := 38) rfl))) Via.refl e32 Fv32 (g := (mkF m 11 #[.val (.ref a0), .val (.ref a1), .val (.int 0), .val (.int 0), .val .null, .unset] [(.ref sa32), (.ref a0)])) rfl rfl (hb hby d5_11)
  obtain ⟨T40, h40, X40, e40, W40, st40⟩ := putF X39 hx hZ hown (host := "") (Or.inl (hw _ (List.mem_of_getElem? (i := 38) rfl))) Via.refl e39 x34 x33 (Or.inr ⟨(hw _ (List.mem_of_getElem? (i := 39) rfl)), rfl, hnm⟩) (hw _ (List.mem_of_getElem? (i := 11) rfl)) (ty := (.array .byte)) (by decide) rfl rfl (g := (mkF m 14 #[.val (.ref a0), .val (.ref a1), .val (.int 0), .val (.int 0), .val .null, .unset] [(.ref sb32), (.ref a0)])) rfl rfl (hb hby d5_14)
  have Fw40 := x34.same W40
  have x41 := x33.wr W40
  have x42 := x35.other W40 (Or.inr (slot_ne (Or.inr (hw _ (List.mem_of_getElem? (i := 37) rfl))) (Or.inr (hw _ (List.mem_of_getElem? (i := 39) rfl))) (by decide) (t := .byte) (t' := (.array .byte)) (by decide) (by decide)))
  have x43 := Safe.wr W40 x36 hC.1 x36
  have x44 := Es32.wr W40
  have x45 := Fc32.other W40 (Or.inl (Ne.symm (hSf32 _ x36).1))
  have x46 := Fv32.other W40 (Or.inl (Ne.symm (hSf32 _ x36).1))
  have x47 := Vs32.other W40 (Ne.symm (hSf32 _ x36).2)
  have sz48 : n0 ≤ h40.size := Nat.le_trans sz37 (Keep.of_wr W40).1
  have hkS := Nat.le_trans hkS (Keep.of_wr W40).1
  have hC := hC.trans (CHr.wr W40 x36 hC.1)
  have kp49 : Keep h0 h40 [a0] := kp38.wr W40 (Or.inl (List.mem_of_getElem? (i := 0) rfl))
  have N40 := Fr.snoc X40 N0 ge_a0
  obtain ⟨sa50, T50, h50, kS50, sb50, kb50, X50, e50, E50, hS, hkS50, hZ, hown, Es50, Fc50, Fv50, Vs50, lta50, ltb50, hCs50, hLit50, hSf50, st50⟩ := ldcCH X40 hx hZ hown (hw _ (List.mem_of_getElem? (i := 40) rfl)) hwS e40 hS hkS hEL (by decide) hC.1 (vs := []) (z := (0 : Int32)) ⟨by decide, rfl⟩ (by decide) (by decide) (g := (mkF m 18 #[.val (.ref a0), .val (.ref a1), .val (.int 0), .val (.int 0), .val .null, .unset] [(.ref a0)])) rfl (hb hby d5_18) (n := 0) (by decide) (by decide) (by decide) (by decide)
  have x51 := x41.ext E50
  have x52 := x42.ext E50
  have x53 := hCs50.safe x41.lt x43
  have x54 := x44.ext E50
  have x55 := x45.ext E50
  have x56 := x46.ext E50
  have x57 := x47.ext E50
  have x58 := Fw40.ext E50
  have sz59 : n0 ≤ h50.size := Nat.le_trans sz48 E50.1
  have hkS := Nat.le_trans hkS E50.1
  have hC := hC.trans hCs50
  have kp60 : Keep h0 h50 [a0] := kp49.ext E50
  have hkS := hkS50
  obtain ⟨T61, X61, e61, st61⟩ := getF X50 hx hZ hown (host := "") (Or.inl (hw _ (List.mem_of_getElem? (i := 36) rfl))) Via.refl e50 Fc50 (g := (mkF m 20 #[.val (.ref a0), .val (.ref a1), .val (.int 0), .val (.int 0), .val .null, .unset] [(.ref sa50), (.ref a0)])) rfl rfl (hb hby d5_20)
  obtain ⟨T62, h62, X62, e62, W62, st62⟩ := putFN X61 hx hZ hown (hw _ (List.mem_of_getElem? (i := 36) rfl)) Via.refl e61 x52 x51 (Or.inr ⟨(hw _ (List.mem_of_getElem? (i := 37) rfl)), rfl, hnm⟩) (hw _ (List.mem_of_getElem? (i := 11) rfl)) (ty := .byte) (v' := (.int (0 : Int32))) (by decide) rfl (fits_nar_byte (0 : Int32)) (g := (mkF m 23 #[.val (.ref a0), .val (.ref a1), .val (.int 0), .val (.int 0), .val .null, .unset] [.int 0, (.ref a0)])) rfl rfl (hb hby d5_23)
  have Fw62 := x52.same W62
  have x63 := x51.wr W62
  have x64 := Safe.wr W62 x53 hC.1 x53
  have x65 := x54.wr W62
  have x66 := x55.other W62 (Or.inl (Ne.symm (hSf32 _ x36).1))
  have x67 := x56.other W62 (Or.inl (Ne.symm (hSf32 _ x36).1))
  have x68 := x57.other W62 (Ne.symm (hSf32 _ x36).2)
  have x69 := x58.other W62 (Or.inr (slot_ne (Or.inr (hw _ (List.mem_of_getElem? (i := 39) rfl))) (Or.inr (hw _ (List.mem_of_getElem? (i := 37) rfl))) (by decide) (t := (.array .byte)) (t' := .byte) (by decide) (by decide)))
  have x70 := Es50.wr W62
  have x71 := Fc50.other W62 (Or.inl (Ne.symm (hSf50 _ x53).1))
  have x72 := Fv50.other W62 (Or.inl (Ne.symm (hSf50 _ x53).1))
  have x73 := Vs50.other W62 (Ne.symm (hSf50 _ x53).2)
  have sz74 : n0 ≤ h62.size := Nat.le_trans sz59 (Keep.of_wr W62).1
  have hkS := Nat.le_trans hkS (Keep.of_wr W62).1
  have hC := hC.trans (CHr.wr W62 x53 hC.1)
  have kp75 : Keep h0 h62 [a0] := kp60.wr W62 (Or.inl (List.mem_of_getElem? (i := 0) rfl))
  have N62 := Fr.snoc X62 N40 ge_a0
  obtain ⟨fs, hr, hrun, hended, hEnd⟩ := X62.leaveW hS (by rw [e62]; exact hkS) (v := none) (fun _ => rfl)
  refine ⟨_, _, pre0 _ ?_, hrun, hended, _, _, rfl, ?_, ?_, hEnd.1, hEnd.2.1, hEnd.2.2.1, hEnd.2.2.2.mono (by decide) (by decide)⟩
  · show own_S p e below s₁ (mkF m 0 #[.val (.ref a0), .val (.ref a1), .val (.int 0), .val (.int 0), .val .null, .unset] []) _
    refine XS.aloadN X0.here hx rfl (hb hby d5_0) rfl rfl ?_
    show own_S p e below s₁ (mkF m 1 #[.val (.ref a0), .val (.ref a1), .val (.int 0), .val (.int 0), .val .null, .unset] [(.ref a0)]) _
    refine st31 _ ?_
    show own_S p e below T31 (mkF m 4 #[.val (.ref a0), .val (.ref a1), .val (.int 0), .val (.int 0), .val .null, .unset] []) _
    refine XS.iloadN X31.here hx rfl (hb hby d5_4) rfl ?_
    show own_S p e below T31 (mkF m 5 #[.val (.ref a0), .val (.ref a1), .val (.int 0), .val (.int 0), .val .null, .unset] [.int 0]) _
    refine XS.ifNo X31.here hx rfl (hb hby d5_5) rfl ((if0 _ _).trans (teq (by decide : (0 : Int32) = (0 : Int32))).2) ?_
    show own_S p e below T31 (mkF m 8 #[.val (.ref a0), .val (.ref a1), .val (.int 0), .val (.int 0), .val .null, .unset] []) _
    refine XS.aloadN X31.here hx rfl (hb hby d5_8) rfl rfl ?_
    show own_S p e below T31 (mkF m 9 #[.val (.ref a0), .val (.ref a1), .val (.int 0), .val (.int 0), .val .null, .unset] [(.ref a0)]) _
    refine st32 _ ?_
    show own_S p e below T32 (mkF m 11 #[.val (.ref a0), .val (.ref a1), .val (.int 0), .val (.int 0), .val .null, .unset] [(.ref sa32), (.ref a0)]) _
    refine st39 _ ?_
    show own_S p e below T39 (mkF m 14 #[.val (.ref a0), .val (.ref a1), .val (.int 0), .val (.int 0), .val .null, .unset] [(.ref sb32), (.ref a0)]) _
    refine st40 _ ?_
    show own_S p e below T40 (mkF m 17 #[.val (.ref a0), .val (.ref a1), .val (.int 0), .val (.int 0), .val .null, .unset] []) _
    refine XS.aloadN X40.here hx rfl (hb hby d5_17) rfl rfl ?_
    show own_S p e below T40 (mkF m 18 #[.val (.ref a0), .val (.ref a1), .val (.int 0), .val (.int 0), .val .null, .unset] [(.ref a0)]) _
    refine st50 _ ?_
    show own_S p e below T50 (mkF m 20 #[.val (.ref a0), .val (.ref a1), .val (.int 0), .val (.int 0), .val .null, .unset] [(.ref sa50), (.ref a0)]) _
    refine st61 _ ?_
    show own_S p e below T61 (mkF m 23 #[.val (.ref a0), .val (.ref a1), .val (.int 0), .val (.int 0), .val .null, .unset] [.int 0, (.ref a0)]) _
    refine st62 _ ?_
    show own_S p e below T62 (mkF m 26 #[.val (.ref a0), .val (.ref a1), .val (.int 0), .val (.int 0), .val .null, .unset] []) _
    exact X62.returnOut hx Bd.returns (hb hby d5_26) hr
  · show Q5_s0 Z a0 a1 kc us h0 n0 _ T62.heap _
    rw [e62]
    exact ⟨rfl, N62, kp75, ⟨x63, (by decide : 0 ≤ 4), sb32, kb32, 0, 0, _, x69, Fw62, x68, Or.inl ⟨rfl, rfl, fun i hi => absurd hi (Nat.not_lt_zero i)⟩⟩⟩
  · show CHr Z own_EL s.vm s.heap T62.vm T62.heap
    rw [hh, show T62.heap = h62 from e62]
    exact hC.trans (CHv.at X62 hZ hEL hC.1)
theorem ef_4 (m : MethodId) (a0 : Addr) (a1 : Addr) : entryFrame m #[(.ref a0), (.ref a1)] 2 = mkF m 0 #[.val (.ref a0), .val (.ref a1)] [] := by first | (simp [entryFrame, mkF, argsToLocals, Value.category]; done) | rfl
theorem d4_0 : decode jdk_42_method_3_code 0 = .ok (.aload_n 0, 1) := by decide +kernel
theorem d4_1 : decode jdk_42_method_3_code 1 = .ok (.aload_n 1, 1) := by decide +kernel
theorem d4_2 : decode jdk_42_method_3_code 2 = .ok (.iconst 0, 1) := by decide +kernel
theorem d4_3 : decode jdk_42_method_3_code 3 = .ok (.aload_n 1, 1) := by decide +kernel
theorem d4_4 : decode jdk_42_method_3_code 4 = .ok (.arraylength, 1) := by decide +kernel
theorem d4_5 : decode jdk_42_method_3_code 5 = .ok (.aconst_null, 1) := by decide +kernel
theorem pd_21 : parseMethodDescriptor "([CIILjava/lang/Void;)V" = some ⟨[(.array .char), .int, .int, (.object "java/lang/Void")], none⟩ := by decide +kernel
theorem d4_6 : decode jdk_42_method_3_code 6 = .ok (.invokespecial 27, 3) := by decide +kernel
theorem d4_9 : decode jdk_42_method_3_code 9 = .ok (.return_, 1) := by decide +kernel
def Q4_s0 (Z : State) (a0 : Addr) (a1 : Addr) (kc : ClassId) (us : List Value) (h0 : Heap) (n0 : Nat) (v : Option Value) (h : Heap) (L : List Loc) : Prop := v = none ∧ Fr n0 L ∧ Keep h0 h [a0] ∧ own_str Z h a0 []
set_option maxRecDepth 65536 in
set_option maxHeartbeats 40000000 in
theorem rm4_s0 (l : Launch) (Z : State) (ag : Array Value) (hw : ∀ d ∈ tables_1, d.before ag Z = true) (ws : List Jvm.Cond) (a0 : Addr) (a1 : Addr) (kc : ClassId) (us : List Value) (h0 : Heap) (n0 : Nat) (Z0 : n0 ≤ h0.size) (E_a0 : Exa Z h0 a0 "java/lang/String") (F_value_a0 : Fld Z h0 a0 "java/lang/String" "value" "[B" .null) (F_coder_a0 : Fld Z h0 a0 "java/lang/String" "coder" "B" (.int (0 : Int32))) (ge_a0 : n0 ≤ a0) (V_a1 : Arv Z h0 a1 kc .char (0 : Int32) us (.int (0 : Int32))) :
    MetFree l (⟨"java/lang/String", "<init>", "([C)V"⟩ : MethodName) (head1 (Jvm.Cond.code (⟨"java/lang/String", "<init>", "([C)V"⟩ : MethodName) jdk_42_method_3_code 2 none :: ws) ({ frames := 2, cells := 4, slots := 8, locals := 29 } : Room)) (fun a U => a = #[(.ref a0), (.ref a1)] ∧ Z.Warmed39 U.vm ∧ U.heap = h0 ∧ CHv Z own_EL U.vm h0) (fun _ _ _ _ _ => True) (fun _ U o U' => ∃ v L, o = .returned v ∧ Q4_s0 Z a0 a1 kc us h0 n0 v U'.heap L ∧ CHr Z own_EL U.vm U.heap U'.vm U'.heap ∧ ReturnedEndW U o U' L ({ frames := 2, cells := 4, slots := 8, locals := 29 } : Room).cells ({ frames := 2, cells := 4, slots := 8, locals := 29 } : Room).slots) := by
  refine MetFree.of_bodySF (plainFor_of_name pn_3) hisR ?_
  intro p e s m args below meth c s₁ Bd hml0 hP hK
  obtain ⟨rfl, hZ, hh, hI⟩ := hP
  have hx := Bd.exec
  have hby := Bd.bytes
  have hml : c.maxLocals = 2 := hml0
  have hown : s.vm.findClass "java/lang/String" = some m.cls := findClass_of_methodNamed Bd.named
  have hnm := (name_of_methodNamed Bd.named Bd.method).1
  have X0 : Stand p l e ({ frames := 2, cells := 4, slots := 8, locals := 29 } : Room) s m #[(.ref a0), (.ref a1)] below meth c s₁ [] 0 0 := Stand.of_body Bd
  have e0 : s₁.heap = h0 := by rw [← hh, Bd.state]; rfl
  have N0 := Fr.nil n0
  have pre0 : ∀ t, Steps p.tables e below (s₁.setTop (mkF m 0 #[.val (.ref a0), .val (.ref a1)] [])) t → Steps p.tables e below (s₁.setTop (entryFrame m #[(.ref a0), (.ref a1)] 2)) t := fun t k => castTop (ef_4 m a0 a1) k
  have X0 : Stand p l e ({ frames := 2, cells := 4, slots := 8, locals := 29 } : Room) (s.setVm s.vm) m #[(.ref a0), (.ref a1)] below meth c s₁ [] 0 0 := X0
  have hS : s.Since s.vm 0 := (State.WarmedH.refl s).since 0
  have hkS : 0 ≤ h0.size := Nat.zero_le _
  have hC : CHr Z own_EL s.vm h0 s.vm h0 := CHr.refl hI
  have hEL : EW Z ag own_EL := own_ew hw
  have hwS : ∀ d ∈ Bundle.stringAtoms, d.before ag Z = true := fun d hd => hw d ((by decide +kernel : ∀ d ∈ Bundle.stringAtoms, d ∈ tables_1) d hd)
  obtain ⟨cl76, Ar76, -, S76, M76, -, -⟩ := id V_a1
  have ld76 := X0.arraylength hx (by rw [e0]; exact Ar76.1) (State.isArrayOf_alike hZ.alike Ar76.2.1) (g := (mkF m 4 #[.val (.ref a0), .val (.ref a1)] [(.ref a1), .int 0, (.ref a1), (.ref a0)])) rfl rfl (hb hby d4_4)
  obtain ⟨_, _, ⟨T77, L77, k77, n77⟩, -, X77, hS2_77, hg2_77, ⟨Lc77, hQ77, l77, y77, z77, hCs77⟩, st77⟩ := X0.specialBackS hx (y := (⟨"java/lang/String", "<init>", "([CIILjava/lang/Void;)V"⟩ : MethodName)) rfl hown (mvT hZ (hw _ (List.mem_of_getElem? (i := 17) rfl))) (mvT hZ (hw _ (List.mem_of_getElem? (i := 18) rfl))) (mvT hZ (hw _ (List.mem_of_getElem? (i := 20) rfl))) (by decide) (backOfSH (W := 0) (rm5_s0 l Z ag hw [] a0 a1 kc us h0 n0 Z0 E_a0 F_value_a0 F_coder_a0 ge_a0 V_a1) hZ (hw _ (List.mem_of_getElem? (i := 20) rfl)) (hw _ (List.mem_of_getElem? (i := 12) rfl)) (by decide) (by decide) hEL hC.1) (g := (mkF m 6 #[.val (.ref a0), .val (.ref a1)] [.null, .int 0, .int 0, (.ref a1), (.ref a0)])) rfl (by rw [hml]; rfl) (Steps.refl _) (a := a0) (argsL := [(.ref a1), (.int (0 : Int32)), (.int (0 : Int32)), .null]) (rest := []) (lenOf pd_21 rfl) rfl (by show 2 * 0 + _ ≤ _; exact Nat.le_of_eq rfl) (hb hby d4_6) (fun _ _ => ⟨rfl, e0, (by decide : 0 + 4 ≤ _), (by decide : 0 + 8 ≤ _)⟩)
  dsimp only [Pt.U, Pt.locs, Pt.cells, Pt.slots] at X77 l77 y77 z77 st77 hQ77 hS2_77 hg2_77 hCs77
  subst l77 y77 z77
  obtain ⟨X77, hS, hZ, hown⟩ := rebS hS (by rw [e0]; exact hkS) X77 hS2_77 hg2_77 hZ hown
  obtain ⟨rfl, N77q, K77, Ss77⟩ := hQ77
  have N77 := Fr.app N0 N77q
  have x78 := E_a0.keep K77
  have sz79 : n0 ≤ T77.heap.size := Nat.le_trans Z0 K77.1
  have hkS := Nat.le_trans hkS K77.1
  have hC := hC.trans hCs77
  have kp80 : Keep h0 T77.heap [a0] := (Keep.refl h0 [a0]).trans K77 (allS (Or.inl (List.mem_of_getElem? (i := 0) rfl)) all0)
  have hkS : T77.heap.size ≤ T77.heap.size := Nat.le_refl _
  obtain ⟨fs, hr, hrun, hended, hEnd⟩ := X77.leaveW hS hkS (v := none) (fun _ => rfl)
  refine ⟨_, _, pre0 _ ?_, hrun, hended, _, _, rfl, ?_, ?_, hEnd.1, hEnd.2.1, hEnd.2.2.1, hEnd.2.2.2.mono (by decide) (by decide)⟩
  · show own_S p e below s₁ (mkF m 0 #[.val (.ref a0), .val (.ref a1)] []) _
    refine XS.aloadN X0.here hx rfl (hb hby d4_0) rfl rfl ?_
    show own_S p e below s₁ (mkF m 1 #[.val (.ref a0), .val (.ref a1)] [(.ref a0)]) _
    refine XS.aloadN X0.here hx rfl (hb hby d4_1) rfl rfl ?_
    show own_S p e below s₁ (mkF m 2 #[.val (.ref a0), .val (.ref a1)] [(.ref a1), (.ref a0)]) _
    refine XS.iconst X0.here hx rfl (hb hby d4_2) ?_
    show own_S p e below s₁ (mkF m 3 #[.val (.ref a0), .val (.ref a1)] [.int 0, (.ref a1), (.ref a0)]) _
    refine XS.aloadN X0.here hx rfl (hb hby d4_3) rfl rfl ?_
    show own_S p e below s₁ (mkF m 4 #[.val (.ref a0), .val (.ref a1)] [(.ref a1), .int 0, (.ref a1), (.ref a0)]) _
    refine ld76 _ ?_
    rw [len_of S76 M76]
    show own_S p e below s₁ (mkF m 5 #[.val (.ref a0), .val (.ref a1)] [.int 0, .int 0, (.ref a1), (.ref a0)]) _
    refine XS.aconstNull X0.here hx rfl (hb hby d4_5) ?_
    show own_S p e below s₁ (mkF m 6 #[.val (.ref a0), .val (.ref a1)] [.null, .int 0, .int 0, (.ref a1), (.ref a0)]) _
    refine st77.trans ?_
    show own_S p e below T77 (mkF m 9 #[.val (.ref a0), .val (.ref a1)] []) _
    exact X77.returnOut hx Bd.returns (hb hby d4_9) hr
  · show Q4_s0 Z a0 a1 kc us h0 n0 _ T77.heap _
    exact ⟨rfl, N77, kp80, Ss77⟩
  · show CHr Z own_EL s.vm s.heap T77.vm T77.heap
    rw [hh]
    exact hC.trans (CHv.at X77 hZ hEL hC.1)
theorem ef_16 (m : MethodId) (a0 : Addr) (p1 : Int32) (p2 : Int32) : entryFrame m #[(.ref a0), (.int p1), (.int p2)] 3 = mkF m 0 #[.val (.ref a0), .val (.int p1), .val (.int p2)] [] := by first | (simp [entryFrame, mkF, argsToLocals, Value.category]; done) | rfl
theorem d16_0 : decode jdk_52_method_4_code 0 = .ok (.getstatic 44, 3) := by decide +kernel
theorem d16_3 : decode jdk_52_method_4_code 3 = .ok (.ifCond .ne 25, 3) := by decide +kernel
theorem d16_28 : decode jdk_52_method_4_code 28 = .ok (.iload_n 1, 1) := by decide +kernel
theorem d16_29 : decode jdk_52_method_4_code 29 = .ok (.iconst 1, 1) := by decide +kernel
theorem d16_30 : decode jdk_52_method_4_code 30 = .ok (.ishl, 1) := by decide +kernel
theorem d16_31 : decode jdk_52_method_4_code 31 = .ok (.istore_n 1, 1) := by decide +kernel
theorem d16_32 : decode jdk_52_method_4_code 32 = .ok (.aload_n 0, 1) := by decide +kernel
theorem d16_33 : decode jdk_52_method_4_code 33 = .ok (.iload_n 1, 1) := by decide +kernel
theorem d16_34 : decode jdk_52_method_4_code 34 = .ok (.iinc 1 1, 3) := by decide +kernel
theorem d16_37 : decode jdk_52_method_4_code 37 = .ok (.iload_n 2, 1) := by decide +kernel
theorem d16_38 : decode jdk_52_method_4_code 38 = .ok (.getstatic 59, 3) := by decide +kernel
theorem d16_41 : decode jdk_52_method_4_code 41 = .ok (.ishr, 1) := by decide +kernel
theorem d16_42 : decode jdk_52_method_4_code 42 = .ok (.i2b, 1) := by decide +kernel
theorem d16_43 : decode jdk_52_method_4_code 43 = .ok (.bastore, 1) := by decide +kernel
theorem d16_44 : decode jdk_52_method_4_code 44 = .ok (.aload_n 0, 1) := by decide +kernel
theorem d16_45 : decode jdk_52_method_4_code 45 = .ok (.iload_n 1, 1) := by decide +kernel
theorem d16_46 : decode jdk_52_method_4_code 46 = .ok (.iload_n 2, 1) := by decide +kernel
theorem d16_47 : decode jdk_52_method_4_code 47 = .ok (.getstatic 63, 3) := by decide +kernel
theorem d16_50 : decode jdk_52_method_4_code 50 = .ok (.ishr, 1) := by decide +kernel
theorem d16_51 : decode jdk_52_method_4_code 51 = .ok (.i2b, 1) := by decide +kernel
theorem d16_52 : decode jdk_52_method_4_code 52 = .ok (.bastore, 1) := by decide +kernel
theorem d16_53 : decode jdk_52_method_4_code 53 = .ok (.return_, 1) := by decide +kernel
def Q16 (Z : State) (a0 : Addr) (p1 : Int32) (p2 : Int32) (kb : ClassId) (nb : Int32) (bs : List Value) (h0 : Heap) (n0 : Nat) (v : Option Value) (h : Heap) (L : List Loc) : Prop := v = none ∧ Fr n0 L ∧ Keep h0 h [a0] ∧ Arv Z h a0 kb .byte nb ((bs.set ((p1 <<< ((1 : Int32) &&& 31))).toNatClampNeg (.int (nar .byte ((p2 >>> ((0 : Int32) &&& 31)).toInt8.toInt32)))).set (((p1 <<< ((1 : Int32) &&& 31)) + (1 : Int32))).toNatClampNeg (.int (nar .byte ((p2 >>> ((8 : Int32) &&& 31)).toInt8.toInt32)))) (.int (0 : Int32))
set_option maxRecDepth 65536 in
set_option maxHeartbeats 40000000 in
theorem rm16 (l : Launch) (Z : State) (ag : Array Value) (hw : ∀ d ∈ tables_1, d.before ag Z = true) (ws : List Jvm.Cond) (a0 : Addr) (p1 : Int32) (p2 : Int32) (kb : ClassId) (nb : Int32) (bs : List Value) (h0 : Heap) (n0 : Nat) (Z0 : n0 ≤ h0.size) (V_a0 : Arv Z h0 a0 kb .byte nb bs (.int (0 : Int32))) (ge_a0 : n0 ≤ a0) (hj : ¬ (p1 <<< ((1 : Int32) &&& 31)) < 0 ∧ (p1 <<< ((1 : Int32) &&& 31)) < nb) (hj1 : ¬ ((p1 <<< ((1 : Int32) &&& 31)) + (1 : Int32)) < 0 ∧ ((p1 <<< ((1 : Int32) &&& 31)) + (1 : Int32)) < nb) (hb0 : ((p1 <<< ((1 : Int32) &&& 31))).toNatClampNeg < bs.length) (hb1 : (((p1 <<< ((1 : Int32) &&& 31)) + (1 : Int32))).toNatClampNeg < bs.length) (O_ : Old Z n0 h0) (S_ad : Sta Z Z.heap "java/lang/StringUTF16" "$assertionsDisabled" "Z" (.int (1 : Int32))) (S_hi : Sta Z Z.heap "java/lang/StringUTF16" "HI_BYTE_SHIFT" "I" (.int (0 : Int32))) (S_lo : Sta Z Z.heap "java/lang/StringUTF16" "LO_BYTE_SHIFT" "I" (.int (8 : Int32))) :
    MetFree l (⟨"java/lang/StringUTF16", "putChar", "([BII)V"⟩ : MethodName) (head1 (Jvm.Cond.code (⟨"java/lang/StringUTF16", "putChar", "([BII)V"⟩ : MethodName) jdk_52_method_4_code 3 none :: ws) ({ frames := 0, cells := 0, slots := 0, locals := 0 } : Room)) (fun a U => a = #[(.ref a0), (.int p1), (.int p2)] ∧ Z.Warmed39 U.vm ∧ U.heap = h0) (fun _ _ _ _ _ => True) (fun _ U o U' => ∃ v L, o = .returned v ∧ Q16 Z a0 p1 p2 kb nb bs h0 n0 v U'.heap L ∧ FrameEnd U o U' L ({ frames := 0, cells := 0, slots := 0, locals := 0 } : Room).cells ({ frames := 0, cells := 0, slots := 0, locals := 0 } : Room).slots) := by
  refine MetFree.of_bodySF (plainFor_of_name pn_5) hisR ?_
  intro p e s m args below meth c s₁ Bd hml0 hP hK
  obtain ⟨rfl, hZ, hh⟩ := hP
  have hx := Bd.exec
  have hby := Bd.bytes
  have hml : c.maxLocals = 3 := hml0
  have hown : s.vm.findClass "java/lang/StringUTF16" = some m.cls := findClass_of_methodNamed Bd.named
  have hnm := (name_of_methodNamed Bd.named Bd.method).1
  have X0 : Stand p l e ({ frames := 0, cells := 0, slots := 0, locals := 0 } : Room) s m #[(.ref a0), (.int p1), (.int p2)] below meth c s₁ [] 0 0 := Stand.of_body Bd
  have e0 : s₁.heap = h0 := by rw [← hh, Bd.state]; rfl
  have N0 := Fr.nil n0
  have pre0 : ∀ t, Steps p.tables e below (s₁.setTop (mkF m 0 #[.val (.ref a0), .val (.int p1), .val (.int p2)] [])) t → Steps p.tables e below (s₁.setTop (entryFrame m #[(.ref a0), (.int p1), (.int p2)] 3)) t := fun t k => castTop (ef_16 m a0 p1 p2) k
  obtain ⟨T81, X81, e81, st81⟩ := getS2 X0 hx hZ hown (host := "") (Or.inl (hw _ (List.mem_of_getElem? (i := 70) rfl))) Via.refl e0 (Sta.ext O_.2 S_ad) (g := (mkF m 0 #[.val (.ref a0), .val (.int p1), .val (.int p2)] [])) rfl (hb hby d16_0)
  obtain ⟨T82, X82, e82, st82⟩ := getS2 X81 hx hZ hown (host := "") (Or.inl (hw _ (List.mem_of_getElem? (i := 71) rfl))) Via.refl e81 (Sta.ext O_.2 S_hi) (g := (mkF m 38 #[.val (.ref a0), .val (.int ((p1 <<< ((1 : Int32) &&& 31)) + (1 : Int32))), .val (.int p2)] [(.int p2), (.int (p1 <<< ((1 : Int32) &&& 31))), (.ref a0)])) rfl (hb hby d16_38)
  obtain ⟨cl83, Ar83, q83, S83, M83, H83, G83⟩ := id V_a0
  have hin83 : ¬ ((p1 <<< ((1 : Int32) &&& 31)) < 0 ∨ cl83.slots.size ≤ ((p1 <<< ((1 : Int32) &&& 31))).toNatClampNeg) := inb_of S83 hj
  obtain ⟨T83, h83, X83, e83, W83, st83⟩ := stB X82 hx hZ e82 Ar83 (j := (p1 <<< ((1 : Int32) &&& 31))) hin83 (g := (mkF m 43 #[.val (.ref a0), .val (.int ((p1 <<< ((1 : Int32) &&& 31)) + (1 : Int32))), .val (.int p2)] [(.int ((p2 >>> ((0 : Int32) &&& 31)).toInt8.toInt32)), (.int (p1 <<< ((1 : Int32) &&& 31))), (.ref a0)])) rfl rfl (hb hby d16_43)
  have V83 : Arv Z h83 a0 kb .byte nb (bs.set ((p1 <<< ((1 : Int32) &&& 31))).toNatClampNeg (.int (nar .byte ((p2 >>> ((0 : Int32) &&& 31)).toInt8.toInt32)))) (.int (0 : Int32)) := Arv.set Ar83 q83 S83 M83 H83 G83 (fits_nar_byte _) W83 ((p1 <<< ((1 : Int32) &&& 31))).toNatClampNeg rfl hb0
  have x84 := O_.wr W83 ge_a0
  have sz85 : n0 ≤ h83.size := Nat.le_trans Z0 (Keep.of_wr W83).1
  have kp86 : Keep h0 h83 [a0] := (Keep.refl h0 [a0]).wr W83 (Or.inl (List.mem_of_getElem? (i := 0) rfl))
  have N83 := Fr.snoc X83 N0 ge_a0
  obtain ⟨T87, X87, e87, st87⟩ := getS2 X83 hx hZ hown (host := "") (Or.inl (hw _ (List.mem_of_getElem? (i := 72) rfl))) Via.refl e83 (Sta.ext x84.2 S_lo) (g := (mkF m 47 #[.val (.ref a0), .val (.int ((p1 <<< ((1 : Int32) &&& 31)) + (1 : Int32))), .val (.int p2)] [(.int p2), (.int ((p1 <<< ((1 : Int32) &&& 31)) + (1 : Int32))), (.ref a0)])) rfl (hb hby d16_47)
  obtain ⟨cl88, Ar88, q88, S88, M88, H88, G88⟩ := id V83
  have hin88 : ¬ (((p1 <<< ((1 : Int32) &&& 31)) + (1 : Int32)) < 0 ∨ cl88.slots.size ≤ (((p1 <<< ((1 : Int32) &&& 31)) + (1 : Int32))).toNatClampNeg) := inb_of S88 hj1
  obtain ⟨T88, h88, X88, e88, W88, st88⟩ := stB X87 hx hZ e87 Ar88 (j := ((p1 <<< ((1 : Int32) &&& 31)) + (1 : Int32))) hin88 (g := (mkF m 52 #[.val (.ref a0), .val (.int ((p1 <<< ((1 : Int32) &&& 31)) + (1 : Int32))), .val (.int p2)] [(.int ((p2 >>> ((8 : Int32) &&& 31)).toInt8.toInt32)), (.int ((p1 <<< ((1 : Int32) &&& 31)) + (1 : Int32))), (.ref a0)])) rfl rfl (hb hby d16_52)
  have V88 : Arv Z h88 a0 kb .byte nb ((bs.set ((p1 <<< ((1 : Int32) &&& 31))).toNatClampNeg (.int (nar .byte ((p2 >>> ((0 : Int32) &&& 31)).toInt8.toInt32)))).set (((p1 <<< ((1 : Int32) &&& 31)) + (1 : Int32))).toNatClampNeg (.int (nar .byte ((p2 >>> ((8 : Int32) &&& 31)).toInt8.toInt32)))) (.int (0 : Int32)) := Arv.set Ar88 q88 S88 M88 H88 G88 (fits_nar_byte _) W88 (((p1 <<< ((1 : Int32) &&& 31)) + (1 : Int32))).toNatClampNeg rfl (by rw [List.length_set]; exact hb1)
  have x89 := x84.wr W88 ge_a0
  have sz90 : n0 ≤ h88.size := Nat.le_trans sz85 (Keep.of_wr W88).1
  have kp91 : Keep h0 h88 [a0] := kp86.wr W88 (Or.inl (List.mem_of_getElem? (i := 0) rfl))
  have N88 := Fr.snoc X88 N83 ge_a0
  obtain ⟨fs, hr, hrun, hended, hW, hsame⟩ := X88.leave (v := none) (fun _ => rfl)
  refine ⟨_, _, pre0 _ ?_, hrun, hended, _, _, rfl, ?_, ⟨_, rfl⟩, hW, hsame.mono (by decide) (by decide)⟩
  · show own_S p e below s₁ (mkF m 0 #[.val (.ref a0), .val (.int p1), .val (.int p2)] []) _
    refine st81 _ ?_
    show own_S p e below T81 (mkF m 3 #[.val (.ref a0), .val (.int p1), .val (.int p2)] [.int 1]) _
    refine XS.ifYes X81.here hx rfl (pc0 := 3) (pc' := 28) rfl (hb hby d16_3) rfl ((if0 _ _).trans (feq (by decide : ¬ ((1 : Int32) = (0 : Int32)))).2) (by decide) (by decide) ?_
    show own_S p e below T81 (mkF m 28 #[.val (.ref a0), .val (.int p1), .val (.int p2)] []) _
    refine XS.iloadN X81.here hx rfl (hb hby d16_28) rfl ?_
    show own_S p e below T81 (mkF m 29 #[.val (.ref a0), .val (.int p1), .val (.int p2)] [(.int p1)]) _
    refine XS.iconst X81.here hx rfl (hb hby d16_29) ?_
    show own_S p e below T81 (mkF m 30 #[.val (.ref a0), .val (.int p1), .val (.int p2)] [.int 1, (.int p1)]) _
    refine XS.ishl X81.here hx rfl (hb hby d16_30) rfl ?_
    show own_S p e below T81 (mkF m 31 #[.val (.ref a0), .val (.int p1), .val (.int p2)] [(.int (p1 <<< ((1 : Int32) &&& 31)))]) _
    refine XS.istoreN X81.here hx rfl (hb hby d16_31) rfl (l' := #[.val (.ref a0), .val (.int (p1 <<< ((1 : Int32) &&& 31))), .val (.int p2)]) rfl ?_
    show own_S p e below T81 (mkF m 32 #[.val (.ref a0), .val (.int (p1 <<< ((1 : Int32) &&& 31))), .val (.int p2)] []) _
    refine XS.aloadN X81.here hx rfl (hb hby d16_32) rfl rfl ?_
    show own_S p e below T81 (mkF m 33 #[.val (.ref a0), .val (.int (p1 <<< ((1 : Int32) &&& 31))), .val (.int p2)] [(.ref a0)]) _
    refine XS.iloadN X81.here hx rfl (hb hby d16_33) rfl ?_
    show own_S p e below T81 (mkF m 34 #[.val (.ref a0), .val (.int (p1 <<< ((1 : Int32) &&& 31))), .val (.int p2)] [(.int (p1 <<< ((1 : Int32) &&& 31))), (.ref a0)]) _
    refine XS.iinc X81.here hx rfl (hb hby d16_34) rfl (l' := #[.val (.ref a0), .val (.int ((p1 <<< ((1 : Int32) &&& 31)) + (1 : Int32))), .val (.int p2)]) rfl ?_
    show own_S p e below T81 (mkF m 37 #[.val (.ref a0), .val (.int ((p1 <<< ((1 : Int32) &&& 31)) + (1 : Int32))), .val (.int p2)] [(.int (p1 <<< ((1 : Int32) &&& 31))), (.ref a0)]) _
    refine XS.iloadN X81.here hx rfl (hb hby d16_37) rfl ?_
    show own_S p e below T81 (mkF m 38 #[.val (.ref a0), .val (.int ((p1 <<< ((1 : Int32) &&& 31)) + (1 : Int32))), .val (.int p2)] [(.int p2), (.int (p1 <<< ((1 : Int32) &&& 31))), (.ref a0)]) _
    refine st82 _ ?_
    show own_S p e below T82 (mkF m 41 #[.val (.ref a0), .val (.int ((p1 <<< ((1 : Int32) &&& 31)) + (1 : Int32))), .val (.int p2)] [.int 0, (.int p2), (.int (p1 <<< ((1 : Int32) &&& 31))), (.ref a0)]) _
    refine XS.ishr X82.here hx rfl (hb hby d16_41) rfl ?_
    show own_S p e below T82 (mkF m 42 #[.val (.ref a0), .val (.int ((p1 <<< ((1 : Int32) &&& 31)) + (1 : Int32))), .val (.int p2)] [(.int (p2 >>> ((0 : Int32) &&& 31))), (.int (p1 <<< ((1 : Int32) &&& 31))), (.ref a0)]) _
    refine XS.i2b X82.here hx rfl (hb hby d16_42) rfl ?_
    show own_S p e below T82 (mkF m 43 #[.val (.ref a0), .val (.int ((p1 <<< ((1 : Int32) &&& 31)) + (1 : Int32))), .val (.int p2)] [(.int ((p2 >>> ((0 : Int32) &&& 31)).toInt8.toInt32)), (.int (p1 <<< ((1 : Int32) &&& 31))), (.ref a0)]) _
    refine st83 _ ?_
    show own_S p e below T83 (mkF m 44 #[.val (.ref a0), .val (.int ((p1 <<< ((1 : Int32) &&& 31)) + (1 : Int32))), .val (.int p2)] []) _
    refine XS.aloadN X83.here hx rfl (hb hby d16_44) rfl rfl ?_
    show own_S p e below T83 (mkF m 45 #[.val (.ref a0), .val (.int ((p1 <<< ((1 : Int32) &&& 31)) + (1 : Int32))), .val (.int p2)] [(.ref a0)]) _
    refine XS.iloadN X83.here hx rfl (hb hby d16_45) rfl ?_
    show own_S p e below T83 (mkF m 46 #[.val (.ref a0), .val (.int ((p1 <<< ((1 : Int32) &&& 31)) + (1 : Int32))), .val (.int p2)] [(.int ((p1 <<< ((1 : Int32) &&& 31)) + (1 : Int32))), (.ref a0)]) _
    refine XS.iloadN X83.here hx rfl (hb hby d16_46) rfl ?_
    show own_S p e below T83 (mkF m 47 #[.val (.ref a0), .val (.int ((p1 <<< ((1 : Int32) &&& 31)) + (1 : Int32))), .val (.int p2)] [(.int p2), (.int ((p1 <<< ((1 : Int32) &&& 31)) + (1 : Int32))), (.ref a0)]) _
    refine st87 _ ?_
    show own_S p e below T87 (mkF m 50 #[.val (.ref a0), .val (.int ((p1 <<< ((1 : Int32) &&& 31)) + (1 : Int32))), .val (.int p2)] [.int 8, (.int p2), (.int ((p1 <<< ((1 : Int32) &&& 31)) + (1 : Int32))), (.ref a0)]) _
    refine XS.ishr X87.here hx rfl (hb hby d16_50) rfl ?_
    show own_S p e below T87 (mkF m 51 #[.val (.ref a0), .val (.int ((p1 <<< ((1 : Int32) &&& 31)) + (1 : Int32))), .val (.int p2)] [(.int (p2 >>> ((8 : Int32) &&& 31))), (.int ((p1 <<< ((1 : Int32) &&& 31)) + (1 : Int32))), (.ref a0)]) _
    refine XS.i2b X87.here hx rfl (hb hby d16_51) rfl ?_
    show own_S p e below T87 (mkF m 52 #[.val (.ref a0), .val (.int ((p1 <<< ((1 : Int32) &&& 31)) + (1 : Int32))), .val (.int p2)] [(.int ((p2 >>> ((8 : Int32) &&& 31)).toInt8.toInt32)), (.int ((p1 <<< ((1 : Int32) &&& 31)) + (1 : Int32))), (.ref a0)]) _
    refine st88 _ ?_
    show own_S p e below T88 (mkF m 53 #[.val (.ref a0), .val (.int ((p1 <<< ((1 : Int32) &&& 31)) + (1 : Int32))), .val (.int p2)] []) _
    exact X88.returnOut hx Bd.returns (hb hby d16_53) hr
  · show Q16 Z a0 p1 p2 kb nb bs h0 n0 _ T88.heap _
    rw [e88]
    exact ⟨rfl, N88, kp91, V88⟩
theorem ef_9 (m : MethodId) (a0 : Addr) (p1 : Int32) : entryFrame m #[(.ref a0), (.int p1)] 2 = mkF m 0 #[.val (.ref a0), .val (.int p1)] [] := by first | (simp [entryFrame, mkF, argsToLocals, Value.category]; done) | rfl
theorem d9_0 : decode jdk_52_method_15_code 0 = .ok (.iload_n 1, 1) := by decide +kernel
theorem d9_1 : decode jdk_52_method_15_code 1 = .ok (.aload_n 0, 1) := by decide +kernel
theorem d9_2 : decode jdk_52_method_15_code 2 = .ok (.arraylength, 1) := by decide +kernel
theorem d9_3 : decode jdk_52_method_15_code 3 = .ok (.isub, 1) := by decide +kernel
theorem d9_4 : decode jdk_52_method_15_code 4 = .ok (.bipush 31, 2) := by decide +kernel
theorem d9_6 : decode jdk_52_method_15_code 6 = .ok (.iushr, 1) := by decide +kernel
theorem d9_7 : decode jdk_52_method_15_code 7 = .ok (.i2b, 1) := by decide +kernel
theorem d9_8 : decode jdk_52_method_15_code 8 = .ok (.ireturn, 1) := by decide +kernel
def Q9 (Z : State) (a0 : Addr) (p1 : Int32) (kb : ClassId) (nb : Int32) (bs : List Value) (res : Int32) (h0 : Heap) (n0 : Nat) (v : Option Value) (h : Heap) (L : List Loc) : Prop := v = some (.int res) ∧ Fr n0 L ∧ h = h0
set_option maxRecDepth 65536 in
set_option maxHeartbeats 40000000 in
theorem rm9 (l : Launch) (Z : State) (ag : Array Value) (hw : ∀ d ∈ tables_1, d.before ag Z = true) (ws : List Jvm.Cond) (a0 : Addr) (p1 : Int32) (kb : ClassId) (nb : Int32) (bs : List Value) (res : Int32) (h0 : Heap) (n0 : Nat) (Z0 : n0 ≤ h0.size) (V_a0 : Arv Z h0 a0 kb .byte nb bs (.int (0 : Int32))) (hres : (nar .byte ((own_ushr (p1 - nb) (31 : Int32)).toInt8.toInt32)) = res) :
    MetFree l (⟨"java/lang/StringUTF16", "coderFromArrayLen", "([BI)B"⟩ : MethodName) (head1 (Jvm.Cond.code (⟨"java/lang/StringUTF16", "coderFromArrayLen", "([BI)B"⟩ : MethodName) jdk_52_method_15_code 2 (some .byte) :: ws) ({ frames := 0, cells := 0, slots := 0, locals := 0 } : Room)) (fun a U => a = #[(.ref a0), (.int p1)] ∧ Z.Warmed39 U.vm ∧ U.heap = h0) (fun _ _ _ _ _ => True) (fun _ U o U' => ∃ v L, o = .returned v ∧ Q9 Z a0 p1 kb nb bs res h0 n0 v U'.heap L ∧ FrameEnd U o U' L ({ frames := 0, cells := 0, slots := 0, locals := 0 } : Room).cells ({ frames := 0, cells := 0, slots := 0, locals := 0 } : Room).slots) := by
  refine MetFree.of_bodySF (plainFor_of_name pn_5) hisR ?_
  intro p e s m args below meth c s₁ Bd hml0 hP hK
  obtain ⟨rfl, hZ, hh⟩ := hP
  have hx := Bd.exec
  have hby := Bd.bytes
  have hml : c.maxLocals = 2 := hml0
  have hown : s.vm.findClass "java/lang/StringUTF16" = some m.cls := findClass_of_methodNamed Bd.named
  have hnm := (name_of_methodNamed Bd.named Bd.method).1
  have X0 : Stand p l e ({ frames := 0, cells := 0, slots := 0, locals := 0 } : Room) s m #[(.ref a0), (.int p1)] below meth c s₁ [] 0 0 := Stand.of_body Bd
  have e0 : s₁.heap = h0 := by rw [← hh, Bd.state]; rfl
  have N0 := Fr.nil n0
  have pre0 : ∀ t, Steps p.tables e below (s₁.setTop (mkF m 0 #[.val (.ref a0), .val (.int p1)] [])) t → Steps p.tables e below (s₁.setTop (entryFrame m #[(.ref a0), (.int p1)] 2)) t := fun t k => castTop (ef_9 m a0 p1) k
  obtain ⟨cl92, Ar92, -, S92, M92, -, -⟩ := id V_a0
  have ld92 := X0.arraylength hx (by rw [e0]; exact Ar92.1) (State.isArrayOf_alike hZ.alike Ar92.2.1) (g := (mkF m 2 #[.val (.ref a0), .val (.int p1)] [(.ref a0), (.int p1)])) rfl rfl (hb hby d9_2)
  obtain ⟨fs, hr, hrun, hended, hW, hsame⟩ := X0.leave (v := some (.int (nar .byte ((own_ushr (p1 - nb) (31 : Int32)).toInt8.toInt32)))) (fun h => by rw [Bd.returns] at h; cases h)
  refine ⟨_, _, pre0 _ ?_, hrun, hended, _, _, rfl, ?_, ⟨_, rfl⟩, hW, hsame.mono (by decide) (by decide)⟩
  · show own_S p e below s₁ (mkF m 0 #[.val (.ref a0), .val (.int p1)] []) _
    refine XS.iloadN X0.here hx rfl (hb hby d9_0) rfl ?_
    show own_S p e below s₁ (mkF m 1 #[.val (.ref a0), .val (.int p1)] [(.int p1)]) _
    refine XS.aloadN X0.here hx rfl (hb hby d9_1) rfl rfl ?_
    show own_S p e below s₁ (mkF m 2 #[.val (.ref a0), .val (.int p1)] [(.ref a0), (.int p1)]) _
    refine ld92 _ ?_
    rw [len_of S92 M92]
    show own_S p e below s₁ (mkF m 3 #[.val (.ref a0), .val (.int p1)] [(.int nb), (.int p1)]) _
    refine XS.isub X0.here hx rfl (hb hby d9_3) rfl ?_
    show own_S p e below s₁ (mkF m 4 #[.val (.ref a0), .val (.int p1)] [(.int (p1 - nb))]) _
    refine XS.bipush X0.here hx rfl (hb hby d9_4) ?_
    show own_S p e below s₁ (mkF m 6 #[.val (.ref a0), .val (.int p1)] [.int 31, (.int (p1 - nb))]) _
    refine XS.iushr X0.here hx rfl (hb hby d9_6) rfl ?_
    show own_S p e below s₁ (mkF m 7 #[.val (.ref a0), .val (.int p1)] [(.int (own_ushr (p1 - nb) (31 : Int32)))]) _
    refine XS.i2b X0.here hx rfl (hb hby d9_7) rfl ?_
    show own_S p e below s₁ (mkF m 8 #[.val (.ref a0), .val (.int p1)] [(.int ((own_ushr (p1 - nb) (31 : Int32)).toInt8.toInt32))]) _
    exact retN X0 hx (t := .byte) Bd.returns (by simp) (hb hby d9_8) hr
  · show Q9 Z a0 p1 kb nb bs res h0 n0 _ s₁.heap _
    rw [e0]
    exact ⟨congrArg (fun z => some (Value.int z)) hres, N0, rfl⟩
theorem ef_15 (m : MethodId) (p0 : Int32) : entryFrame m #[(.int p0)] 1 = mkF m 0 #[.val (.int p0)] [] := by first | (simp [entryFrame, mkF, argsToLocals, Value.category]; done) | rfl
theorem d15_0 : decode jdk_52_method_3_code 0 = .ok (.iload_n 0, 1) := by decide +kernel
theorem d15_1 : decode jdk_52_method_3_code 1 = .ok (.ifCond .ge 11, 3) := by decide +kernel
theorem d15_12 : decode jdk_52_method_3_code 12 = .ok (.iload_n 0, 1) := by decide +kernel
theorem d15_13 : decode jdk_52_method_3_code 13 = .ok (.ldc 20, 2) := by decide +kernel
theorem d15_15 : decode jdk_52_method_3_code 15 = .ok (.if_icmp .lt 40, 3) := by decide +kernel
theorem d15_55 : decode jdk_52_method_3_code 55 = .ok (.iload_n 0, 1) := by decide +kernel
theorem d15_56 : decode jdk_52_method_3_code 56 = .ok (.iconst 1, 1) := by decide +kernel
theorem d15_57 : decode jdk_52_method_3_code 57 = .ok (.ishl, 1) := by decide +kernel
theorem d15_58 : decode jdk_52_method_3_code 58 = .ok (.ireturn, 1) := by decide +kernel
def Q15 (Z : State) (p0 : Int32) (res : Int32) (h0 : Heap) (n0 : Nat) (v : Option Value) (h : Heap) (L : List Loc) : Prop := v = some (.int res) ∧ Fr n0 L ∧ h = h0
set_option maxRecDepth 65536 in
set_option maxHeartbeats 40000000 in
theorem rm15 (l : Launch) (Z : State) (ag : Array Value) (hw : ∀ d ∈ tables_1, d.before ag Z = true) (ws : List Jvm.Cond) (p0 : Int32) (res : Int32) (h0 : Heap) (n0 : Nat) (Z0 : n0 ≤ h0.size) (h1 : ¬ p0 < (0 : Int32)) (h2 : p0 < (1073741823 : Int32)) (hres : (p0 <<< ((1 : Int32) &&& 31)) = res) :
    MetFree l (⟨"java/lang/StringUTF16", "newBytesLength", "(I)I"⟩ : MethodName) (head1 (Jvm.Cond.code (⟨"java/lang/StringUTF16", "newBytesLength", "(I)I"⟩ : MethodName) jdk_52_method_3_code 1 (some .int) :: ws) ({ frames := 0, cells := 0, slots := 0, locals := 0 } : Room)) (fun a U => a = #[(.int p0)] ∧ Z.Warmed39 U.vm ∧ U.heap = h0) (fun _ _ _ _ _ => True) (fun _ U o U' => ∃ v L, o = .returned v ∧ Q15 Z p0 res h0 n0 v U'.heap L ∧ FrameEnd U o U' L ({ frames := 0, cells := 0, slots := 0, locals := 0 } : Room).cells ({ frames := 0, cells := 0, slots := 0, locals := 0 } : Room).slots) := by
  refine MetFree.of_bodySF (plainFor_of_name pn_5) hisR ?_
  intro p e s m args below meth c s₁ Bd hml0 hP hK
  obtain ⟨rfl, hZ, hh⟩ := hP
  have hx := Bd.exec
  have hby := Bd.bytes
  have hml : c.maxLocals = 1 := hml0
  have hown : s.vm.findClass "java/lang/StringUTF16" = some m.cls := findClass_of_methodNamed Bd.named
  have hnm := (name_of_methodNamed Bd.named Bd.method).1
  have X0 : Stand p l e ({ frames := 0, cells := 0, slots := 0, locals := 0 } : Room) s m #[(.int p0)] below meth c s₁ [] 0 0 := Stand.of_body Bd
  have e0 : s₁.heap = h0 := by rw [← hh, Bd.state]; rfl
  have N0 := Fr.nil n0
  have pre0 : ∀ t, Steps p.tables e below (s₁.setTop (mkF m 0 #[.val (.int p0)] [])) t → Steps p.tables e below (s₁.setTop (entryFrame m #[(.int p0)] 1)) t := fun t k => castTop (ef_15 m p0) k
  obtain ⟨fs, hr, hrun, hended, hW, hsame⟩ := X0.leave (v := some (.int (p0 <<< ((1 : Int32) &&& 31)))) (fun h => by rw [Bd.returns] at h; cases h)
  refine ⟨_, _, pre0 _ ?_, hrun, hended, _, _, rfl, ?_, ⟨_, rfl⟩, hW, hsame.mono (by decide) (by decide)⟩
  · show own_S p e below s₁ (mkF m 0 #[.val (.int p0)] []) _
    refine XS.iloadN X0.here hx rfl (hb hby d15_0) rfl ?_
    show own_S p e below s₁ (mkF m 1 #[.val (.int p0)] [(.int p0)]) _
    refine XS.ifYes X0.here hx rfl (pc0 := 1) (pc' := 12) rfl (hb hby d15_1) rfl ((if0 _ _).trans (flt (show ¬ (p0 < (0 : Int32)) from h1)).2.1) (by decide) (by decide) ?_
    show own_S p e below s₁ (mkF m 12 #[.val (.int p0)] []) _
    refine XS.iloadN X0.here hx rfl (hb hby d15_12) rfl ?_
    show own_S p e below s₁ (mkF m 13 #[.val (.int p0)] [(.int p0)]) _
    refine X0.ldcInt hx hown (mvT hZ (hw _ (List.mem_of_getElem? (i := 66) rfl))) (g := (mkF m 13 #[.val (.int p0)] [(.int p0)])) rfl (hb hby d15_13) _ ?_
    show own_S p e below s₁ (mkF m 15 #[.val (.int p0)] [.int 1073741823, (.int p0)]) _
    refine XS.icmpYes X0.here hx rfl (pc0 := 15) (pc' := 55) rfl (hb hby d15_15) rfl (tlt (show p0 < (1073741823 : Int32) from h2)).1 (by decide) (by decide) ?_
    show own_S p e below s₁ (mkF m 55 #[.val (.int p0)] []) _
    refine XS.iloadN X0.here hx rfl (hb hby d15_55) rfl ?_
    show own_S p e below s₁ (mkF m 56 #[.val (.int p0)] [(.int p0)]) _
    refine XS.iconst X0.here hx rfl (hb hby d15_56) ?_
    show own_S p e below s₁ (mkF m 57 #[.val (.int p0)] [.int 1, (.int p0)]) _
    refine XS.ishl X0.here hx rfl (hb hby d15_57) rfl ?_
    show own_S p e below s₁ (mkF m 58 #[.val (.int p0)] [(.int (p0 <<< ((1 : Int32) &&& 31)))]) _
    exact retI X0 hx Bd.returns (hb hby d15_58) hr
  · show Q15 Z p0 res h0 n0 _ s₁.heap _
    rw [e0]
    exact ⟨congrArg (fun z => some (Value.int z)) hres, N0, rfl⟩
theorem ef_14 (m : MethodId) (p0 : Int32) : entryFrame m #[(.int p0)] 1 = mkF m 0 #[.val (.int p0)] [] := by first | (simp [entryFrame, mkF, argsToLocals, Value.category]; done) | rfl
theorem d14_0 : decode jdk_52_method_2_code 0 = .ok (.iload_n 0, 1) := by decide +kernel
theorem pd_8 : parseMethodDescriptor "(I)I" = some ⟨[.int], some .int⟩ := by decide +kernel
theorem d14_1 : decode jdk_52_method_2_code 1 = .ok (.invokestatic 11, 3) := by decide +kernel
theorem d14_4 : decode jdk_52_method_2_code 4 = .ok (.newarray .byte, 2) := by decide +kernel
theorem d14_6 : decode jdk_52_method_2_code 6 = .ok (.areturn, 1) := by decide +kernel
def Q14 (Z : State) (p0 : Int32) (res : Int32) (h0 : Heap) (n0 : Nat) (v : Option Value) (h : Heap) (L : List Loc) : Prop := ∃ (r : Addr) (kb : ClassId), v = some (.ref r) ∧ Fr n0 L ∧ Keep h0 h [] ∧ n0 ≤ r ∧ h0.size ≤ r ∧ Arv Z h r kb .byte res [] (.int (0 : Int32))
set_option maxRecDepth 65536 in
set_option maxHeartbeats 40000000 in
theorem rm14 (l : Launch) (Z : State) (ag : Array Value) (hw : ∀ d ∈ tables_1, d.before ag Z = true) (ws : List Jvm.Cond) (p0 : Int32) (res : Int32) (h0 : Heap) (n0 : Nat) (Z0 : n0 ≤ h0.size) (h1 : ¬ p0 < (0 : Int32)) (h2 : p0 < (1073741823 : Int32)) (hres : (p0 <<< ((1 : Int32) &&& 31)) = res) (hn : ¬ res < 0) (hc : res.toNatClampNeg ≤ 8) :
    MetFree l (⟨"java/lang/StringUTF16", "newBytesFor", "(I)[B"⟩ : MethodName) (head1 (Jvm.Cond.code (⟨"java/lang/StringUTF16", "newBytesFor", "(I)[B"⟩ : MethodName) jdk_52_method_2_code 1 (some (.array .byte)) :: ws) ({ frames := 1, cells := 1, slots := 8, locals := 12 } : Room)) (fun a U => a = #[(.int p0)] ∧ Z.Warmed39 U.vm ∧ U.heap = h0) (fun _ _ _ _ _ => True) (fun _ U o U' => ∃ v L, o = .returned v ∧ Q14 Z p0 res h0 n0 v U'.heap L ∧ FrameEnd U o U' L ({ frames := 1, cells := 1, slots := 8, locals := 12 } : Room).cells ({ frames := 1, cells := 1, slots := 8, locals := 12 } : Room).slots) := by
  refine MetFree.of_bodySF (plainFor_of_name pn_5) hisR ?_
  intro p e s m args below meth c s₁ Bd hml0 hP hK
  obtain ⟨rfl, hZ, hh⟩ := hP
  have hx := Bd.exec
  have hby := Bd.bytes
  have hml : c.maxLocals = 1 := hml0
  have hown : s.vm.findClass "java/lang/StringUTF16" = some m.cls := findClass_of_methodNamed Bd.named
  have hnm := (name_of_methodNamed Bd.named Bd.method).1
  have X0 : Stand p l e ({ frames := 1, cells := 1, slots := 8, locals := 12 } : Room) s m #[(.int p0)] below meth c s₁ [] 0 0 := Stand.of_body Bd
  have e0 : s₁.heap = h0 := by rw [← hh, Bd.state]; rfl
  have N0 := Fr.nil n0
  have pre0 : ∀ t, Steps p.tables e below (s₁.setTop (mkF m 0 #[.val (.int p0)] [])) t → Steps p.tables e below (s₁.setTop (entryFrame m #[(.int p0)] 1)) t := fun t k => castTop (ef_14 m p0) k
  obtain ⟨_, _, ⟨T93, L93, k93, n93⟩, -, X93, ⟨Lc93, hQ93, l93, y93, z93⟩, st93⟩ := Jvm.LawKit.callS X0 hx (y := (⟨"java/lang/StringUTF16", "newBytesLength", "(I)I"⟩ : MethodName)) hown (mvT hZ (hw _ (List.mem_of_getElem? (i := 63) rfl))) (mvT hZ (hw _ (List.mem_of_getElem? (i := 64) rfl))) (mvT hZ (hw _ (List.mem_of_getElem? (i := 27) rfl))) (mvT hZ (hw _ (List.mem_of_getElem? (i := 65) rfl))) (by decide) (backOf (W := 0) (rm15 l Z ag hw [] p0 res h0 n0 Z0 h1 h2 hres) hZ (hw _ (List.mem_of_getElem? (i := 65) rfl)) (hw _ (List.mem_of_getElem? (i := 27) rfl)) (by decide) (by decide)) (g := (mkF m 1 #[.val (.int p0)] [(.int p0)])) rfl (by rw [hml]; rfl) (argsL := [(.int p0)]) (rest := []) (lenOf pd_8 rfl) rfl (by show 2 * 0 + _ ≤ _; exact Nat.le_of_eq rfl) (hb hby d14_1) (fun _ _ => ⟨rfl, e0, (by decide : 0 + 0 ≤ _), (by decide : 0 + 0 ≤ _)⟩)
  dsimp only [Pt.U, Pt.locs, Pt.cells, Pt.slots] at X93 l93 y93 z93 st93 hQ93
  subst l93 y93 z93
  obtain ⟨rfl, N93q, e93⟩ := hQ93
  have N93 := Fr.app N0 N93q
  obtain ⟨T94, h94, k94, X94, e94, E94, A94, st94⟩ := newP X93 hx hZ (hw _ (List.mem_of_getElem? (i := 29) rfl)) e93 (g := (mkF m 4 #[.val (.int p0)] [(.int res)])) rfl (hb hby d14_4) rfl hn (cap := 8) hc (by decide) (by decide) (by decide)
  obtain ⟨b94, g94⟩ : ∃ z, z = h0.size := ⟨_, rfl⟩
  have ge_b94 : n0 ≤ b94 := Nat.le_trans Z0 (Nat.le_of_eq g94.symm)
  have gs_b94 : h0.size ≤ b94 := Nat.le_trans (Keep.refl h0 []).1 (Nat.le_of_eq g94.symm)
  rw [← g94] at A94 st94
  have sz95 : n0 ≤ h94.size := Nat.le_trans Z0 E94.1
  have kp96 : Keep h0 h94 [] := (Keep.refl h0 []).ext E94
  have V94 : Arv Z h94 b94 k94 .byte res [] (.int (0 : Int32)) := Arv.new A94 hn
  obtain ⟨fs, hr, hrun, hended, hW, hsame⟩ := X94.leave (v := some (.ref b94)) (fun h => by rw [Bd.returns] at h; cases h)
  refine ⟨_, _, pre0 _ ?_, hrun, hended, _, _, rfl, ?_, ⟨_, rfl⟩, hW, hsame.mono (by decide) (by decide)⟩
  · show own_S p e below s₁ (mkF m 0 #[.val (.int p0)] []) _
    refine XS.iloadN X0.here hx rfl (hb hby d14_0) rfl ?_
    show own_S p e below s₁ (mkF m 1 #[.val (.int p0)] [(.int p0)]) _
    refine st93 _ ?_
    show own_S p e below T93 (mkF m 4 #[.val (.int p0)] [(.int res)]) _
    refine st94 _ ?_
    show own_S p e below T94 (mkF m 6 #[.val (.int p0)] [(.ref b94)]) _
    exact Jvm.RoadKit.retOut X94 hx Bd.returns rfl (Or.inr (Or.inr (Or.inr (Or.inr ⟨rfl, rfl, rfl⟩)))) (hb hby d14_6) hr
  · show Q14 Z p0 res h0 n0 _ T94.heap _
    rw [e94]
    exact ⟨b94, k94, rfl, N93, kp96, ge_b94, gs_b94, V94⟩
theorem ef_13_v01 (m : MethodId) (a0 : Addr) : entryFrame m #[(.ref a0), (.int (0 : Int32)), (.int (1 : Int32))] 5 = mkF m 0 #[.val (.ref a0), .val (.int 0), .val (.int 1), .unset, .unset] [] := by first | (simp [entryFrame, mkF, argsToLocals, Value.category]; done) | rfl
theorem d13_0 : decode jdk_52_method_14_code 0 = .ok (.iload_n 2, 1) := by decide +kernel
theorem pd_9 : parseMethodDescriptor "(I)[B" = some ⟨[.int], some (.array .byte)⟩ := by decide +kernel
theorem d13_1 : decode jdk_52_method_14_code 1 = .ok (.invokestatic 107, 3) := by decide +kernel
theorem d13_4 : decode jdk_52_method_14_code 4 = .ok (.astore_n 3, 1) := by decide +kernel
theorem d13_5 : decode jdk_52_method_14_code 5 = .ok (.iconst 0, 1) := by decide +kernel
theorem d13_6 : decode jdk_52_method_14_code 6 = .ok (.istore 4, 2) := by decide +kernel
theorem d13_8 : decode jdk_52_method_14_code 8 = .ok (.iload 4, 2) := by decide +kernel
theorem d13_10 : decode jdk_52_method_14_code 10 = .ok (.iload_n 2, 1) := by decide +kernel
theorem d13_11 : decode jdk_52_method_14_code 11 = .ok (.if_icmp .ge 21, 3) := by decide +kernel
theorem d13_14 : decode jdk_52_method_14_code 14 = .ok (.aload_n 3, 1) := by decide +kernel
theorem d13_15 : decode jdk_52_method_14_code 15 = .ok (.iload 4, 2) := by decide +kernel
theorem d13_17 : decode jdk_52_method_14_code 17 = .ok (.aload_n 0, 1) := by decide +kernel
theorem d13_18 : decode jdk_52_method_14_code 18 = .ok (.iload_n 1, 1) := by decide +kernel
theorem d13_19 : decode jdk_52_method_14_code 19 = .ok (.caload, 1) := by decide +kernel
theorem pd_18 : parseMethodDescriptor "([BII)V" = some ⟨[(.array .byte), .int, .int], none⟩ := by decide +kernel
theorem d13_20 : decode jdk_52_method_14_code 20 = .ok (.invokestatic 111, 3) := by decide +kernel
theorem d13_23 : decode jdk_52_method_14_code 23 = .ok (.iinc 1 1, 3) := by decide +kernel
theorem d13_26 : decode jdk_52_method_14_code 26 = .ok (.iinc 4 1, 3) := by decide +kernel
theorem d13_29 : decode jdk_52_method_14_code 29 = .ok (.goto (-21), 3) := by decide +kernel
theorem d13_32 : decode jdk_52_method_14_code 32 = .ok (.aload_n 3, 1) := by decide +kernel
theorem d13_33 : decode jdk_52_method_14_code 33 = .ok (.areturn, 1) := by decide +kernel
def Q13_s1 (Z : State) (a0 : Addr) (kc : ClassId) (c0 : Int32) (h0 : Heap) (n0 : Nat) (v : Option Value) (h : Heap) (L : List Loc) : Prop := ∃ (r : Addr) (kb : ClassId), v = some (.ref r) ∧ Fr n0 L ∧ Keep h0 h [] ∧ n0 ≤ r ∧ h0.size ≤ r ∧ Arv Z h r kb .byte (2 : Int32) [(.int (nar .byte ((c0 >>> ((0 : Int32) &&& 31)).toInt8.toInt32))), (.int (nar .byte ((c0 >>> ((8 : Int32) &&& 31)).toInt8.toInt32)))] (.int (0 : Int32))
set_option maxRecDepth 65536 in
set_option maxHeartbeats 40000000 in
theorem rm13_s1 (l : Launch) (Z : State) (ag : Array Value) (hw : ∀ d ∈ tables_1, d.before ag Z = true) (ws : List Jvm.Cond) (a0 : Addr) (kc : ClassId) (c0 : Int32) (h0 : Heap) (n0 : Nat) (Z0 : n0 ≤ h0.size) (V_a0 : Arv Z h0 a0 kc .char (1 : Int32) [(.int c0)] (.int (0 : Int32))) (hr_c0 : 0 ≤ c0.toInt ∧ c0.toInt < 65536) (O_ : Old Z n0 h0) (S_ad : Sta Z Z.heap "java/lang/StringUTF16" "$assertionsDisabled" "Z" (.int (1 : Int32))) (S_hi : Sta Z Z.heap "java/lang/StringUTF16" "HI_BYTE_SHIFT" "I" (.int (0 : Int32))) (S_lo : Sta Z Z.heap "java/lang/StringUTF16" "LO_BYTE_SHIFT" "I" (.int (8 : Int32))) :
    MetFree l (⟨"java/lang/StringUTF16", "toBytes", "([CII)[B"⟩ : MethodName) (head1 (Jvm.Cond.code (⟨"java/lang/StringUTF16", "toBytes", "([CII)[B"⟩ : MethodName) jdk_52_method_14_code 5 (some (.array .byte)) :: ws) ({ frames := 2, cells := 1, slots := 8, locals := 24 } : Room)) (fun a U => a = #[(.ref a0), (.int (0 : Int32)), (.int (1 : Int32))] ∧ Z.Warmed39 U.vm ∧ U.heap = h0) (fun _ _ _ _ _ => True) (fun _ U o U' => ∃ v L, o = .returned v ∧ Q13_s1 Z a0 kc c0 h0 n0 v U'.heap L ∧ FrameEnd U o U' L ({ frames := 2, cells := 1, slots := 8, locals := 24 } : Room).cells ({ frames := 2, cells := 1, slots := 8, locals := 24 } : Room).slots) := by
  refine MetFree.of_bodySF (plainFor_of_name pn_5) hisR ?_
  intro p e s m args below meth c s₁ Bd hml0 hP hK
  obtain ⟨rfl, hZ, hh⟩ := hP
  have hx := Bd.exec
  have hby := Bd.bytes
  have hml : c.maxLocals = 5 := hml0
  have hown : s.vm.findClass "java/lang/StringUTF16" = some m.cls := findClass_of_methodNamed Bd.named
  have hnm := (name_of_methodNamed Bd.named Bd.method).1
  have X0 : Stand p l e ({ frames := 2, cells := 1, slots := 8, locals := 24 } : Room) s m #[(.ref a0), (.int (0 : Int32)), (.int (1 : Int32))] below meth c s₁ [] 0 0 := Stand.of_body Bd
  have e0 : s₁.heap = h0 := by rw [← hh, Bd.state]; rfl
  have N0 := Fr.nil n0
  have pre0 : ∀ t, Steps p.tables e below (s₁.setTop (mkF m 0 #[.val (.ref a0), .val (.int 0), .val (.int 1), .unset, .unset] [])) t → Steps p.tables e below (s₁.setTop (entryFrame m #[(.ref a0), (.int (0 : Int32)), (.int (1 : Int32))] 5)) t := fun t k => castTop (ef_13_v01 m a0) k
  obtain ⟨_, _, ⟨T97, L97, k97, n97⟩, -, X97, ⟨Lc97, hQ97, l97, y97, z97⟩, st97⟩ := Jvm.LawKit.callS X0 hx (y := (⟨"java/lang/StringUTF16", "newBytesFor", "(I)[B"⟩ : MethodName)) hown (mvT hZ (hw _ (List.mem_of_getElem? (i := 60) rfl))) (mvT hZ (hw _ (List.mem_of_getElem? (i := 61) rfl))) (mvT hZ (hw _ (List.mem_of_getElem? (i := 27) rfl))) (mvT hZ (hw _ (List.mem_of_getElem? (i := 62) rfl))) (by decide) (backOf (W := 0) (rm14 l Z ag hw [] (1 : Int32) (2 : Int32) h0 n0 Z0 (by decide) (by decide) (by decide) (by decide) (by decide)) hZ (hw _ (List.mem_of_getElem? (i := 62) rfl)) (hw _ (List.mem_of_getElem? (i := 27) rfl)) (by decide) (by decide)) (g := (mkF m 1 #[.val (.ref a0), .val (.int 0), .val (.int 1), .unset, .unset] [.int 1])) rfl (by rw [hml]; rfl) (argsL := [(.int (1 : Int32))]) (rest := []) (lenOf pd_9 rfl) rfl (by show 2 * 0 + _ ≤ _; exact Nat.le_of_eq rfl) (hb hby d13_1) (fun _ _ => ⟨rfl, e0, (by decide : 0 + 1 ≤ _), (by decide : 0 + 8 ≤ _)⟩)
  dsimp only [Pt.U, Pt.locs, Pt.cells, Pt.slots] at X97 l97 y97 z97 st97 hQ97
  subst l97 y97 z97
  obtain ⟨r97, kr97, rfl, N97q, K97, ge_r97, gq_r97, Vr97⟩ := hQ97
  have N97 := Fr.app N0 N97q
  have Vr97 : Arv Z T97.heap r97 kr97 .byte (2 : Int32) [(.int (0 : Int32)), (.int (0 : Int32))] (.int (0 : Int32)) := Vr97.pad (pad_rep [] (.int (0 : Int32)) 2)
  have ne98 : a0 ≠ r97 := Nat.ne_of_lt (Nat.lt_of_lt_of_le V_a0.lt gq_r97)
  have gs_r97 : h0.size ≤ r97 := Nat.le_trans (Keep.refl h0 []).1 gq_r97
  have x99 := V_a0.keep K97 nin0
  have x100 := O_.keep K97 all0
  have sz101 : n0 ≤ T97.heap.size := Nat.le_trans Z0 K97.1
  have kp102 : Keep h0 T97.heap [] := (Keep.refl h0 []).trans K97 all0
  obtain ⟨cl103, Ar103, q103, S103, M103, H103, G103⟩ := id x99
  have hin103 : ¬ ((0 : Int32) < 0 ∨ cl103.slots.size ≤ ((0 : Int32)).toNatClampNeg) := inb_of S103 ⟨(by decide : ¬ (0 : Int32) < 0), (by decide : (0 : Int32) < (1 : Int32))⟩
  have hat103 : cl103.slots[((0 : Int32)).toNatClampNeg]? = some (.int c0) := Has.at H103 hin103 rfl
  have ld103 := X97.caload hx (j := (0 : Int32)) (v := (.int c0)) Ar103.1 (State.isArrayOf_alike hZ.alike Ar103.2.1) Ar103.2.2 hin103 hat103 (g := (mkF m 19 #[.val (.ref a0), .val (.int 0), .val (.int 1), .val (.ref r97), .val (.int 0)] [.int 0, (.ref a0), .int 0, (.ref r97)])) rfl rfl (hb hby d13_19)
  have cp104 : ∀ target, own_S p e below T97 (mkF m 20 #[.val (.ref a0), .val (.int 0), .val (.int 1), .val (.ref r97), .val (.int 0)] [(.int c0), .int 0, (.ref r97)]) target → own_S p e below s₁ (mkF m 0 #[.val (.ref a0), .val (.int 0), .val (.int 1), .unset, .unset] []) target := by
    intro target kt
    show own_S p e below s₁ (mkF m 0 #[.val (.ref a0), .val (.int 0), .val (.int 1), .unset, .unset] []) _
    refine XS.iloadN X0.here hx rfl (hb hby d13_0) rfl ?_
    show own_S p e below s₁ (mkF m 1 #[.val (.ref a0), .val (.int 0), .val (.int 1), .unset, .unset] [.int 1]) _
    refine st97 _ ?_
    show own_S p e below T97 (mkF m 4 #[.val (.ref a0), .val (.int 0), .val (.int 1), .unset, .unset] [(.ref r97)]) _
    refine XS.astoreN X97.here hx rfl (hb hby d13_4) rfl rfl (l' := #[.val (.ref a0), .val (.int 0), .val (.int 1), .val (.ref r97), .unset]) rfl ?_
    show own_S p e below T97 (mkF m 5 #[.val (.ref a0), .val (.int 0), .val (.int 1), .val (.ref r97), .unset] []) _
    refine XS.iconst X97.here hx rfl (hb hby d13_5) ?_
    show own_S p e below T97 (mkF m 6 #[.val (.ref a0), .val (.int 0), .val (.int 1), .val (.ref r97), .unset] [.int 0]) _
    refine XS.istore X97.here hx rfl (hb hby d13_6) rfl (l' := #[.val (.ref a0), .val (.int 0), .val (.int 1), .val (.ref r97), .val (.int 0)]) rfl ?_
    show own_S p e below T97 (mkF m 8 #[.val (.ref a0), .val (.int 0), .val (.int 1), .val (.ref r97), .val (.int 0)] []) _
    refine XS.iload X97.here hx rfl (hb hby d13_8) rfl ?_
    show own_S p e below T97 (mkF m 10 #[.val (.ref a0), .val (.int 0), .val (.int 1), .val (.ref r97), .val (.int 0)] [.int 0]) _
    refine XS.iloadN X97.here hx rfl (hb hby d13_10) rfl ?_
    show own_S p e below T97 (mkF m 11 #[.val (.ref a0), .val (.int 0), .val (.int 1), .val (.ref r97), .val (.int 0)] [.int 1, .int 0]) _
    refine XS.icmpNo X97.here hx rfl (hb hby d13_11) rfl (tlt (by decide : (0 : Int32) < (1 : Int32))).2.1 ?_
    show own_S p e below T97 (mkF m 14 #[.val (.ref a0), .val (.int 0), .val (.int 1), .val (.ref r97), .val (.int 0)] []) _
    refine XS.aloadN X97.here hx rfl (hb hby d13_14) rfl rfl ?_
    show own_S p e below T97 (mkF m 15 #[.val (.ref a0), .val (.int 0), .val (.int 1), .val (.ref r97), .val (.int 0)] [(.ref r97)]) _
    refine XS.iload X97.here hx rfl (hb hby d13_15) rfl ?_
    show own_S p e below T97 (mkF m 17 #[.val (.ref a0), .val (.int 0), .val (.int 1), .val (.ref r97), .val (.int 0)] [.int 0, (.ref r97)]) _
    refine XS.aloadN X97.here hx rfl (hb hby d13_17) rfl rfl ?_
    show own_S p e below T97 (mkF m 18 #[.val (.ref a0), .val (.int 0), .val (.int 1), .val (.ref r97), .val (.int 0)] [(.ref a0), .int 0, (.ref r97)]) _
    refine XS.iloadN X97.here hx rfl (hb hby d13_18) rfl ?_
    show own_S p e below T97 (mkF m 19 #[.val (.ref a0), .val (.int 0), .val (.int 1), .val (.ref r97), .val (.int 0)] [.int 0, (.ref a0), .int 0, (.ref r97)]) _
    refine ld103 _ ?_
    exact kt
  obtain ⟨_, _, ⟨T105, L105, k105, n105⟩, -, X105, ⟨Lc105, hQ105, l105, y105, z105⟩, st105⟩ := Jvm.LawKit.callS X97 hx (y := (⟨"java/lang/StringUTF16", "putChar", "([BII)V"⟩ : MethodName)) hown (mvT hZ (hw _ (List.mem_of_getElem? (i := 67) rfl))) (mvT hZ (hw _ (List.mem_of_getElem? (i := 68) rfl))) (mvT hZ (hw _ (List.mem_of_getElem? (i := 27) rfl))) (mvT hZ (hw _ (List.mem_of_getElem? (i := 69) rfl))) (by decide) (backOf (W := 0) (rm16 l Z ag hw [] r97 (0 : Int32) c0 kr97 (2 : Int32) [(.int (0 : Int32)), (.int (0 : Int32))] T97.heap n0 sz101 Vr97 ge_r97 (by decide) (by decide) (Nat.le_of_ble_eq_true rfl) (Nat.le_of_ble_eq_true rfl) x100 S_ad S_hi S_lo) hZ (hw _ (List.mem_of_getElem? (i := 69) rfl)) (hw _ (List.mem_of_getElem? (i := 27) rfl)) (by decide) (by decide)) (g := (mkF m 20 #[.val (.ref a0), .val (.int 0), .val (.int 1), .val (.ref r97), .val (.int 0)] [(.int c0), .int 0, (.ref r97)])) rfl (by rw [hml]; rfl) (argsL := [(.ref r97), (.int (0 : Int32)), (.int c0)]) (rest := []) (lenOf pd_18 rfl) rfl (by show 2 * 0 + _ ≤ _; exact Nat.le_of_eq rfl) (hb hby d13_20) (fun _ _ => ⟨rfl, rfl, (by decide : 1 + 0 ≤ _), (by decide : 8 + 0 ≤ _)⟩)
  dsimp only [Pt.U, Pt.locs, Pt.cells, Pt.slots] at X105 l105 y105 z105 st105 hQ105
  subst l105 y105 z105
  obtain ⟨rfl, N105q, K105, Vb105⟩ := hQ105
  have N105 := Fr.app N97 N105q
  have Vb105 : Arv Z T105.heap r97 kr97 .byte (2 : Int32) [(.int (nar .byte ((c0 >>> ((0 : Int32) &&& 31)).toInt8.toInt32))), (.int (nar .byte ((c0 >>> ((8 : Int32) &&& 31)).toInt8.toInt32)))] (.int (0 : Int32)) := Vb105
  have x106 := x99.keep K105 (ninS ne98 nin0)
  have x107 := x100.keep K105 (allS ge_r97 all0)
  have sz108 : n0 ≤ T105.heap.size := Nat.le_trans sz101 K105.1
  have kp109 : Keep h0 T105.heap [] := kp102.trans K105 (allS (Or.inr gs_r97) all0)
  obtain ⟨fs, hr, hrun, hended, hW, hsame⟩ := X105.leave (v := some (.ref r97)) (fun h => by rw [Bd.returns] at h; cases h)
  refine ⟨_, _, pre0 _ ?_, hrun, hended, _, _, rfl, ?_, ⟨_, rfl⟩, hW, hsame.mono (by decide) (by decide)⟩
  · show own_S p e below s₁ (mkF m 0 #[.val (.ref a0), .val (.int 0), .val (.int 1), .unset, .unset] []) _
    refine cp104 _ ?_
    show own_S p e below T97 (mkF m 20 #[.val (.ref a0), .val (.int 0), .val (.int 1), .val (.ref r97), .val (.int 0)] [(.int c0), .int 0, (.ref r97)]) _
    refine st105 _ ?_
    show own_S p e below T105 (mkF m 23 #[.val (.ref a0), .val (.int 0), .val (.int 1), .val (.ref r97), .val (.int 0)] []) _
    refine XS.iinc X105.here hx rfl (hb hby d13_23) rfl (l' := #[.val (.ref a0), .val (.int 1), .val (.int 1), .val (.ref r97), .val (.int 0)]) rfl ?_
    show own_S p e below T105 (mkF m 26 #[.val (.ref a0), .val (.int 1), .val (.int 1), .val (.ref r97), .val (.int 0)] []) _
    refine XS.iinc X105.here hx rfl (hb hby d13_26) rfl (l' := #[.val (.ref a0), .val (.int 1), .val (.int 1), .val (.ref r97), .val (.int 1)]) rfl ?_
    show own_S p e below T105 (mkF m 29 #[.val (.ref a0), .val (.int 1), .val (.int 1), .val (.ref r97), .val (.int 1)] []) _
    refine XS.goto X105.here hx rfl (pc0 := 29) (pc' := 8) rfl (hb hby d13_29) (by decide) (by decide) ?_
    show own_S p e below T105 (mkF m 8 #[.val (.ref a0), .val (.int 1), .val (.int 1), .val (.ref r97), .val (.int 1)] []) _
    refine XS.iload X105.here hx rfl (hb hby d13_8) rfl ?_
    show own_S p e below T105 (mkF m 10 #[.val (.ref a0), .val (.int 1), .val (.int 1), .val (.ref r97), .val (.int 1)] [.int 1]) _
    refine XS.iloadN X105.here hx rfl (hb hby d13_10) rfl ?_
    show own_S p e below T105 (mkF m 11 #[.val (.ref a0), .val (.int 1), .val (.int 1), .val (.ref r97), .val (.int 1)] [.int 1, .int 1]) _
    refine XS.icmpYes X105.here hx rfl (pc0 := 11) (pc' := 32) rfl (hb hby d13_11) rfl (flt (by decide : ¬ ((1 : Int32) < (1 : Int32)))).2.1 (by decide) (by decide) ?_
    show own_S p e below T105 (mkF m 32 #[.val (.ref a0), .val (.int 1), .val (.int 1), .val (.ref r97), .val (.int 1)] []) _
    refine XS.aloadN X105.here hx rfl (hb hby d13_32) rfl rfl ?_
    show own_S p e below T105 (mkF m 33 #[.val (.ref a0), .val (.int 1), .val (.int 1), .val (.ref r97), .val (.int 1)] [(.ref r97)]) _
    exact Jvm.RoadKit.retOut X105 hx Bd.returns rfl (Or.inr (Or.inr (Or.inr (Or.inr ⟨rfl, rfl, rfl⟩)))) (hb hby d13_33) hr
  · show Q13_s1 Z a0 kc c0 h0 n0 _ T105.heap _
    exact ⟨r97, kr97, rfl, N105, kp109, ge_r97, gs_r97, Vb105⟩
theorem ef_8_v0v01 (m : MethodId) (a0 : Addr) (a2 : Addr) : entryFrame m #[(.ref a0), (.int (0 : Int32)), (.ref a2), (.int (0 : Int32)), (.int (1 : Int32))] 7 = mkF m 0 #[.val (.ref a0), .val (.int 0), .val (.ref a2), .val (.int 0), .val (.int 1), .unset, .unset] [] := by first | (simp [entryFrame, mkF, argsToLocals, Value.category]; done) | rfl
theorem d8_0 : decode jdk_52_method_21_code 0 = .ok (.iconst 0, 1) := by decide +kernel
theorem d8_1 : decode jdk_52_method_21_code 1 = .ok (.istore 5, 2) := by decide +kernel
abbrev own_loc1 (a0 : Addr) (a2 : Addr) : Array Slot := #[.val (.ref a0), .val (.int 0), .val (.ref a2), .val (.int 0), .val (.int 1), .val (.int 0), .unset]
theorem d8_3 : decode jdk_52_method_21_code 3 = .ok (.iload 5, 2) := by decide +kernel
theorem d8_5 : decode jdk_52_method_21_code 5 = .ok (.iload 4, 2) := by decide +kernel
theorem d8_7 : decode jdk_52_method_21_code 7 = .ok (.if_icmp .ge 37, 3) := by decide +kernel
theorem d8_10 : decode jdk_52_method_21_code 10 = .ok (.aload_n 0, 1) := by decide +kernel
theorem d8_11 : decode jdk_52_method_21_code 11 = .ok (.iload_n 1, 1) := by decide +kernel
theorem d8_12 : decode jdk_52_method_21_code 12 = .ok (.caload, 1) := by decide +kernel
theorem d8_13 : decode jdk_52_method_21_code 13 = .ok (.istore 6, 2) := by decide +kernel
abbrev own_loc2 (a0 : Addr) (a2 : Addr) (c0 : Int32) : Array Slot := #[.val (.ref a0), .val (.int 0), .val (.ref a2), .val (.int 0), .val (.int 1), .val (.int 0), .val (.int c0)]
theorem d8_15 : decode jdk_52_method_21_code 15 = .ok (.iload 6, 2) := by decide +kernel
theorem d8_17 : decode jdk_52_method_21_code 17 = .ok (.sipush 255, 3) := by decide +kernel
theorem d8_20 : decode jdk_52_method_21_code 20 = .ok (.if_icmp .le 6, 3) := by decide +kernel
theorem d8_23 : decode jdk_52_method_21_code 23 = .ok (.iload 5, 2) := by decide +kernel
theorem d8_25 : decode jdk_52_method_21_code 25 = .ok (.ireturn, 1) := by decide +kernel
theorem d8_26 : decode jdk_52_method_21_code 26 = .ok (.aload_n 2, 1) := by decide +kernel
theorem d8_27 : decode jdk_52_method_21_code 27 = .ok (.iload_n 3, 1) := by decide +kernel
theorem d8_28 : decode jdk_52_method_21_code 28 = .ok (.iload 6, 2) := by decide +kernel
theorem d8_30 : decode jdk_52_method_21_code 30 = .ok (.i2b, 1) := by decide +kernel
theorem d8_31 : decode jdk_52_method_21_code 31 = .ok (.bastore, 1) := by decide +kernel
theorem d8_32 : decode jdk_52_method_21_code 32 = .ok (.iinc 1 1, 3) := by decide +kernel
abbrev own_loc3 (a0 : Addr) (a2 : Addr) (c0 : Int32) : Array Slot := #[.val (.ref a0), .val (.int 1), .val (.ref a2), .val (.int 0), .val (.int 1), .val (.int 0), .val (.int c0)]
theorem d8_35 : decode jdk_52_method_21_code 35 = .ok (.iinc 3 1, 3) := by decide +kernel
abbrev own_loc4 (a0 : Addr) (a2 : Addr) (c0 : Int32) : Array Slot := #[.val (.ref a0), .val (.int 1), .val (.ref a2), .val (.int 1), .val (.int 1), .val (.int 0), .val (.int c0)]
theorem d8_38 : decode jdk_52_method_21_code 38 = .ok (.iinc 5 1, 3) := by decide +kernel
abbrev own_loc5 (a0 : Addr) (a2 : Addr) (c0 : Int32) : Array Slot := #[.val (.ref a0), .val (.int 1), .val (.ref a2), .val (.int 1), .val (.int 1), .val (.int 1), .val (.int c0)]
theorem d8_41 : decode jdk_52_method_21_code 41 = .ok (.goto (-38), 3) := by decide +kernel
theorem d8_44 : decode jdk_52_method_21_code 44 = .ok (.iload 4, 2) := by decide +kernel
theorem d8_46 : decode jdk_52_method_21_code 46 = .ok (.ireturn, 1) := by decide +kernel
def Q8_s1 (Z : State) (a0 : Addr) (a2 : Addr) (kc : ClassId) (c0 : Int32) (kb : ClassId) (h0 : Heap) (n0 : Nat) (v : Option Value) (h : Heap) (L : List Loc) : Prop := (v = some (.int (0 : Int32)) ∧ Fr n0 L ∧ Keep h0 h [a2] ∧ (255 : Int32) < c0) ∨ (v = some (.int (1 : Int32)) ∧ Fr n0 L ∧ Keep h0 h [a2] ∧ Arv Z h a2 kb .byte (1 : Int32) [(.int (nar .byte (c0.toInt8.toInt32)))] (.int (0 : Int32)) ∧ ¬ ((255 : Int32) < c0))
set_option maxRecDepth 65536 in
set_option maxHeartbeats 40000000 in
theorem rm8_s1 (l : Launch) (Z : State) (ag : Array Value) (hw : ∀ d ∈ tables_1, d.before ag Z = true) (ws : List Jvm.Cond) (a0 : Addr) (a2 : Addr) (kc : ClassId) (c0 : Int32) (kb : ClassId) (h0 : Heap) (n0 : Nat) (Z0 : n0 ≤ h0.size) (V_a0 : Arv Z h0 a0 kc .char (1 : Int32) [(.int c0)] (.int (0 : Int32))) (hr_c0 : 0 ≤ c0.toInt ∧ c0.toInt < 65536) (V_a2 : Arv Z h0 a2 kb .byte (1 : Int32) [(.int (0 : Int32))] (.int (0 : Int32))) (ge_a2 : n0 ≤ a2) (ne_a0_a2 : a0 ≠ a2) :
    MetFree l (⟨"java/lang/StringUTF16", "compress", "([CI[BII)I"⟩ : MethodName) (head1 (Jvm.Cond.code (⟨"java/lang/StringUTF16", "compress", "([CI[BII)I"⟩ : MethodName) jdk_52_method_21_code 7 (some .int) :: ws) ({ frames := 0, cells := 0, slots := 0, locals := 0 } : Room)) (fun a U => a = #[(.ref a0), (.int (0 : Int32)), (.ref a2), (.int (0 : Int32)), (.int (1 : Int32))] ∧ Z.Warmed39 U.vm ∧ U.heap = h0) (fun _ _ _ _ _ => True) (fun _ U o U' => ∃ v L, o = .returned v ∧ Q8_s1 Z a0 a2 kc c0 kb h0 n0 v U'.heap L ∧ FrameEnd U o U' L ({ frames := 0, cells := 0, slots := 0, locals := 0 } : Room).cells ({ frames := 0, cells := 0, slots := 0, locals := 0 } : Room).slots) := by
  refine MetFree.of_bodySF (plainFor_of_name pn_5) hisR ?_
  intro p e s m args below meth c s₁ Bd hml0 hP hK
  obtain ⟨rfl, hZ, hh⟩ := hP
  have hx := Bd.exec
  have hby := Bd.bytes
  have hml : c.maxLocals = 7 := hml0
  have hown : s.vm.findClass "java/lang/StringUTF16" = some m.cls := findClass_of_methodNamed Bd.named
  have hnm := (name_of_methodNamed Bd.named Bd.method).1
  have X0 : Stand p l e ({ frames := 0, cells := 0, slots := 0, locals := 0 } : Room) s m #[(.ref a0), (.int (0 : Int32)), (.ref a2), (.int (0 : Int32)), (.int (1 : Int32))] below meth c s₁ [] 0 0 := Stand.of_body Bd
  have e0 : s₁.heap = h0 := by rw [← hh, Bd.state]; rfl
  have N0 := Fr.nil n0
  have pre0 : ∀ t, Steps p.tables e below (s₁.setTop (mkF m 0 #[.val (.ref a0), .val (.int 0), .val (.ref a2), .val (.int 0), .val (.int 1), .unset, .unset] [])) t → Steps p.tables e below (s₁.setTop (entryFrame m #[(.ref a0), (.int (0 : Int32)), (.ref a2), (.int (0 : Int32)), (.int (1 : Int32))] 7)) t := fun t k => castTop (ef_8_v0v01 m a0 a2) k
  obtain ⟨cl110, Ar110, q110, S110, M110, H110, G110⟩ := id V_a0
  have hin110 : ¬ ((0 : Int32) < 0 ∨ cl110.slots.size ≤ ((0 : Int32)).toNatClampNeg) := inb_of S110 ⟨(by decide : ¬ (0 : Int32) < 0), (by decide : (0 : Int32) < (1 : Int32))⟩
  have hat110 : cl110.slots[((0 : Int32)).toNatClampNeg]? = some (.int c0) := Has.at H110 hin110 rfl
  have ld110 := X0.caload hx (j := (0 : Int32)) (v := (.int c0)) (by rw [e0]; exact Ar110.1) (State.isArrayOf_alike hZ.alike Ar110.2.1) Ar110.2.2 hin110 hat110 (g := (mkF m 12 (own_loc1 a0 a2) [.int 0, (.ref a0)])) rfl rfl (hb hby d8_12)
  have cp112 : ∀ target, own_S p e below s₁ (mkF m 20 (own_loc2 a0 a2 c0) [.int 255, (.int c0)]) target → own_S p e below s₁ (mkF m 0 #[.val (.ref a0), .val (.int 0), .val (.ref a2), .val (.int 0), .val (.int 1), .unset, .unset] []) target := by
    intro target kt
    show own_S p e below s₁ (mkF m 0 #[.val (.ref a0), .val (.int 0), .val (.ref a2), .val (.int 0), .val (.int 1), .unset, .unset] []) _
    refine XS.iconst X0.here hx rfl (hb hby d8_0) ?_
    show own_S p e below s₁ (mkF m 1 #[.val (.ref a0), .val (.int 0), .val (.ref a2), .val (.int 0), .val (.int 1), .unset, .unset] [.int 0]) _
    refine XS.istore X0.here hx rfl (hb hby d8_1) rfl (l' := (own_loc1 a0 a2)) rfl ?_
    show own_S p e below s₁ (mkF m 3 (own_loc1 a0 a2) []) _
    refine XS.iload X0.here hx rfl (hb hby d8_3) rfl ?_
    show own_S p e below s₁ (mkF m 5 (own_loc1 a0 a2) [.int 0]) _
    refine XS.iload X0.here hx rfl (hb hby d8_5) rfl ?_
    show own_S p e below s₁ (mkF m 7 (own_loc1 a0 a2) [.int 1, .int 0]) _
    refine XS.icmpNo X0.here hx rfl (hb hby d8_7) rfl (tlt (by decide : (0 : Int32) < (1 : Int32))).2.1 ?_
    show own_S p e below s₁ (mkF m 10 (own_loc1 a0 a2) []) _
    refine XS.aloadN X0.here hx rfl (hb hby d8_10) rfl rfl ?_
    show own_S p e below s₁ (mkF m 11 (own_loc1 a0 a2) [(.ref a0)]) _
    refine XS.iloadN X0.here hx rfl (hb hby d8_11) rfl ?_
    show own_S p e below s₁ (mkF m 12 (own_loc1 a0 a2) [.int 0, (.ref a0)]) _
    refine ld110 _ ?_
    show own_S p e below s₁ (mkF m 13 (own_loc1 a0 a2) [(.int c0)]) _
    refine XS.istore X0.here hx rfl (hb hby d8_13) rfl (l' := (own_loc2 a0 a2 c0)) rfl ?_
    show own_S p e below s₁ (mkF m 15 (own_loc2 a0 a2 c0) []) _
    refine XS.iload X0.here hx rfl (hb hby d8_15) rfl ?_
    show own_S p e below s₁ (mkF m 17 (own_loc2 a0 a2 c0) [(.int c0)]) _
    refine XS.sipush X0.here hx rfl (hb hby d8_17) ?_
    exact kt
  by_cases hc111 : (255 : Int32) < c0
  · obtain ⟨fs, hr, hrun, hended, hW, hsame⟩ := X0.leave (v := some (.int (0 : Int32))) (fun h => by rw [Bd.returns] at h; cases h)
    refine ⟨_, _, pre0 _ ?_, hrun, hended, _, _, rfl, ?_, ⟨_, rfl⟩, hW, hsame.mono (by decide) (by decide)⟩
    · show own_S p e below s₁ (mkF m 0 #[.val (.ref a0), .val (.int 0), .val (.ref a2), .val (.int 0), .val (.int 1), .unset, .unset] []) _
      refine cp112 _ ?_
      show own_S p e below s₁ (mkF m 20 (own_loc2 a0 a2 c0) [.int 255, (.int c0)]) _
      refine XS.icmpNo X0.here hx rfl (hb hby d8_20) rfl (tlt hc111).2.2.2 ?_
      show own_S p e below s₁ (mkF m 23 (own_loc2 a0 a2 c0) []) _
      refine XS.iload X0.here hx rfl (hb hby d8_23) rfl ?_
      show own_S p e below s₁ (mkF m 25 (own_loc2 a0 a2 c0) [.int 0]) _
      exact retI X0 hx Bd.returns (hb hby d8_25) hr
    · show Q8_s1 Z a0 a2 kc c0 kb h0 n0 _ s₁.heap _
      rw [e0]
      exact Or.inl ⟨rfl, N0, (Keep.refl h0 [a2]), hc111⟩
  · obtain ⟨cl113, Ar113, q113, S113, M113, H113, G113⟩ := id V_a2
    have hin113 : ¬ ((0 : Int32) < 0 ∨ cl113.slots.size ≤ ((0 : Int32)).toNatClampNeg) := inb_of S113 ⟨(by decide : ¬ (0 : Int32) < 0), (by decide : (0 : Int32) < (1 : Int32))⟩
    obtain ⟨T113, h113, X113, e113, W113, st113⟩ := stB X0 hx hZ e0 Ar113 (j := (0 : Int32)) hin113 (g := (mkF m 31 (own_loc2 a0 a2 c0) [(.int (c0.toInt8.toInt32)), .int 0, (.ref a2)])) rfl rfl (hb hby d8_31)
    have V113 : Arv Z h113 a2 kb .byte (1 : Int32) [(.int (nar .byte (c0.toInt8.toInt32)))] (.int (0 : Int32)) := Arv.set Ar113 q113 S113 M113 H113 G113 (fits_nar_byte _) W113 0 rfl (Nat.le_of_ble_eq_true rfl)
    have x114 := V_a0.other W113 ne_a0_a2
    have sz115 : n0 ≤ h113.size := Nat.le_trans Z0 (Keep.of_wr W113).1
    have kp116 : Keep h0 h113 [a2] := (Keep.refl h0 [a2]).wr W113 (Or.inl (List.mem_of_getElem? (i := 0) rfl))
    have N113 := Fr.snoc X113 N0 ge_a2
    obtain ⟨fs, hr, hrun, hended, hW, hsame⟩ := X113.leave (v := some (.int (1 : Int32))) (fun h => by rw [Bd.returns] at h; cases h)
    refine ⟨_, _, pre0 _ ?_, hrun, hended, _, _, rfl, ?_, ⟨_, rfl⟩, hW, hsame.mono (by decide) (by decide)⟩
    · show own_S p e below s₁ (mkF m 0 #[.val (.ref a0), .val (.int 0), .val (.ref a2), .val (.int 0), .val (.int 1), .unset, .unset] []) _
      refine cp112 _ ?_
      show own_S p e below s₁ (mkF m 20 (own_loc2 a0 a2 c0) [.int 255, (.int c0)]) _
      refine XS.icmpYes X0.here hx rfl (pc0 := 20) (pc' := 26) rfl (hb hby d8_20) rfl (flt hc111).2.2.2 (by decide) (by decide) ?_
      show own_S p e below s₁ (mkF m 26 (own_loc2 a0 a2 c0) []) _
      refine XS.aloadN X0.here hx rfl (hb hby d8_26) rfl rfl ?_
      show own_S p e below s₁ (mkF m 27 (own_loc2 a0 a2 c0) [(.ref a2)]) _
      refine XS.iloadN X0.here hx rfl (hb hby d8_27) rfl ?_
      show own_S p e below s₁ (mkF m 28 (own_loc2 a0 a2 c0) [.int 0, (.ref a2)]) _
      refine XS.iload X0.here hx rfl (hb hby d8_28) rfl ?_
      show own_S p e below s₁ (mkF m 30 (own_loc2 a0 a2 c0) [(.int c0), .int 0, (.ref a2)]) _
      refine XS.i2b X0.here hx rfl (hb hby d8_30) rfl ?_
      show own_S p e below s₁ (mkF m 31 (own_loc2 a0 a2 c0) [(.int (c0.toInt8.toInt32)), .int 0, (.ref a2)]) _
      refine st113 _ ?_
      show own_S p e below T113 (mkF m 32 (own_loc2 a0 a2 c0) []) _
      refine XS.iinc X113.here hx rfl (hb hby d8_32) rfl (l' := (own_loc3 a0 a2 c0)) rfl ?_
      show own_S p e below T113 (mkF m 35 (own_loc3 a0 a2 c0) []) _
      refine XS.iinc X113.here hx rfl (hb hby d8_35) rfl (l' := (own_loc4 a0 a2 c0)) rfl ?_
      show own_S p e below T113 (mkF m 38 (own_loc4 a0 a2 c0) []) _
      refine XS.iinc X113.here hx rfl (hb hby d8_38) rfl (l' := (own_loc5 a0 a2 c0)) rfl ?_
      show own_S p e below T113 (mkF m 41 (own_loc5 a0 a2 c0) []) _
      refine XS.goto X113.here hx rfl (pc0 := 41) (pc' := 3) rfl (hb hby d8_41) (by decide) (by decide) ?_
      show own_S p e below T113 (mkF m 3 (own_loc5 a0 a2 c0) []) _
      refine XS.iload X113.here hx rfl (hb hby d8_3) rfl ?_
      show own_S p e below T113 (mkF m 5 (own_loc5 a0 a2 c0) [.int 1]) _
      refine XS.iload X113.here hx rfl (hb hby d8_5) rfl ?_
      show own_S p e below T113 (mkF m 7 (own_loc5 a0 a2 c0) [.int 1, .int 1]) _
      refine XS.icmpYes X113.here hx rfl (pc0 := 7) (pc' := 44) rfl (hb hby d8_7) rfl (flt (by decide : ¬ ((1 : Int32) < (1 : Int32)))).2.1 (by decide) (by decide) ?_
      show own_S p e below T113 (mkF m 44 (own_loc5 a0 a2 c0) []) _
      refine XS.iload X113.here hx rfl (hb hby d8_44) rfl ?_
      show own_S p e below T113 (mkF m 46 (own_loc5 a0 a2 c0) [.int 1]) _
      exact retI X113 hx Bd.returns (hb hby d8_46) hr
    · show Q8_s1 Z a0 a2 kc c0 kb h0 n0 _ T113.heap _
      rw [e113]
      exact Or.inr (⟨rfl, N113, kp116, V113, hc111⟩)
theorem ef_7_v01 (m : MethodId) (a0 : Addr) : entryFrame m #[(.ref a0), (.int (0 : Int32)), (.int (1 : Int32))] 6 = mkF m 0 #[.val (.ref a0), .val (.int 0), .val (.int 1), .unset, .unset, .unset] [] := by first | (simp [entryFrame, mkF, argsToLocals, Value.category]; done) | rfl
theorem d7_0 : decode jdk_52_method_16_code 0 = .ok (.iload_n 2, 1) := by decide +kernel
theorem d7_1 : decode jdk_52_method_16_code 1 = .ok (.newarray .byte, 2) := by decide +kernel
theorem d7_3 : decode jdk_52_method_16_code 3 = .ok (.astore_n 3, 1) := by decide +kernel
theorem d7_4 : decode jdk_52_method_16_code 4 = .ok (.aload_n 0, 1) := by decide +kernel
theorem d7_5 : decode jdk_52_method_16_code 5 = .ok (.iload_n 1, 1) := by decide +kernel
theorem d7_6 : decode jdk_52_method_16_code 6 = .ok (.aload_n 3, 1) := by decide +kernel
theorem d7_7 : decode jdk_52_method_16_code 7 = .ok (.iconst 0, 1) := by decide +kernel
theorem d7_8 : decode jdk_52_method_16_code 8 = .ok (.iload_n 2, 1) := by decide +kernel
theorem pd_22 : parseMethodDescriptor "([CI[BII)I" = some ⟨[(.array .char), .int, (.array .byte), .int, .int], some .int⟩ := by decide +kernel
theorem d7_9 : decode jdk_52_method_16_code 9 = .ok (.invokestatic 115, 3) := by decide +kernel
theorem d7_12 : decode jdk_52_method_16_code 12 = .ok (.istore 4, 2) := by decide +kernel
theorem d7_14 : decode jdk_52_method_16_code 14 = .ok (.iload 4, 2) := by decide +kernel
theorem d7_16 : decode jdk_52_method_16_code 16 = .ok (.iload_n 2, 1) := by decide +kernel
theorem d7_17 : decode jdk_52_method_16_code 17 = .ok (.if_icmp .eq 40, 3) := by decide +kernel
theorem d7_20 : decode jdk_52_method_16_code 20 = .ok (.aload_n 0, 1) := by decide +kernel
theorem d7_21 : decode jdk_52_method_16_code 21 = .ok (.iload_n 1, 1) := by decide +kernel
theorem d7_22 : decode jdk_52_method_16_code 22 = .ok (.iload_n 2, 1) := by decide +kernel
theorem pd_20 : parseMethodDescriptor "([CII)[B" = some ⟨[(.array .char), .int, .int], some (.array .byte)⟩ := by decide +kernel
theorem d7_23 : decode jdk_52_method_16_code 23 = .ok (.invokestatic 119, 3) := by decide +kernel
theorem d7_26 : decode jdk_52_method_16_code 26 = .ok (.astore 5, 2) := by decide +kernel
theorem d7_28 : decode jdk_52_method_16_code 28 = .ok (.aload 5, 2) := by decide +kernel
theorem d7_30 : decode jdk_52_method_16_code 30 = .ok (.iload 4, 2) := by decide +kernel
theorem d7_32 : decode jdk_52_method_16_code 32 = .ok (.invokestatic 71, 3) := by decide +kernel
theorem d7_35 : decode jdk_52_method_16_code 35 = .ok (.sipush 255, 3) := by decide +kernel
theorem d7_38 : decode jdk_52_method_16_code 38 = .ok (.if_icmp .gt 16, 3) := by decide +kernel
theorem d7_54 : decode jdk_52_method_16_code 54 = .ok (.aload 5, 2) := by decide +kernel
theorem d7_56 : decode jdk_52_method_16_code 56 = .ok (.areturn, 1) := by decide +kernel
theorem d7_57 : decode jdk_52_method_16_code 57 = .ok (.aload_n 3, 1) := by decide +kernel
theorem d7_58 : decode jdk_52_method_16_code 58 = .ok (.areturn, 1) := by decide +kernel
def Q7_s1 (Z : State) (a0 : Addr) (kc : ClassId) (c0 : Int32) (h0 : Heap) (n0 : Nat) (v : Option Value) (h : Heap) (L : List Loc) : Prop := ∃ (r : Addr) (kb : ClassId) (nb : Int32) (vs : List Value), v = some (.ref r) ∧ Fr n0 L ∧ Keep h0 h [] ∧ n0 ≤ r ∧ h0.size ≤ r ∧ Arv Z h r kb .byte nb vs (.int (0 : Int32)) ∧ ((nb = (1 : Int32) ∧ vs = [(.int (nar .byte (c0.toInt8.toInt32)))] ∧ ¬ ((255 : Int32) < c0)) ∨ (nb = (2 : Int32) ∧ vs = [(.int (nar .byte ((c0 >>> ((0 : Int32) &&& 31)).toInt8.toInt32))), (.int (nar .byte ((c0 >>> ((8 : Int32) &&& 31)).toInt8.toInt32)))]))
set_option maxRecDepth 65536 in
set_option maxHeartbeats 40000000 in
theorem rm7_s1 (l : Launch) (Z : State) (ag : Array Value) (hw : ∀ d ∈ tables_1, d.before ag Z = true) (ws : List Jvm.Cond) (a0 : Addr) (kc : ClassId) (c0 : Int32) (h0 : Heap) (n0 : Nat) (Z0 : n0 ≤ h0.size) (V_a0 : Arv Z h0 a0 kc .char (1 : Int32) [(.int c0)] (.int (0 : Int32))) (hr_c0 : 0 ≤ c0.toInt ∧ c0.toInt < 65536) (O_ : Old Z n0 h0) (S_ad : Sta Z Z.heap "java/lang/StringUTF16" "$assertionsDisabled" "Z" (.int (1 : Int32))) (S_hi : Sta Z Z.heap "java/lang/StringUTF16" "HI_BYTE_SHIFT" "I" (.int (0 : Int32))) (S_lo : Sta Z Z.heap "java/lang/StringUTF16" "LO_BYTE_SHIFT" "I" (.int (8 : Int32))) :
    MetFree l (⟨"java/lang/StringUTF16", "compress", "([CII)[B"⟩ : MethodName) (head1 (Jvm.Cond.code (⟨"java/lang/StringUTF16", "compress", "([CII)[B"⟩ : MethodName) jdk_52_method_16_code 6 (some (.array .byte)) :: ws) ({ frames := 3, cells := 2, slots := 9, locals := 40 } : Room)) (fun a U => a = #[(.ref a0), (.int (0 : Int32)), (.int (1 : Int32))] ∧ Z.Warmed39 U.vm ∧ U.heap = h0) (fun _ _ _ _ _ => True) (fun _ U o U' => ∃ v L, o = .returned v ∧ Q7_s1 Z a0 kc c0 h0 n0 v U'.heap L ∧ FrameEnd U o U' L ({ frames := 3, cells := 2, slots := 9, locals := 40 } : Room).cells ({ frames := 3, cells := 2, slots := 9, locals := 40 } : Room).slots) := by
  refine MetFree.of_bodySF (plainFor_of_name pn_5) hisR ?_
  intro p e s m args below meth c s₁ Bd hml0 hP hK
  obtain ⟨rfl, hZ, hh⟩ := hP
  have hx := Bd.exec
  have hby := Bd.bytes
  have hml : c.maxLocals = 6 := hml0
  have hown : s.vm.findClass "java/lang/StringUTF16" = some m.cls := findClass_of_methodNamed Bd.named
  have hnm := (name_of_methodNamed Bd.named Bd.method).1
  have X0 : Stand p l e ({ frames := 3, cells := 2, slots := 9, locals := 40 } : Room) s m #[(.ref a0), (.int (0 : Int32)), (.int (1 : Int32))] below meth c s₁ [] 0 0 := Stand.of_body Bd
  have e0 : s₁.heap = h0 := by rw [← hh, Bd.state]; rfl
  have N0 := Fr.nil n0
  have pre0 : ∀ t, Steps p.tables e below (s₁.setTop (mkF m 0 #[.val (.ref a0), .val (.int 0), .val (.int 1), .unset, .unset, .unset] [])) t → Steps p.tables e below (s₁.setTop (entryFrame m #[(.ref a0), (.int (0 : Int32)), (.int (1 : Int32))] 6)) t := fun t k => castTop (ef_7_v01 m a0) k
  obtain ⟨T117, h117, k117, X117, e117, E117, A117, st117⟩ := newP X0 hx hZ (hw _ (List.mem_of_getElem? (i := 29) rfl)) e0 (g := (mkF m 1 #[.val (.ref a0), .val (.int 0), .val (.int 1), .unset, .unset, .unset] [.int 1])) rfl (hb hby d7_1) rfl (by decide) (cap := 1) (by decide) (by decide) (by decide) (by decide)
  obtain ⟨b117, g117⟩ : ∃ z, z = h0.size := ⟨_, rfl⟩
  have ne118 : a0 ≠ b117 := Nat.ne_of_lt (Nat.lt_of_lt_of_le V_a0.lt (Nat.le_of_eq g117.symm))
  have ge_b117 : n0 ≤ b117 := Nat.le_trans Z0 (Nat.le_of_eq g117.symm)
  have gs_b117 : h0.size ≤ b117 := Nat.le_trans (Keep.refl h0 []).1 (Nat.le_of_eq g117.symm)
  rw [← g117] at A117 st117
  have x119 := V_a0.ext E117
  have x120 := O_.ext E117
  have sz121 : n0 ≤ h117.size := Nat.le_trans Z0 E117.1
  have kp122 : Keep h0 h117 [] := (Keep.refl h0 []).ext E117
  have V117 : Arv Z h117 b117 k117 .byte (1 : Int32) [(.int (0 : Int32))] (.int (0 : Int32)) := (Arv.new A117 (by decide)).pad (pad_rep [] (.int (0 : Int32)) 1)
  obtain ⟨_, _, ⟨T123, L123, k123, n123⟩, -, X123, ⟨Lc123, hQ123, l123, y123, z123⟩, st123⟩ := Jvm.LawKit.callS X117 hx (y := (⟨"java/lang/StringUTF16", "compress", "([CI[BII)I"⟩ : MethodName)) hown (mvT hZ (hw _ (List.mem_of_getElem? (i := 30) rfl))) (mvT hZ (hw _ (List.mem_of_getElem? (i := 31) rfl))) (mvT hZ (hw _ (List.mem_of_getElem? (i := 27) rfl))) (mvT hZ (hw _ (List.mem_of_getElem? (i := 32) rfl))) (by decide) (backOf (W := 0) (rm8_s1 l Z ag hw [] a0 b117 kc c0 k117 h117 n0 sz121 x119 hr_c0 V117 ge_b117 ne118) hZ (hw _ (List.mem_of_getElem? (i := 32) rfl)) (hw _ (List.mem_of_getElem? (i := 27) rfl)) (by decide) (by decide)) (g := (mkF m 9 #[.val (.ref a0), .val (.int 0), .val (.int 1), .val (.ref b117), .unset, .unset] [.int 1, .int 0, (.ref b117), .int 0, (.ref a0)])) rfl (by rw [hml]; rfl) (argsL := [(.ref a0), (.int (0 : Int32)), (.ref b117), (.int (0 : Int32)), (.int (1 : Int32))]) (rest := []) (lenOf pd_22 rfl) rfl (by show 2 * 0 + _ ≤ _; exact Nat.le_of_eq rfl) (hb hby d7_9) (fun _ _ => ⟨rfl, e117, (by decide : 1 + 0 ≤ _), (by decide : 1 + 0 ≤ _)⟩)
  dsimp only [Pt.U, Pt.locs, Pt.cells, Pt.slots] at X123 l123 y123 z123 st123 hQ123
  subst l123 y123 z123
  rcases hQ123 with q123 | q123
  · obtain ⟨rfl, N123q, K123, hbig123⟩ := q123
    have N123 := Fr.app N0 N123q
    have x124 := x119.keep K123 (ninS ne118 nin0)
    have x125 := x120.keep K123 (allS ge_b117 all0)
    have sz126 : n0 ≤ T123.heap.size := Nat.le_trans sz121 K123.1
    have kp127 : Keep h0 T123.heap [] := kp122.trans K123 (allS (Or.inr gs_b117) all0)
    have cp128 : ∀ target, own_S p e below T123 (mkF m 23 #[.val (.ref a0), .val (.int 0), .val (.int 1), .val (.ref b117), .val (.int 0), .unset] [.int 1, .int 0, (.ref a0)]) target → own_S p e below s₁ (mkF m 0 #[.val (.ref a0), .val (.int 0), .val (.int 1), .unset, .unset, .unset] []) target := by
      intro target kt
      show own_S p e below s₁ (mkF m 0 #[.val (.ref a0), .val (.int 0), .val (.int 1), .unset, .unset, .unset] []) _
      refine XS.iloadN X0.here hx rfl (hb hby d7_0) rfl ?_
      show own_S p e below s₁ (mkF m 1 #[.val (.ref a0), .val (.int 0), .val (.int 1), .unset, .unset, .unset] [.int 1]) _
      refine st117 _ ?_
      show own_S p e below T117 (mkF m 3 #[.val (.ref a0), .val (.int 0), .val (.int 1), .unset, .unset, .unset] [(.ref b117)]) _
      refine XS.astoreN X117.here hx rfl (hb hby d7_3) rfl rfl (l' := #[.val (.ref a0), .val (.int 0), .val (.int 1), .val (.ref b117), .unset, .unset]) rfl ?_
      show own_S p e below T117 (mkF m 4 #[.val (.ref a0), .val (.int 0), .val (.int 1), .val (.ref b117), .unset, .unset] []) _
      refine XS.aloadN X117.here hx rfl (hb hby d7_4) rfl rfl ?_
      show own_S p e below T117 (mkF m 5 #[.val (.ref a0), .val (.int 0), .val (.int 1), .val (.ref b117), .unset, .unset] [(.ref a0)]) _
      refine XS.iloadN X117.here hx rfl (hb hby d7_5) rfl ?_
      show own_S p e below T117 (mkF m 6 #[.val (.ref a0), .val (.int 0), .val (.int 1), .val (.ref b117), .unset, .unset] [.int 0, (.ref a0)]) _
      refine XS.aloadN X117.here hx rfl (hb hby d7_6) rfl rfl ?_
      show own_S p e below T117 (mkF m 7 #[.val (.ref a0), .val (.int 0), .val (.int 1), .val (.ref b117), .unset, .unset] [(.ref b117), .int 0, (.ref a0)]) _
      refine XS.iconst X117.here hx rfl (hb hby d7_7) ?_
      show own_S p e below T117 (mkF m 8 #[.val (.ref a0), .val (.int 0), .val (.int 1), .val (.ref b117), .unset, .unset] [.int 0, (.ref b117), .int 0, (.ref a0)]) _
      refine XS.iloadN X117.here hx rfl (hb hby d7_8) rfl ?_
      show own_S p e below T117 (mkF m 9 #[.val (.ref a0), .val (.int 0), .val (.int 1), .val (.ref b117), .unset, .unset] [.int 1, .int 0, (.ref b117), .int 0, (.ref a0)]) _
      refine st123 _ ?_
      show own_S p e below T123 (mkF m 12 #[.val (.ref a0), .val (.int 0), .val (.int 1), .val (.ref b117), .unset, .unset] [.int 0]) _
      refine XS.istore X123.here hx rfl (hb hby d7_12) rfl (l' := #[.val (.ref a0), .val (.int 0), .val (.int 1), .val (.ref b117), .val (.int 0), .unset]) rfl ?_
      show own_S p e below T123 (mkF m 14 #[.val (.ref a0), .val (.int 0), .val (.int 1), .val (.ref b117), .val (.int 0), .unset] []) _
      refine XS.iload X123.here hx rfl (hb hby d7_14) rfl ?_
      show own_S p e below T123 (mkF m 16 #[.val (.ref a0), .val (.int 0), .val (.int 1), .val (.ref b117), .val (.int 0), .unset] [.int 0]) _
      refine XS.iloadN X123.here hx rfl (hb hby d7_16) rfl ?_
      show own_S p e below T123 (mkF m 17 #[.val (.ref a0), .val (.int 0), .val (.int 1), .val (.ref b117), .val (.int 0), .unset] [.int 1, .int 0]) _
      refine XS.icmpNo X123.here hx rfl (hb hby d7_17) rfl (feq (by decide : ¬ ((0 : Int32) = (1 : Int32)))).1 ?_
      show own_S p e below T123 (mkF m 20 #[.val (.ref a0), .val (.int 0), .val (.int 1), .val (.ref b117), .val (.int 0), .unset] []) _
      refine XS.aloadN X123.here hx rfl (hb hby d7_20) rfl rfl ?_
      show own_S p e below T123 (mkF m 21 #[.val (.ref a0), .val (.int 0), .val (.int 1), .val (.ref b117), .val (.int 0), .unset] [(.ref a0)]) _
      refine XS.iloadN X123.here hx rfl (hb hby d7_21) rfl ?_
      show own_S p e below T123 (mkF m 22 #[.val (.ref a0), .val (.int 0), .val (.int 1), .val (.ref b117), .val (.int 0), .unset] [.int 0, (.ref a0)]) _
      refine XS.iloadN X123.here hx rfl (hb hby d7_22) rfl ?_
      exact kt
    obtain ⟨_, _, ⟨T129, L129, k129, n129⟩, -, X129, ⟨Lc129, hQ129, l129, y129, z129⟩, st129⟩ := Jvm.LawKit.callS X123 hx (y := (⟨"java/lang/StringUTF16", "toBytes", "([CII)[B"⟩ : MethodName)) hown (mvT hZ (hw _ (List.mem_of_getElem? (i := 57) rfl))) (mvT hZ (hw _ (List.mem_of_getElem? (i := 58) rfl))) (mvT hZ (hw _ (List.mem_of_getElem? (i := 27) rfl))) (mvT hZ (hw _ (List.mem_of_getElem? (i := 59) rfl))) (by decide) (backOf (W := 0) (rm13_s1 l Z ag hw [] a0 kc c0 T123.heap n0 sz126 x124 hr_c0 x125 S_ad S_hi S_lo) hZ (hw _ (List.mem_of_getElem? (i := 59) rfl)) (hw _ (List.mem_of_getElem? (i := 27) rfl)) (by decide) (by decide)) (g := (mkF m 23 #[.val (.ref a0), .val (.int 0), .val (.int 1), .val (.ref b117), .val (.int 0), .unset] [.int 1, .int 0, (.ref a0)])) rfl (by rw [hml]; rfl) (argsL := [(.ref a0), (.int (0 : Int32)), (.int (1 : Int32))]) (rest := []) (lenOf pd_20 rfl) rfl (by show 2 * 0 + _ ≤ _; exact Nat.le_of_eq rfl) (hb hby d7_23) (fun _ _ => ⟨rfl, rfl, (by decide : 1 + 1 ≤ _), (by decide : 1 + 8 ≤ _)⟩)
    dsimp only [Pt.U, Pt.locs, Pt.cells, Pt.slots] at X129 l129 y129 z129 st129 hQ129
    subst l129 y129 z129
    obtain ⟨r129, kr129, rfl, N129q, K129, ge_r129, gq_r129, Vr129⟩ := hQ129
    have N129 := Fr.app N123 N129q
    have ne130 : a0 ≠ r129 := Nat.ne_of_lt (Nat.lt_of_lt_of_le x124.lt gq_r129)
    have gs_r129 : h0.size ≤ r129 := Nat.le_trans kp127.1 gq_r129
    have x131 := x124.keep K129 nin0
    have x132 := x125.keep K129 all0
    have sz133 : n0 ≤ T129.heap.size := Nat.le_trans sz126 K129.1
    have kp134 : Keep h0 T129.heap [] := kp127.trans K129 all0
    obtain ⟨_, _, ⟨T135, L135, k135, n135⟩, -, X135, ⟨Lc135, hQ135, l135, y135, z135⟩, st135⟩ := Jvm.LawKit.callS X129 hx (y := (⟨"java/lang/StringUTF16", "getChar", "([BI)C"⟩ : MethodName)) hown (mvT hZ (hw _ (List.mem_of_getElem? (i := 73) rfl))) (mvT hZ (hw _ (List.mem_of_getElem? (i := 74) rfl))) (mvT hZ (hw _ (List.mem_of_getElem? (i := 27) rfl))) (mvT hZ (hw _ (List.mem_of_getElem? (i := 75) rfl))) (by decide) (backOf (W := 0) (rm17 l Z ag hw [] r129 (0 : Int32) kr129 (2 : Int32) [(.int (nar .byte ((c0 >>> ((0 : Int32) &&& 31)).toInt8.toInt32))), (.int (nar .byte ((c0 >>> ((8 : Int32) &&& 31)).toInt8.toInt32)))] (nar .byte ((c0 >>> ((0 : Int32) &&& 31)).toInt8.toInt32)) (nar .byte ((c0 >>> ((8 : Int32) &&& 31)).toInt8.toInt32)) T129.heap n0 sz133 Vr129 (by decide) (by decide) rfl rfl x132 S_ad S_hi S_lo) hZ (hw _ (List.mem_of_getElem? (i := 75) rfl)) (hw _ (List.mem_of_getElem? (i := 27) rfl)) (by decide) (by decide)) (g := (mkF m 32 #[.val (.ref a0), .val (.int 0), .val (.int 1), .val (.ref b117), .val (.int 0), .val (.ref r129)] [.int 0, (.ref r129)])) rfl (by rw [hml]; rfl) (argsL := [(.ref r129), (.int (0 : Int32))]) (rest := []) (lenOf pd_17 rfl) rfl (by show 2 * 0 + _ ≤ _; exact Nat.le_of_eq rfl) (hb hby d7_32) (fun _ _ => ⟨rfl, rfl, (by decide : 2 + 0 ≤ _), (by decide : 9 + 0 ≤ _)⟩)
    dsimp only [Pt.U, Pt.locs, Pt.cells, Pt.slots] at X135 l135 y135 z135 st135 hQ135
    subst l135 y135 z135
    obtain ⟨rfl, N135q, e135⟩ := hQ135
    have N135 := Fr.app N129 N135q
    obtain ⟨fs, hr, hrun, hended, hW, hsame⟩ := X135.leave (v := some (.ref r129)) (fun h => by rw [Bd.returns] at h; cases h)
    refine ⟨_, _, pre0 _ ?_, hrun, hended, _, _, rfl, ?_, ⟨_, rfl⟩, hW, hsame.mono (by decide) (by decide)⟩
    · show own_S p e below s₁ (mkF m 0 #[.val (.ref a0), .val (.int 0), .val (.int 1), .unset, .unset, .unset] []) _
      refine cp128 _ ?_
      show own_S p e below T123 (mkF m 23 #[.val (.ref a0), .val (.int 0), .val (.int 1), .val (.ref b117), .val (.int 0), .unset] [.int 1, .int 0, (.ref a0)]) _
      refine st129 _ ?_
      show own_S p e below T129 (mkF m 26 #[.val (.ref a0), .val (.int 0), .val (.int 1), .val (.ref b117), .val (.int 0), .unset] [(.ref r129)]) _
      refine XS.astore X129.here hx rfl (hb hby d7_26) rfl rfl (l' := #[.val (.ref a0), .val (.int 0), .val (.int 1), .val (.ref b117), .val (.int 0), .val (.ref r129)]) rfl ?_
      show own_S p e below T129 (mkF m 28 #[.val (.ref a0), .val (.int 0), .val (.int 1), .val (.ref b117), .val (.int 0), .val (.ref r129)] []) _
      refine XS.aload X129.here hx rfl (hb hby d7_28) rfl rfl ?_
      show own_S p e below T129 (mkF m 30 #[.val (.ref a0), .val (.int 0), .val (.int 1), .val (.ref b117), .val (.int 0), .val (.ref r129)] [(.ref r129)]) _
      refine XS.iload X129.here hx rfl (hb hby d7_30) rfl ?_
      show own_S p e below T129 (mkF m 32 #[.val (.ref a0), .val (.int 0), .val (.int 1), .val (.ref b117), .val (.int 0), .val (.ref r129)] [.int 0, (.ref r129)]) _
      refine st135 _ ?_
      show own_S p e below T135 (mkF m 35 #[.val (.ref a0), .val (.int 0), .val (.int 1), .val (.ref b117), .val (.int 0), .val (.ref r129)] [(.int (own_gc (nar .byte ((c0 >>> ((0 : Int32) &&& 31)).toInt8.toInt32)) (nar .byte ((c0 >>> ((8 : Int32) &&& 31)).toInt8.toInt32))))]) _
      refine XS.sipush X135.here hx rfl (hb hby d7_35) ?_
      show own_S p e below T135 (mkF m 38 #[.val (.ref a0), .val (.int 0), .val (.int 1), .val (.ref b117), .val (.int 0), .val (.ref r129)] [.int 255, (.int (own_gc (nar .byte ((c0 >>> ((0 : Int32) &&& 31)).toInt8.toInt32)) (nar .byte ((c0 >>> ((8 : Int32) &&& 31)).toInt8.toInt32))))]) _
      refine XS.icmpYes X135.here hx rfl (pc0 := 38) (pc' := 54) rfl (hb hby d7_38) rfl (tlt (show (255 : Int32) < (own_gc (nar .byte ((c0 >>> ((0 : Int32) &&& 31)).toInt8.toInt32)) (nar .byte ((c0 >>> ((8 : Int32) &&& 31)).toInt8.toInt32))) from (by rw [own_gc_back c0 hr_c0]; exact hbig123))).2.2.1 (by decide) (by decide) ?_
      show own_S p e below T135 (mkF m 54 #[.val (.ref a0), .val (.int 0), .val (.int 1), .val (.ref b117), .val (.int 0), .val (.ref r129)] []) _
      refine XS.aload X135.here hx rfl (hb hby d7_54) rfl rfl ?_
      show own_S p e below T135 (mkF m 56 #[.val (.ref a0), .val (.int 0), .val (.int 1), .val (.ref b117), .val (.int 0), .val (.ref r129)] [(.ref r129)]) _
      exact Jvm.RoadKit.retOut X135 hx Bd.returns rfl (Or.inr (Or.inr (Or.inr (Or.inr ⟨rfl, rfl, rfl⟩)))) (hb hby d7_56) hr
    · show Q7_s1 Z a0 kc c0 h0 n0 _ T135.heap _
      rw [e135]
      exact ⟨r129, kr129, (2 : Int32), _, rfl, N135, kp134, ge_r129, gs_r129, Vr129, Or.inr ⟨rfl, rfl⟩⟩
  · obtain ⟨rfl, N123q, K123, Vb123, hl123_0⟩ := q123
    have N123 := Fr.app N0 N123q
    have x136 := x119.keep K123 (ninS ne118 nin0)
    have x137 := x120.keep K123 (allS ge_b117 all0)
    have sz138 : n0 ≤ T123.heap.size := Nat.le_trans sz121 K123.1
    have kp139 : Keep h0 T123.heap [] := kp122.trans K123 (allS (Or.inr gs_b117) all0)
    obtain ⟨fs, hr, hrun, hended, hW, hsame⟩ := X123.leave (v := some (.ref b117)) (fun h => by rw [Bd.returns] at h; cases h)
    refine ⟨_, _, pre0 _ ?_, hrun, hended, _, _, rfl, ?_, ⟨_, rfl⟩, hW, hsame.mono (by decide) (by decide)⟩
    · show own_S p e below s₁ (mkF m 0 #[.val (.ref a0), .val (.int 0), .val (.int 1), .unset, .unset, .unset] []) _
      refine XS.iloadN X0.here hx rfl (hb hby d7_0) rfl ?_
      show own_S p e below s₁ (mkF m 1 #[.val (.ref a0), .val (.int 0), .val (.int 1), .unset, .unset, .unset] [.int 1]) _
      refine st117 _ ?_
      show own_S p e below T117 (mkF m 3 #[.val (.ref a0), .val (.int 0), .val (.int 1), .unset, .unset, .unset] [(.ref b117)]) _
      refine XS.astoreN X117.here hx rfl (hb hby d7_3) rfl rfl (l' := #[.val (.ref a0), .val (.int 0), .val (.int 1), .val (.ref b117), .unset, .unset]) rfl ?_
      show own_S p e below T117 (mkF m 4 #[.val (.ref a0), .val (.int 0), .val (.int 1), .val (.ref b117), .unset, .unset] []) _
      refine XS.aloadN X117.here hx rfl (hb hby d7_4) rfl rfl ?_
      show own_S p e below T117 (mkF m 5 #[.val (.ref a0), .val (.int 0), .val (.int 1), .val (.ref b117), .unset, .unset] [(.ref a0)]) _
      refine XS.iloadN X117.here hx rfl (hb hby d7_5) rfl ?_
      show own_S p e below T117 (mkF m 6 #[.val (.ref a0), .val (.int 0), .val (.int 1), .val (.ref b117), .unset, .unset] [.int 0, (.ref a0)]) _
      refine XS.aloadN X117.here hx rfl (hb hby d7_6) rfl rfl ?_
      show own_S p e below T117 (mkF m 7 #[.val (.ref a0), .val (.int 0), .val (.int 1), .val (.ref b117), .unset, .unset] [(.ref b117), .int 0, (.ref a0)]) _
      refine XS.iconst X117.here hx rfl (hb hby d7_7) ?_
      show own_S p e below T117 (mkF m 8 #[.val (.ref a0), .val (.int 0), .val (.int 1), .val (.ref b117), .unset, .unset] [.int 0, (.ref b117), .int 0, (.ref a0)]) _
      refine XS.iloadN X117.here hx rfl (hb hby d7_8) rfl ?_
      show own_S p e below T117 (mkF m 9 #[.val (.ref a0), .val (.int 0), .val (.int 1), .val (.ref b117), .unset, .unset] [.int 1, .int 0, (.ref b117), .int 0, (.ref a0)]) _
      refine st123 _ ?_
      show own_S p e below T123 (mkF m 12 #[.val (.ref a0), .val (.int 0), .val (.int 1), .val (.ref b117), .unset, .unset] [.int 1]) _
      refine XS.istore X123.here hx rfl (hb hby d7_12) rfl (l' := #[.val (.ref a0), .val (.int 0), .val (.int 1), .val (.ref b117), .val (.int 1), .unset]) rfl ?_
      show own_S p e below T123 (mkF m 14 #[.val (.ref a0), .val (.int 0), .val (.int 1), .val (.ref b117), .val (.int 1), .unset] []) _
      refine XS.iload X123.here hx rfl (hb hby d7_14) rfl ?_
      show own_S p e below T123 (mkF m 16 #[.val (.ref a0), .val (.int 0), .val (.int 1), .val (.ref b117), .val (.int 1), .unset] [.int 1]) _
      refine XS.iloadN X123.here hx rfl (hb hby d7_16) rfl ?_
      show own_S p e below T123 (mkF m 17 #[.val (.ref a0), .val (.int 0), .val (.int 1), .val (.ref b117), .val (.int 1), .unset] [.int 1, .int 1]) _
      refine XS.icmpYes X123.here hx rfl (pc0 := 17) (pc' := 57) rfl (hb hby d7_17) rfl (teq (by decide : (1 : Int32) = (1 : Int32))).1 (by decide) (by decide) ?_
      show own_S p e below T123 (mkF m 57 #[.val (.ref a0), .val (.int 0), .val (.int 1), .val (.ref b117), .val (.int 1), .unset] []) _
      refine XS.aloadN X123.here hx rfl (hb hby d7_57) rfl rfl ?_
      show own_S p e below T123 (mkF m 58 #[.val (.ref a0), .val (.int 0), .val (.int 1), .val (.ref b117), .val (.int 1), .unset] [(.ref b117)]) _
      exact Jvm.RoadKit.retOut X123 hx Bd.returns rfl (Or.inr (Or.inr (Or.inr (Or.inr ⟨rfl, rfl, rfl⟩)))) (hb hby d7_58) hr
    · show Q7_s1 Z a0 kc c0 h0 n0 _ T123.heap _
      exact ⟨b117, k117, (1 : Int32), _, rfl, N123, kp139, ge_b117, gs_b117, Vb123, Or.inl ⟨rfl, rfl, hl123_0⟩⟩
theorem ef_5_vv01n (m : MethodId) (a0 : Addr) (a1 : Addr) : entryFrame m #[(.ref a0), (.ref a1), (.int (0 : Int32)), (.int (1 : Int32)), .null] 6 = mkF m 0 #[.val (.ref a0), .val (.ref a1), .val (.int 0), .val (.int 1), .val .null, .unset] [] := by first | (simp [entryFrame, mkF, argsToLocals, Value.category]; done) | rfl
theorem d5_27 : decode jdk_42_method_149_code 27 = .ok (.getstatic 38, 3) := by decide +kernel
theorem d5_30 : decode jdk_42_method_149_code 30 = .ok (.ifCond .eq 28, 3) := by decide +kernel
theorem d5_33 : decode jdk_42_method_149_code 33 = .ok (.aload_n 1, 1) := by decide +kernel
theorem d5_34 : decode jdk_42_method_149_code 34 = .ok (.iload_n 2, 1) := by decide +kernel
theorem d5_35 : decode jdk_42_method_149_code 35 = .ok (.iload_n 3, 1) := by decide +kernel
theorem d5_36 : decode jdk_42_method_149_code 36 = .ok (.invokestatic 177, 3) := by decide +kernel
theorem d5_39 : decode jdk_42_method_149_code 39 = .ok (.astore 5, 2) := by decide +kernel
theorem d5_41 : decode jdk_42_method_149_code 41 = .ok (.aload_n 0, 1) := by decide +kernel
theorem d5_42 : decode jdk_42_method_149_code 42 = .ok (.aload 5, 2) := by decide +kernel
theorem d5_44 : decode jdk_42_method_149_code 44 = .ok (.iload_n 3, 1) := by decide +kernel
theorem pd_16 : parseMethodDescriptor "([BI)B" = some ⟨[(.array .byte), .int], some .byte⟩ := by decide +kernel
theorem d5_45 : decode jdk_42_method_149_code 45 = .ok (.invokestatic 47, 3) := by decide +kernel
theorem d5_48 : decode jdk_42_method_149_code 48 = .ok (.putfield 15, 3) := by decide +kernel
theorem d5_51 : decode jdk_42_method_149_code 51 = .ok (.aload_n 0, 1) := by decide +kernel
theorem d5_52 : decode jdk_42_method_149_code 52 = .ok (.aload 5, 2) := by decide +kernel
theorem d5_54 : decode jdk_42_method_149_code 54 = .ok (.putfield 9, 3) := by decide +kernel
theorem d5_57 : decode jdk_42_method_149_code 57 = .ok (.return_, 1) := by decide +kernel
def Q5_s1 (Z : State) (a0 : Addr) (a1 : Addr) (kc : ClassId) (c0 : Int32) (cs : Int32) (h0 : Heap) (n0 : Nat) (v : Option Value) (h : Heap) (L : List Loc) : Prop := v = none ∧ Fr n0 L ∧ Keep h0 h [a0] ∧ own_str Z h a0 [c0]
set_option maxRecDepth 65536 in
set_option maxHeartbeats 40000000 in
theorem rm5_s1 (l : Launch) (Z : State) (ag : Array Value) (hw : ∀ d ∈ tables_1, d.before ag Z = true) (ws : List Jvm.Cond) (a0 : Addr) (a1 : Addr) (kc : ClassId) (c0 : Int32) (cs : Int32) (h0 : Heap) (n0 : Nat) (Z0 : n0 ≤ h0.size) (E_a0 : Exa Z h0 a0 "java/lang/String") (F_value_a0 : Fld Z h0 a0 "java/lang/String" "value" "[B" .null) (F_coder_a0 : Fld Z h0 a0 "java/lang/String" "coder" "B" (.int (0 : Int32))) (ge_a0 : n0 ≤ a0) (ne_a0_a1 : a0 ≠ a1) (O_ : Old Z n0 h0) (S_cs : Sta Z Z.heap "java/lang/String" "COMPACT_STRINGS" "Z" (.int cs)) (hcs : ¬ cs = (0 : Int32)) (S_ad : Sta Z Z.heap "java/lang/StringUTF16" "$assertionsDisabled" "Z" (.int (1 : Int32))) (S_hi : Sta Z Z.heap "java/lang/StringUTF16" "HI_BYTE_SHIFT" "I" (.int (0 : Int32))) (S_lo : Sta Z Z.heap "java/lang/StringUTF16" "LO_BYTE_SHIFT" "I" (.int (8 : Int32))) (V_a1 : Arv Z h0 a1 kc .char (1 : Int32) [(.int c0)] (.int (0 : Int32))) (hr_c0 : 0 ≤ c0.toInt ∧ c0.toInt < 65536) :
    MetFree l (⟨"java/lang/String", "<init>", "([CIILjava/lang/Void;)V"⟩ : MethodName) (head1 (Jvm.Cond.code (⟨"java/lang/String", "<init>", "([CIILjava/lang/Void;)V"⟩ : MethodName) jdk_42_method_149_code 6 none :: ws) ({ frames := 4, cells := 2, slots := 9, locals := 57 } : Room)) (fun a U => a = #[(.ref a0), (.ref a1), (.int (0 : Int32)), (.int (1 : Int32)), .null] ∧ Z.Warmed39 U.vm ∧ U.heap = h0) (fun _ _ _ _ _ => True) (fun _ U o U' => ∃ v L, o = .returned v ∧ Q5_s1 Z a0 a1 kc c0 cs h0 n0 v U'.heap L ∧ FrameEnd U o U' L ({ frames := 4, cells := 2, slots := 9, locals := 57 } : Room).cells ({ frames := 4, cells := 2, slots := 9, locals := 57 } : Room).slots) := by
  refine MetFree.of_bodySF (plainFor_of_name pn_3) hisR ?_
  intro p e s m args below meth c s₁ Bd hml0 hP hK
  obtain ⟨rfl, hZ, hh⟩ := hP
  have hx := Bd.exec
  have hby := Bd.bytes
  have hml : c.maxLocals = 6 := hml0
  have hown : s.vm.findClass "java/lang/String" = some m.cls := findClass_of_methodNamed Bd.named
  have hnm := (name_of_methodNamed Bd.named Bd.method).1
  have X0 : Stand p l e ({ frames := 4, cells := 2, slots := 9, locals := 57 } : Room) s m #[(.ref a0), (.ref a1), (.int (0 : Int32)), (.int (1 : Int32)), .null] below meth c s₁ [] 0 0 := Stand.of_body Bd
  have e0 : s₁.heap = h0 := by rw [← hh, Bd.state]; rfl
  have N0 := Fr.nil n0
  have pre0 : ∀ t, Steps p.tables e below (s₁.setTop (mkF m 0 #[.val (.ref a0), .val (.ref a1), .val (.int 0), .val (.int 1), .val .null, .unset] [])) t → Steps p.tables e below (s₁.setTop (entryFrame m #[(.ref a0), (.ref a1), (.int (0 : Int32)), (.int (1 : Int32)), .null] 6)) t := fun t k => castTop (ef_5_vv01n m a0 a1) k
  obtain ⟨T140, X140, e140, st140⟩ := initO X0 hx hZ hown (hw _ (List.mem_of_getElem? (i := 21) rfl)) (hw _ (List.mem_of_getElem? (i := 22) rfl)) (hw _ (List.mem_of_getElem? (i := 23) rfl)) e0 (g := (mkF m 1 #[.val (.ref a0), .val (.ref a1), .val (.int 0), .val (.int 1), .val .null, .unset] [(.ref a0)])) rfl (by rw [hml]; rfl) rfl (hb hby d5_1) (by decide) (W := 0) (by show 2 * 0 + _ ≤ _; exact Nat.le_of_eq rfl) (by decide)
  obtain ⟨T141, X141, e141, st141⟩ := getS2 X140 hx hZ hown (host := "") (Or.inl (hw _ (List.mem_of_getElem? (i := 24) rfl))) Via.refl e140 (Sta.ext O_.2 S_cs) (g := (mkF m 27 #[.val (.ref a0), .val (.ref a1), .val (.int 0), .val (.int 1), .val .null, .unset] [])) rfl (hb hby d5_27)
  obtain ⟨_, _, ⟨T142, L142, k142, n142⟩, -, X142, ⟨Lc142, hQ142, l142, y142, z142⟩, st142⟩ := Jvm.LawKit.callS X141 hx (y := (⟨"java/lang/StringUTF16", "compress", "([CII)[B"⟩ : MethodName)) hown (mvT hZ (hw _ (List.mem_of_getElem? (i := 25) rfl))) (mvT hZ (hw _ (List.mem_of_getElem? (i := 26) rfl))) (mvT hZ (hw _ (List.mem_of_getElem? (i := 27) rfl))) (mvT hZ (hw _ (List.mem_of_getElem? (i := 28) rfl))) (by decide) (backOf (W := 0) (rm7_s1 l Z ag hw [] a1 kc c0 h0 n0 Z0 V_a1 hr_c0 O_ S_ad S_hi S_lo) hZ (hw _ (List.mem_of_getElem? (i := 28) rfl)) (hw _ (List.mem_of_getElem? (i := 27) rfl)) (by decide) (by decide)) (g := (mkF m 36 #[.val (.ref a0), .val (.ref a1), .val (.int 0), .val (.int 1), .val .null, .unset] [.int 1, .int 0, (.ref a1)])) rfl (by rw [hml]; rfl) (argsL := [(.ref a1), (.int (0 : Int32)), (.int (1 : Int32))]) (rest := []) (lenOf pd_20 rfl) rfl (by show 2 * 0 + _ ≤ _; exact Nat.le_of_eq rfl) (hb hby d5_36) (fun _ _ => ⟨rfl, e141, (by decide : 0 + 2 ≤ _), (by decide : 0 + 9 ≤ _)⟩)
  dsimp only [Pt.U, Pt.locs, Pt.cells, Pt.slots] at X142 l142 y142 z142 st142 hQ142
  subst l142 y142 z142
  obtain ⟨r142, kr142, nb142, vs142, rfl, N142q, K142, ge_r142, gq_r142, Vr142, hQ142⟩ := hQ142
  rcases hQ142 with q142 | q142
  · obtain ⟨rfl, rfl, hl142_0⟩ := q142
    have N142 := Fr.app N0 N142q
    have ne143 : a0 ≠ r142 := Nat.ne_of_lt (Nat.lt_of_lt_of_le E_a0.lt gq_r142)
    have ne144 : a1 ≠ r142 := Nat.ne_of_lt (Nat.lt_of_lt_of_le V_a1.lt gq_r142)
    have gs_r142 : h0.size ≤ r142 := Nat.le_trans (Keep.refl h0 [a0]).1 gq_r142
    have x145 := E_a0.keep K142
    have x146 := F_value_a0.keep K142 nin0
    have x147 := F_coder_a0.keep K142 nin0
    have x148 := O_.keep K142 all0
    have x149 := V_a1.keep K142 nin0
    have sz150 : n0 ≤ T142.heap.size := Nat.le_trans Z0 K142.1
    have kp151 : Keep h0 T142.heap [a0] := (Keep.refl h0 [a0]).trans K142 all0
    have cp152 : ∀ target, own_S p e below T142 (mkF m 45 #[.val (.ref a0), .val (.ref a1), .val (.int 0), .val (.int 1), .val .null, .val (.ref r142)] [.int 1, (.ref r142), (.ref a0)]) target → own_S p e below s₁ (mkF m 0 #[.val (.ref a0), .val (.ref a1), .val (.int 0), .val (.int 1), .val .null, .unset] []) target := by
      intro target kt
      show own_S p e below s₁ (mkF m 0 #[.val (.ref a0), .val (.ref a1), .val (.int 0), .val (.int 1), .val .null, .unset] []) _
      refine XS.aloadN X0.here hx rfl (hb hby d5_0) rfl rfl ?_
      show own_S p e below s₁ (mkF m 1 #[.val (.ref a0), .val (.ref a1), .val (.int 0), .val (.int 1), .val .null, .unset] [(.ref a0)]) _
      refine st140 _ ?_
      show own_S p e below T140 (mkF m 4 #[.val (.ref a0), .val (.ref a1), .val (.int 0), .val (.int 1), .val .null, .unset] []) _
      refine XS.iloadN X140.here hx rfl (hb hby d5_4) rfl ?_
      show own_S p e below T140 (mkF m 5 #[.val (.ref a0), .val (.ref a1), .val (.int 0), .val (.int 1), .val .null, .unset] [.int 1]) _
      refine XS.ifYes X140.here hx rfl (pc0 := 5) (pc' := 27) rfl (hb hby d5_5) rfl ((if0 _ _).trans (feq (by decide : ¬ ((1 : Int32) = (0 : Int32)))).2) (by decide) (by decide) ?_
      show own_S p e below T140 (mkF m 27 #[.val (.ref a0), .val (.ref a1), .val (.int 0), .val (.int 1), .val .null, .unset] []) _
      refine st141 _ ?_
      show own_S p e below T141 (mkF m 30 #[.val (.ref a0), .val (.ref a1), .val (.int 0), .val (.int 1), .val .null, .unset] [(.int cs)]) _
      refine XS.ifNo X141.here hx rfl (hb hby d5_30) rfl ((if0 _ _).trans (feq (show ¬ (cs = (0 : Int32)) from hcs)).1) ?_
      show own_S p e below T141 (mkF m 33 #[.val (.ref a0), .val (.ref a1), .val (.int 0), .val (.int 1), .val .null, .unset] []) _
      refine XS.aloadN X141.here hx rfl (hb hby d5_33) rfl rfl ?_
      show own_S p e below T141 (mkF m 34 #[.val (.ref a0), .val (.ref a1), .val (.int 0), .val (.int 1), .val .null, .unset] [(.ref a1)]) _
      refine XS.iloadN X141.here hx rfl (hb hby d5_34) rfl ?_
      show own_S p e below T141 (mkF m 35 #[.val (.ref a0), .val (.ref a1), .val (.int 0), .val (.int 1), .val .null, .unset] [.int 0, (.ref a1)]) _
      refine XS.iloadN X141.here hx rfl (hb hby d5_35) rfl ?_
      show own_S p e below T141 (mkF m 36 #[.val (.ref a0), .val (.ref a1), .val (.int 0), .val (.int 1), .val .null, .unset] [.int 1, .int 0, (.ref a1)]) _
      refine st142 _ ?_
      show own_S p e below T142 (mkF m 39 #[.val (.ref a0), .val (.ref a1), .val (.int 0), .val (.int 1), .val .null, .unset] [(.ref r142)]) _
      refine XS.astore X142.here hx rfl (hb hby d5_39) rfl rfl (l' := #[.val (.ref a0), .val (.ref a1), .val (.int 0), .val (.int 1), .val .null, .val (.ref r142)]) rfl ?_
      show own_S p e below T142 (mkF m 41 #[.val (.ref a0), .val (.ref a1), .val (.int 0), .val (.int 1), .val .null, .val (.ref r142)] []) _
      refine XS.aloadN X142.here hx rfl (hb hby d5_41) rfl rfl ?_
      show own_S p e below T142 (mkF m 42 #[.val (.ref a0), .val (.ref a1), .val (.int 0), .val (.int 1), .val .null, .val (.ref r142)] [(.ref a0)]) _
      refine XS.aload X142.here hx rfl (hb hby d5_42) rfl rfl ?_
      show own_S p e below T142 (mkF m 44 #[.val (.ref a0), .val (.ref a1), .val (.int 0), .val (.int 1), .val .null, .val (.ref r142)] [(.ref r142), (.ref a0)]) _
      refine XS.iloadN X142.here hx rfl (hb hby d5_44) rfl ?_
      exact kt
    obtain ⟨_, _, ⟨T153, L153, k153, n153⟩, -, X153, ⟨Lc153, hQ153, l153, y153, z153⟩, st153⟩ := Jvm.LawKit.callS X142 hx (y := (⟨"java/lang/StringUTF16", "coderFromArrayLen", "([BI)B"⟩ : MethodName)) hown (mvT hZ (hw _ (List.mem_of_getElem? (i := 33) rfl))) (mvT hZ (hw _ (List.mem_of_getElem? (i := 34) rfl))) (mvT hZ (hw _ (List.mem_of_getElem? (i := 27) rfl))) (mvT hZ (hw _ (List.mem_of_getElem? (i := 35) rfl))) (by decide) (backOf (W := 1) (rm9 l Z ag hw [] r142 (1 : Int32) kr142 (1 : Int32) [(.int (nar .byte (c0.toInt8.toInt32)))] (0 : Int32) T142.heap n0 sz150 Vr142 (by decide)) hZ (hw _ (List.mem_of_getElem? (i := 35) rfl)) (hw _ (List.mem_of_getElem? (i := 27) rfl)) (by decide) (by decide)) (g := (mkF m 45 #[.val (.ref a0), .val (.ref a1), .val (.int 0), .val (.int 1), .val .null, .val (.ref r142)] [.int 1, (.ref r142), (.ref a0)])) rfl (by rw [hml]; rfl) (argsL := [(.ref r142), (.int (1 : Int32))]) (rest := [(.ref a0)]) (lenOf pd_16 rfl) rfl (by show 2 * 0 + _ ≤ _; exact Nat.le_of_eq rfl) (hb hby d5_45) (fun _ _ => ⟨rfl, rfl, (by decide : 2 + 0 ≤ _), (by decide : 9 + 0 ≤ _)⟩)
    dsimp only [Pt.U, Pt.locs, Pt.cells, Pt.slots] at X153 l153 y153 z153 st153 hQ153
    subst l153 y153 z153
    obtain ⟨rfl, N153q, e153⟩ := hQ153
    have N153 := Fr.app N142 N153q
    obtain ⟨T154, h154, X154, e154, W154, st154⟩ := putFN X153 hx hZ hown (hw _ (List.mem_of_getElem? (i := 36) rfl)) Via.refl e153 x147 x145 (Or.inr ⟨(hw _ (List.mem_of_getElem? (i := 37) rfl)), rfl, hnm⟩) (hw _ (List.mem_of_getElem? (i := 11) rfl)) (ty := .byte) (v' := (.int (0 : Int32))) (by decide) rfl (fits_nar_byte (0 : Int32)) (g := (mkF m 48 #[.val (.ref a0), .val (.ref a1), .val (.int 0), .val (.int 1), .val .null, .val (.ref r142)] [.int 0, (.ref a0)])) rfl rfl (hb hby d5_48)
    have Fw154 := x147.same W154
    have x155 := x145.wr W154
    have x156 := x146.other W154 (Or.inr (slot_ne (Or.inr (hw _ (List.mem_of_getElem? (i := 39) rfl))) (Or.inr (hw _ (List.mem_of_getElem? (i := 37) rfl))) (by decide) (t := (.array .byte)) (t' := .byte) (by decide) (by decide)))
    have x157 := x148.wr W154 ge_a0
    have x158 := x149.other W154 (Ne.symm ne_a0_a1)
    have x159 := Vr142.other W154 (Ne.symm ne143)
    have sz160 : n0 ≤ h154.size := Nat.le_trans sz150 (Keep.of_wr W154).1
    have kp161 : Keep h0 h154 [a0] := kp151.wr W154 (Or.inl (List.mem_of_getElem? (i := 0) rfl))
    have N154 := Fr.snoc X154 N153 ge_a0
    obtain ⟨T162, h162, X162, e162, W162, st162⟩ := putF X154 hx hZ hown (host := "") (Or.inl (hw _ (List.mem_of_getElem? (i := 38) rfl))) Via.refl e154 x156 x155 (Or.inr ⟨(hw _ (List.mem_of_getElem? (i := 39) rfl)), rfl, hnm⟩) (hw _ (List.mem_of_getElem? (i := 11) rfl)) (ty := (.array .byte)) (by decide) rfl rfl (g := (mkF m 54 #[.val (.ref a0), .val (.ref a1), .val (.int 0), .val (.int 1), .val .null, .val (.ref r142)] [(.ref r142), (.ref a0)])) rfl rfl (hb hby d5_54)
    have Fw162 := x156.same W162
    have x163 := x155.wr W162
    have x164 := x157.wr W162 ge_a0
    have x165 := x158.other W162 (Ne.symm ne_a0_a1)
    have x166 := x159.other W162 (Ne.symm ne143)
    have x167 := Fw154.other W162 (Or.inr (slot_ne (Or.inr (hw _ (List.mem_of_getElem? (i := 37) rfl))) (Or.inr (hw _ (List.mem_of_getElem? (i := 39) rfl))) (by decide) (t := .byte) (t' := (.array .byte)) (by decide) (by decide)))
    have sz168 : n0 ≤ h162.size := Nat.le_trans sz160 (Keep.of_wr W162).1
    have kp169 : Keep h0 h162 [a0] := kp161.wr W162 (Or.inl (List.mem_of_getElem? (i := 0) rfl))
    have N162 := Fr.snoc X162 N154 ge_a0
    obtain ⟨fs, hr, hrun, hended, hW, hsame⟩ := X162.leave (v := none) (fun _ => rfl)
    refine ⟨_, _, pre0 _ ?_, hrun, hended, _, _, rfl, ?_, ⟨_, rfl⟩, hW, hsame.mono (by decide) (by decide)⟩
    · show own_S p e below s₁ (mkF m 0 #[.val (.ref a0), .val (.ref a1), .val (.int 0), .val (.int 1), .val .null, .unset] []) _
      refine cp152 _ ?_
      show own_S p e below T142 (mkF m 45 #[.val (.ref a0), .val (.ref a1), .val (.int 0), .val (.int 1), .val .null, .val (.ref r142)] [.int 1, (.ref r142), (.ref a0)]) _
      refine st153 _ ?_
      show own_S p e below T153 (mkF m 48 #[.val (.ref a0), .val (.ref a1), .val (.int 0), .val (.int 1), .val .null, .val (.ref r142)] [.int 0, (.ref a0)]) _
      refine st154 _ ?_
      show own_S p e below T154 (mkF m 51 #[.val (.ref a0), .val (.ref a1), .val (.int 0), .val (.int 1), .val .null, .val (.ref r142)] []) _
      refine XS.aloadN X154.here hx rfl (hb hby d5_51) rfl rfl ?_
      show own_S p e below T154 (mkF m 52 #[.val (.ref a0), .val (.ref a1), .val (.int 0), .val (.int 1), .val .null, .val (.ref r142)] [(.ref a0)]) _
      refine XS.aload X154.here hx rfl (hb hby d5_52) rfl rfl ?_
      show own_S p e below T154 (mkF m 54 #[.val (.ref a0), .val (.ref a1), .val (.int 0), .val (.int 1), .val .null, .val (.ref r142)] [(.ref r142), (.ref a0)]) _
      refine st162 _ ?_
      show own_S p e below T162 (mkF m 57 #[.val (.ref a0), .val (.ref a1), .val (.int 0), .val (.int 1), .val .null, .val (.ref r142)] []) _
      exact X162.returnOut hx Bd.returns (hb hby d5_57) hr
    · show Q5_s1 Z a0 a1 kc c0 cs h0 n0 _ T162.heap _
      rw [e162]
      exact ⟨rfl, N162, kp169, ⟨x163, (by decide : 1 ≤ 4), r142, kr142, (1 : Int32), (0 : Int32), _, Fw162, x167, x166, Or.inl ⟨rfl, rfl, own_lat_of1 hr_c0 hl142_0⟩⟩⟩
  · obtain ⟨rfl, rfl⟩ := q142
    have N142 := Fr.app N0 N142q
    have ne170 : a0 ≠ r142 := Nat.ne_of_lt (Nat.lt_of_lt_of_le E_a0.lt gq_r142)
    have ne171 : a1 ≠ r142 := Nat.ne_of_lt (Nat.lt_of_lt_of_le V_a1.lt gq_r142)
    have gs_r142 : h0.size ≤ r142 := Nat.le_trans (Keep.refl h0 [a0]).1 gq_r142
    have x172 := E_a0.keep K142
    have x173 := F_value_a0.keep K142 nin0
    have x174 := F_coder_a0.keep K142 nin0
    have x175 := O_.keep K142 all0
    have x176 := V_a1.keep K142 nin0
    have sz177 : n0 ≤ T142.heap.size := Nat.le_trans Z0 K142.1
    have kp178 : Keep h0 T142.heap [a0] := (Keep.refl h0 [a0]).trans K142 all0
    have cp179 : ∀ target, own_S p e below T142 (mkF m 45 #[.val (.ref a0), .val (.ref a1), .val (.int 0), .val (.int 1), .val .null, .val (.ref r142)] [.int 1, (.ref r142), (.ref a0)]) target → own_S p e below s₁ (mkF m 0 #[.val (.ref a0), .val (.ref a1), .val (.int 0), .val (.int 1), .val .null, .unset] []) target := by
      intro target kt
      show own_S p e below s₁ (mkF m 0 #[.val (.ref a0), .val (.ref a1), .val (.int 0), .val (.int 1), .val .null, .unset] []) _
      refine XS.aloadN X0.here hx rfl (hb hby d5_0) rfl rfl ?_
      show own_S p e below s₁ (mkF m 1 #[.val (.ref a0), .val (.ref a1), .val (.int 0), .val (.int 1), .val .null, .unset] [(.ref a0)]) _
      refine st140 _ ?_
      show own_S p e below T140 (mkF m 4 #[.val (.ref a0), .val (.ref a1), .val (.int 0), .val (.int 1), .val .null, .unset] []) _
      refine XS.iloadN X140.here hx rfl (hb hby d5_4) rfl ?_
      show own_S p e below T140 (mkF m 5 #[.val (.ref a0), .val (.ref a1), .val (.int 0), .val (.int 1), .val .null, .unset] [.int 1]) _
      refine XS.ifYes X140.here hx rfl (pc0 := 5) (pc' := 27) rfl (hb hby d5_5) rfl ((if0 _ _).trans (feq (by decide : ¬ ((1 : Int32) = (0 : Int32)))).2) (by decide) (by decide) ?_
      show own_S p e below T140 (mkF m 27 #[.val (.ref a0), .val (.ref a1), .val (.int 0), .val (.int 1), .val .null, .unset] []) _
      refine st141 _ ?_
      show own_S p e below T141 (mkF m 30 #[.val (.ref a0), .val (.ref a1), .val (.int 0), .val (.int 1), .val .null, .unset] [(.int cs)]) _
      refine XS.ifNo X141.here hx rfl (hb hby d5_30) rfl ((if0 _ _).trans (feq (show ¬ (cs = (0 : Int32)) from hcs)).1) ?_
      show own_S p e below T141 (mkF m 33 #[.val (.ref a0), .val (.ref a1), .val (.int 0), .val (.int 1), .val .null, .unset] []) _
      refine XS.aloadN X141.here hx rfl (hb hby d5_33) rfl rfl ?_
      show own_S p e below T141 (mkF m 34 #[.val (.ref a0), .val (.ref a1), .val (.int 0), .val (.int 1), .val .null, .unset] [(.ref a1)]) _
      refine XS.iloadN X141.here hx rfl (hb hby d5_34) rfl ?_
      show own_S p e below T141 (mkF m 35 #[.val (.ref a0), .val (.ref a1), .val (.int 0), .val (.int 1), .val .null, .unset] [.int 0, (.ref a1)]) _
      refine XS.iloadN X141.here hx rfl (hb hby d5_35) rfl ?_
      show own_S p e below T141 (mkF m 36 #[.val (.ref a0), .val (.ref a1), .val (.int 0), .val (.int 1), .val .null, .unset] [.int 1, .int 0, (.ref a1)]) _
      refine st142 _ ?_
      show own_S p e below T142 (mkF m 39 #[.val (.ref a0), .val (.ref a1), .val (.int 0), .val (.int 1), .val .null, .unset] [(.ref r142)]) _
      refine XS.astore X142.here hx rfl (hb hby d5_39) rfl rfl (l' := #[.val (.ref a0), .val (.ref a1), .val (.int 0), .val (.int 1), .val .null, .val (.ref r142)]) rfl ?_
      show own_S p e below T142 (mkF m 41 #[.val (.ref a0), .val (.ref a1), .val (.int 0), .val (.int 1), .val .null, .val (.ref r142)] []) _
      refine XS.aloadN X142.here hx rfl (hb hby d5_41) rfl rfl ?_
      show own_S p e below T142 (mkF m 42 #[.val (.ref a0), .val (.ref a1), .val (.int 0), .val (.int 1), .val .null, .val (.ref r142)] [(.ref a0)]) _
      refine XS.aload X142.here hx rfl (hb hby d5_42) rfl rfl ?_
      show own_S p e below T142 (mkF m 44 #[.val (.ref a0), .val (.ref a1), .val (.int 0), .val (.int 1), .val .null, .val (.ref r142)] [(.ref r142), (.ref a0)]) _
      refine XS.iloadN X142.here hx rfl (hb hby d5_44) rfl ?_
      exact kt
    obtain ⟨_, _, ⟨T180, L180, k180, n180⟩, -, X180, ⟨Lc180, hQ180, l180, y180, z180⟩, st180⟩ := Jvm.LawKit.callS X142 hx (y := (⟨"java/lang/StringUTF16", "coderFromArrayLen", "([BI)B"⟩ : MethodName)) hown (mvT hZ (hw _ (List.mem_of_getElem? (i := 33) rfl))) (mvT hZ (hw _ (List.mem_of_getElem? (i := 34) rfl))) (mvT hZ (hw _ (List.mem_of_getElem? (i := 27) rfl))) (mvT hZ (hw _ (List.mem_of_getElem? (i := 35) rfl))) (by decide) (backOf (W := 1) (rm9 l Z ag hw [] r142 (1 : Int32) kr142 (2 : Int32) [(.int (nar .byte ((c0 >>> ((0 : Int32) &&& 31)).toInt8.toInt32))), (.int (nar .byte ((c0 >>> ((8 : Int32) &&& 31)).toInt8.toInt32)))] (1 : Int32) T142.heap n0 sz177 Vr142 (by decide)) hZ (hw _ (List.mem_of_getElem? (i := 35) rfl)) (hw _ (List.mem_of_getElem? (i := 27) rfl)) (by decide) (by decide)) (g := (mkF m 45 #[.val (.ref a0), .val (.ref a1), .val (.int 0), .val (.int 1), .val .null, .val (.ref r142)] [.int 1, (.ref r142), (.ref a0)])) rfl (by rw [hml]; rfl) (argsL := [(.ref r142), (.int (1 : Int32))]) (rest := [(.ref a0)]) (lenOf pd_16 rfl) rfl (by show 2 * 0 + _ ≤ _; exact Nat.le_of_eq rfl) (hb hby d5_45) (fun _ _ => ⟨rfl, rfl, (by decide : 2 + 0 ≤ _), (by decide : 9 + 0 ≤ _)⟩)
    dsimp only [Pt.U, Pt.locs, Pt.cells, Pt.slots] at X180 l180 y180 z180 st180 hQ180
    subst l180 y180 z180
    obtain ⟨rfl, N180q, e180⟩ := hQ180
    have N180 := Fr.app N142 N180q
    obtain ⟨T181, h181, X181, e181, W181, st181⟩ := putFN X180 hx hZ hown (hw _ (List.mem_of_getElem? (i := 36) rfl)) Via.refl e180 x174 x172 (Or.inr ⟨(hw _ (List.mem_of_getElem? (i := 37) rfl)), rfl, hnm⟩) (hw _ (List.mem_of_getElem? (i := 11) rfl)) (ty := .byte) (v' := (.int (1 : Int32))) (by decide) rfl (fits_nar_byte (1 : Int32)) (g := (mkF m 48 #[.val (.ref a0), .val (.ref a1), .val (.int 0), .val (.int 1), .val .null, .val (.ref r142)] [.int 1, (.ref a0)])) rfl rfl (hb hby d5_48)
    have Fw181 := x174.same W181
    have x182 := x172.wr W181
    have x183 := x173.other W181 (Or.inr (slot_ne (Or.inr (hw _ (List.mem_of_getElem? (i := 39) rfl))) (Or.inr (hw _ (List.mem_of_getElem? (i := 37) rfl))) (by decide) (t := (.array .byte)) (t' := .byte) (by decide) (by decide)))
    have x184 := x175.wr W181 ge_a0
    have x185 := x176.other W181 (Ne.symm ne_a0_a1)
    have x186 := Vr142.other W181 (Ne.symm ne170)
    have sz187 : n0 ≤ h181.size := Nat.le_trans sz177 (Keep.of_wr W181).1
    have kp188 : Keep h0 h181 [a0] := kp178.wr W181 (Or.inl (List.mem_of_getElem? (i := 0) rfl))
    have N181 := Fr.snoc X181 N180 ge_a0
    obtain ⟨T189, h189, X189, e189, W189, st189⟩ := putF X181 hx hZ hown (host := "") (Or.inl (hw _ (List.mem_of_getElem? (i := 38) rfl))) Via.refl e181 x183 x182 (Or.inr ⟨(hw _ (List.mem_of_getElem? (i := 39) rfl)), rfl, hnm⟩) (hw _ (List.mem_of_getElem? (i := 11) rfl)) (ty := (.array .byte)) (by decide) rfl rfl (g := (mkF m 54 #[.val (.ref a0), .val (.ref a1), .val (.int 0), .val (.int 1), .val .null, .val (.ref r142)] [(.ref r142), (.ref a0)])) rfl rfl (hb hby d5_54)
    have Fw189 := x183.same W189
    have x190 := x182.wr W189
    have x191 := x184.wr W189 ge_a0
    have x192 := x185.other W189 (Ne.symm ne_a0_a1)
    have x193 := x186.other W189 (Ne.symm ne170)
    have x194 := Fw181.other W189 (Or.inr (slot_ne (Or.inr (hw _ (List.mem_of_getElem? (i := 37) rfl))) (Or.inr (hw _ (List.mem_of_getElem? (i := 39) rfl))) (by decide) (t := .byte) (t' := (.array .byte)) (by decide) (by decide)))
    have sz195 : n0 ≤ h189.size := Nat.le_trans sz187 (Keep.of_wr W189).1
    have kp196 : Keep h0 h189 [a0] := kp188.wr W189 (Or.inl (List.mem_of_getElem? (i := 0) rfl))
    have N189 := Fr.snoc X189 N181 ge_a0
    obtain ⟨fs, hr, hrun, hended, hW, hsame⟩ := X189.leave (v := none) (fun _ => rfl)
    refine ⟨_, _, pre0 _ ?_, hrun, hended, _, _, rfl, ?_, ⟨_, rfl⟩, hW, hsame.mono (by decide) (by decide)⟩
    · show own_S p e below s₁ (mkF m 0 #[.val (.ref a0), .val (.ref a1), .val (.int 0), .val (.int 1), .val .null, .unset] []) _
      refine cp179 _ ?_
      show own_S p e below T142 (mkF m 45 #[.val (.ref a0), .val (.ref a1), .val (.int 0), .val (.int 1), .val .null, .val (.ref r142)] [.int 1, (.ref r142), (.ref a0)]) _
      refine st180 _ ?_
      show own_S p e below T180 (mkF m 48 #[.val (.ref a0), .val (.ref a1), .val (.int 0), .val (.int 1), .val .null, .val (.ref r142)] [.int 1, (.ref a0)]) _
      refine st181 _ ?_
      show own_S p e below T181 (mkF m 51 #[.val (.ref a0), .val (.ref a1), .val (.int 0), .val (.int 1), .val .null, .val (.ref r142)] []) _
      refine XS.aloadN X181.here hx rfl (hb hby d5_51) rfl rfl ?_
      show own_S p e below T181 (mkF m 52 #[.val (.ref a0), .val (.ref a1), .val (.int 0), .val (.int 1), .val .null, .val (.ref r142)] [(.ref a0)]) _
      refine XS.aload X181.here hx rfl (hb hby d5_52) rfl rfl ?_
      show own_S p e below T181 (mkF m 54 #[.val (.ref a0), .val (.ref a1), .val (.int 0), .val (.int 1), .val .null, .val (.ref r142)] [(.ref r142), (.ref a0)]) _
      refine st189 _ ?_
      show own_S p e below T189 (mkF m 57 #[.val (.ref a0), .val (.ref a1), .val (.int 0), .val (.int 1), .val .null, .val (.ref r142)] []) _
      exact X189.returnOut hx Bd.returns (hb hby d5_57) hr
    · show Q5_s1 Z a0 a1 kc c0 cs h0 n0 _ T189.heap _
      rw [e189]
      exact ⟨rfl, N189, kp196, ⟨x190, (by decide : 1 ≤ 4), r142, kr142, (2 : Int32), (1 : Int32), _, Fw189, x194, x193, Or.inr ⟨rfl, rfl, own_u16_of1 hr_c0⟩⟩⟩
def Q4_s1 (Z : State) (a0 : Addr) (a1 : Addr) (kc : ClassId) (c0 : Int32) (cs : Int32) (h0 : Heap) (n0 : Nat) (v : Option Value) (h : Heap) (L : List Loc) : Prop := v = none ∧ Fr n0 L ∧ Keep h0 h [a0] ∧ own_str Z h a0 [c0]
set_option maxRecDepth 65536 in
set_option maxHeartbeats 40000000 in
theorem rm4_s1 (l : Launch) (Z : State) (ag : Array Value) (hw : ∀ d ∈ tables_1, d.before ag Z = true) (ws : List Jvm.Cond) (a0 : Addr) (a1 : Addr) (kc : ClassId) (c0 : Int32) (cs : Int32) (h0 : Heap) (n0 : Nat) (Z0 : n0 ≤ h0.size) (E_a0 : Exa Z h0 a0 "java/lang/String") (F_value_a0 : Fld Z h0 a0 "java/lang/String" "value" "[B" .null) (F_coder_a0 : Fld Z h0 a0 "java/lang/String" "coder" "B" (.int (0 : Int32))) (ge_a0 : n0 ≤ a0) (ne_a0_a1 : a0 ≠ a1) (O_ : Old Z n0 h0) (S_cs : Sta Z Z.heap "java/lang/String" "COMPACT_STRINGS" "Z" (.int cs)) (hcs : ¬ cs = (0 : Int32)) (S_ad : Sta Z Z.heap "java/lang/StringUTF16" "$assertionsDisabled" "Z" (.int (1 : Int32))) (S_hi : Sta Z Z.heap "java/lang/StringUTF16" "HI_BYTE_SHIFT" "I" (.int (0 : Int32))) (S_lo : Sta Z Z.heap "java/lang/StringUTF16" "LO_BYTE_SHIFT" "I" (.int (8 : Int32))) (V_a1 : Arv Z h0 a1 kc .char (1 : Int32) [(.int c0)] (.int (0 : Int32))) (hr_c0 : 0 ≤ c0.toInt ∧ c0.toInt < 65536) :
    MetFree l (⟨"java/lang/String", "<init>", "([C)V"⟩ : MethodName) (head1 (Jvm.Cond.code (⟨"java/lang/String", "<init>", "([C)V"⟩ : MethodName) jdk_42_method_3_code 2 none :: ws) ({ frames := 5, cells := 2, slots := 9, locals := 74 } : Room)) (fun a U => a = #[(.ref a0), (.ref a1)] ∧ Z.Warmed39 U.vm ∧ U.heap = h0) (fun _ _ _ _ _ => True) (fun _ U o U' => ∃ v L, o = .returned v ∧ Q4_s1 Z a0 a1 kc c0 cs h0 n0 v U'.heap L ∧ FrameEnd U o U' L ({ frames := 5, cells := 2, slots := 9, locals := 74 } : Room).cells ({ frames := 5, cells := 2, slots := 9, locals := 74 } : Room).slots) := by
  refine MetFree.of_bodySF (plainFor_of_name pn_3) hisR ?_
  intro p e s m args below meth c s₁ Bd hml0 hP hK
  obtain ⟨rfl, hZ, hh⟩ := hP
  have hx := Bd.exec
  have hby := Bd.bytes
  have hml : c.maxLocals = 2 := hml0
  have hown : s.vm.findClass "java/lang/String" = some m.cls := findClass_of_methodNamed Bd.named
  have hnm := (name_of_methodNamed Bd.named Bd.method).1
  have X0 : Stand p l e ({ frames := 5, cells := 2, slots := 9, locals := 74 } : Room) s m #[(.ref a0), (.ref a1)] below meth c s₁ [] 0 0 := Stand.of_body Bd
  have e0 : s₁.heap = h0 := by rw [← hh, Bd.state]; rfl
  have N0 := Fr.nil n0
  have pre0 : ∀ t, Steps p.tables e below (s₁.setTop (mkF m 0 #[.val (.ref a0), .val (.ref a1)] [])) t → Steps p.tables e below (s₁.setTop (entryFrame m #[(.ref a0), (.ref a1)] 2)) t := fun t k => castTop (ef_4 m a0 a1) k
  obtain ⟨cl197, Ar197, -, S197, M197, -, -⟩ := id V_a1
  have ld197 := X0.arraylength hx (by rw [e0]; exact Ar197.1) (State.isArrayOf_alike hZ.alike Ar197.2.1) (g := (mkF m 4 #[.val (.ref a0), .val (.ref a1)] [(.ref a1), .int 0, (.ref a1), (.ref a0)])) rfl rfl (hb hby d4_4)
  obtain ⟨_, _, ⟨T198, L198, k198, n198⟩, -, X198, ⟨Lc198, hQ198, l198, y198, z198⟩, st198⟩ := X0.specialBack hx (y := (⟨"java/lang/String", "<init>", "([CIILjava/lang/Void;)V"⟩ : MethodName)) rfl hown (mvT hZ (hw _ (List.mem_of_getElem? (i := 17) rfl))) (mvT hZ (hw _ (List.mem_of_getElem? (i := 18) rfl))) (mvT hZ (hw _ (List.mem_of_getElem? (i := 20) rfl))) (by decide) (backOf (W := 0) (rm5_s1 l Z ag hw [] a0 a1 kc c0 cs h0 n0 Z0 E_a0 F_value_a0 F_coder_a0 ge_a0 ne_a0_a1 O_ S_cs hcs S_ad S_hi S_lo V_a1 hr_c0) hZ (hw _ (List.mem_of_getElem? (i := 20) rfl)) (hw _ (List.mem_of_getElem? (i := 12) rfl)) (by decide) (by decide)) (g := (mkF m 6 #[.val (.ref a0), .val (.ref a1)] [.null, .int 1, .int 0, (.ref a1), (.ref a0)])) rfl (by rw [hml]; rfl) (Steps.refl _) (a := a0) (argsL := [(.ref a1), (.int (0 : Int32)), (.int (1 : Int32)), .null]) (rest := []) (lenOf pd_21 rfl) rfl (by show 2 * 0 + _ ≤ _; exact Nat.le_of_eq rfl) (hb hby d4_6) (fun _ _ => ⟨rfl, e0, (by decide : 0 + 2 ≤ _), (by decide : 0 + 9 ≤ _)⟩)
  dsimp only [Pt.U, Pt.locs, Pt.cells, Pt.slots] at X198 l198 y198 z198 st198 hQ198
  subst l198 y198 z198
  obtain ⟨rfl, N198q, K198, Ss198⟩ := hQ198
  have N198 := Fr.app N0 N198q
  have x199 := E_a0.keep K198
  have x200 := O_.keep K198 (allS ge_a0 all0)
  have x201 := V_a1.keep K198 (ninS (Ne.symm ne_a0_a1) nin0)
  have sz202 : n0 ≤ T198.heap.size := Nat.le_trans Z0 K198.1
  have kp203 : Keep h0 T198.heap [a0] := (Keep.refl h0 [a0]).trans K198 (allS (Or.inl (List.mem_of_getElem? (i := 0) rfl)) all0)
  obtain ⟨fs, hr, hrun, hended, hW, hsame⟩ := X198.leave (v := none) (fun _ => rfl)
  refine ⟨_, _, pre0 _ ?_, hrun, hended, _, _, rfl, ?_, ⟨_, rfl⟩, hW, hsame.mono (by decide) (by decide)⟩
  · show own_S p e below s₁ (mkF m 0 #[.val (.ref a0), .val (.ref a1)] []) _
    refine XS.aloadN X0.here hx rfl (hb hby d4_0) rfl rfl ?_
    show own_S p e below s₁ (mkF m 1 #[.val (.ref a0), .val (.ref a1)] [(.ref a0)]) _
    refine XS.aloadN X0.here hx rfl (hb hby d4_1) rfl rfl ?_
    show own_S p e below s₁ (mkF m 2 #[.val (.ref a0), .val (.ref a1)] [(.ref a1), (.ref a0)]) _
    refine XS.iconst X0.here hx rfl (hb hby d4_2) ?_
    show own_S p e below s₁ (mkF m 3 #[.val (.ref a0), .val (.ref a1)] [.int 0, (.ref a1), (.ref a0)]) _
    refine XS.aloadN X0.here hx rfl (hb hby d4_3) rfl rfl ?_
    show own_S p e below s₁ (mkF m 4 #[.val (.ref a0), .val (.ref a1)] [(.ref a1), .int 0, (.ref a1), (.ref a0)]) _
    refine ld197 _ ?_
    rw [len_of S197 M197]
    show own_S p e below s₁ (mkF m 5 #[.val (.ref a0), .val (.ref a1)] [.int 1, .int 0, (.ref a1), (.ref a0)]) _
    refine XS.aconstNull X0.here hx rfl (hb hby d4_5) ?_
    show own_S p e below s₁ (mkF m 6 #[.val (.ref a0), .val (.ref a1)] [.null, .int 1, .int 0, (.ref a1), (.ref a0)]) _
    refine st198.trans ?_
    show own_S p e below T198 (mkF m 9 #[.val (.ref a0), .val (.ref a1)] []) _
    exact X198.returnOut hx Bd.returns (hb hby d4_9) hr
  · show Q4_s1 Z a0 a1 kc c0 cs h0 n0 _ T198.heap _
    exact ⟨rfl, N198, kp203, Ss198⟩
theorem ef_13_v02 (m : MethodId) (a0 : Addr) : entryFrame m #[(.ref a0), (.int (0 : Int32)), (.int (2 : Int32))] 5 = mkF m 0 #[.val (.ref a0), .val (.int 0), .val (.int 2), .unset, .unset] [] := by first | (simp [entryFrame, mkF, argsToLocals, Value.category]; done) | rfl
def Q13_s2 (Z : State) (a0 : Addr) (kc : ClassId) (c0 : Int32) (c1 : Int32) (h0 : Heap) (n0 : Nat) (v : Option Value) (h : Heap) (L : List Loc) : Prop := ∃ (r : Addr) (kb : ClassId), v = some (.ref r) ∧ Fr n0 L ∧ Keep h0 h [] ∧ n0 ≤ r ∧ h0.size ≤ r ∧ Arv Z h r kb .byte (4 : Int32) [(.int (nar .byte ((c0 >>> ((0 : Int32) &&& 31)).toInt8.toInt32))), (.int (nar .byte ((c0 >>> ((8 : Int32) &&& 31)).toInt8.toInt32))), (.int (nar .byte ((c1 >>> ((0 : Int32) &&& 31)).toInt8.toInt32))), (.int (nar .byte ((c1 >>> ((8 : Int32) &&& 31)).toInt8.toInt32)))] (.int (0 : Int32))
set_option maxRecDepth 65536 in
set_option maxHeartbeats 40000000 in
theorem rm13_s2 (l : Launch) (Z : State) (ag : Array Value) (hw : ∀ d ∈ tables_1, d.before ag Z = true) (ws : List Jvm.Cond) (a0 : Addr) (kc : ClassId) (c0 : Int32) (c1 : Int32) (h0 : Heap) (n0 : Nat) (Z0 : n0 ≤ h0.size) (V_a0 : Arv Z h0 a0 kc .char (2 : Int32) [(.int c0), (.int c1)] (.int (0 : Int32))) (hr_c0 : 0 ≤ c0.toInt ∧ c0.toInt < 65536) (hr_c1 : 0 ≤ c1.toInt ∧ c1.toInt < 65536) (O_ : Old Z n0 h0) (S_ad : Sta Z Z.heap "java/lang/StringUTF16" "$assertionsDisabled" "Z" (.int (1 : Int32))) (S_hi : Sta Z Z.heap "java/lang/StringUTF16" "HI_BYTE_SHIFT" "I" (.int (0 : Int32))) (S_lo : Sta Z Z.heap "java/lang/StringUTF16" "LO_BYTE_SHIFT" "I" (.int (8 : Int32))) :
    MetFree l (⟨"java/lang/StringUTF16", "toBytes", "([CII)[B"⟩ : MethodName) (head1 (Jvm.Cond.code (⟨"java/lang/StringUTF16", "toBytes", "([CII)[B"⟩ : MethodName) jdk_52_method_14_code 5 (some (.array .byte)) :: ws) ({ frames := 2, cells := 1, slots := 8, locals := 24 } : Room)) (fun a U => a = #[(.ref a0), (.int (0 : Int32)), (.int (2 : Int32))] ∧ Z.Warmed39 U.vm ∧ U.heap = h0) (fun _ _ _ _ _ => True) (fun _ U o U' => ∃ v L, o = .returned v ∧ Q13_s2 Z a0 kc c0 c1 h0 n0 v U'.heap L ∧ FrameEnd U o U' L ({ frames := 2, cells := 1, slots := 8, locals := 24 } : Room).cells ({ frames := 2, cells := 1, slots := 8, locals := 24 } : Room).slots) := by
  refine MetFree.of_bodySF (plainFor_of_name pn_5) hisR ?_
  intro p e s m args below meth c s₁ Bd hml0 hP hK
  obtain ⟨rfl, hZ, hh⟩ := hP
  have hx := Bd.exec
  have hby := Bd.bytes
  have hml : c.maxLocals = 5 := hml0
  have hown : s.vm.findClass "java/lang/StringUTF16" = some m.cls := findClass_of_methodNamed Bd.named
  have hnm := (name_of_methodNamed Bd.named Bd.method).1
  have X0 : Stand p l e ({ frames := 2, cells := 1, slots := 8, locals := 24 } : Room) s m #[(.ref a0), (.int (0 : Int32)), (.int (2 : Int32))] below meth c s₁ [] 0 0 := Stand.of_body Bd
  have e0 : s₁.heap = h0 := by rw [← hh, Bd.state]; rfl
  have N0 := Fr.nil n0
  have pre0 : ∀ t, Steps p.tables e below (s₁.setTop (mkF m 0 #[.val (.ref a0), .val (.int 0), .val (.int 2), .unset, .unset] [])) t → Steps p.tables e below (s₁.setTop (entryFrame m #[(.ref a0), (.int (0 : Int32)), (.int (2 : Int32))] 5)) t := fun t k => castTop (ef_13_v02 m a0) k
  obtain ⟨_, _, ⟨T204, L204, k204, n204⟩, -, X204, ⟨Lc204, hQ204, l204, y204, z204⟩, st204⟩ := Jvm.LawKit.callS X0 hx (y := (⟨"java/lang/StringUTF16", "newBytesFor", "(I)[B"⟩ : MethodName)) hown (mvT hZ (hw _ (List.mem_of_getElem? (i := 60) rfl))) (mvT hZ (hw _ (List.mem_of_getElem? (i := 61) rfl))) (mvT hZ (hw _ (List.mem_of_getElem? (i := 27) rfl))) (mvT hZ (hw _ (List.mem_of_getElem? (i := 62) rfl))) (by decide) (backOf (W := 0) (rm14 l Z ag hw [] (2 : Int32) (4 : Int32) h0 n0 Z0 (by decide) (by decide) (by decide) (by decide) (by decide)) hZ (hw _ (List.mem_of_getElem? (i := 62) rfl)) (hw _ (List.mem_of_getElem? (i := 27) rfl)) (by decide) (by decide)) (g := (mkF m 1 #[.val (.ref a0), .val (.int 0), .val (.int 2), .unset, .unset] [.int 2])) rfl (by rw [hml]; rfl) (argsL := [(.int (2 : Int32))]) (rest := []) (lenOf pd_9 rfl) rfl (by show 2 * 0 + _ ≤ _; exact Nat.le_of_eq rfl) (hb hby d13_1) (fun _ _ => ⟨rfl, e0, (by decide : 0 + 1 ≤ _), (by decide : 0 + 8 ≤ _)⟩)
  dsimp only [Pt.U, Pt.locs, Pt.cells, Pt.slots] at X204 l204 y204 z204 st204 hQ204
  subst l204 y204 z204
  obtain ⟨r204, kr204, rfl, N204q, K204, ge_r204, gq_r204, Vr204⟩ := hQ204
  have N204 := Fr.app N0 N204q
  have Vr204 : Arv Z T204.heap r204 kr204 .byte (4 : Int32) [(.int (0 : Int32)), (.int (0 : Int32)), (.int (0 : Int32)), (.int (0 : Int32))] (.int (0 : Int32)) := Vr204.pad (pad_rep [] (.int (0 : Int32)) 4)
  have ne205 : a0 ≠ r204 := Nat.ne_of_lt (Nat.lt_of_lt_of_le V_a0.lt gq_r204)
  have gs_r204 : h0.size ≤ r204 := Nat.le_trans (Keep.refl h0 []).1 gq_r204
  have x206 := V_a0.keep K204 nin0
  have x207 := O_.keep K204 all0
  have sz208 : n0 ≤ T204.heap.size := Nat.le_trans Z0 K204.1
  have kp209 : Keep h0 T204.heap [] := (Keep.refl h0 []).trans K204 all0
  obtain ⟨cl210, Ar210, q210, S210, M210, H210, G210⟩ := id x206
  have hin210 : ¬ ((0 : Int32) < 0 ∨ cl210.slots.size ≤ ((0 : Int32)).toNatClampNeg) := inb_of S210 ⟨(by decide : ¬ (0 : Int32) < 0), (by decide : (0 : Int32) < (2 : Int32))⟩
  have hat210 : cl210.slots[((0 : Int32)).toNatClampNeg]? = some (.int c0) := Has.at H210 hin210 rfl
  have ld210 := X204.caload hx (j := (0 : Int32)) (v := (.int c0)) Ar210.1 (State.isArrayOf_alike hZ.alike Ar210.2.1) Ar210.2.2 hin210 hat210 (g := (mkF m 19 #[.val (.ref a0), .val (.int 0), .val (.int 2), .val (.ref r204), .val (.int 0)] [.int 0, (.ref a0), .int 0, (.ref r204)])) rfl rfl (hb hby d13_19)
  have cp211 : ∀ target, own_S p e below T204 (mkF m 20 #[.val (.ref a0), .val (.int 0), .val (.int 2), .val (.ref r204), .val (.int 0)] [(.int c0), .int 0, (.ref r204)]) target → own_S p e below s₁ (mkF m 0 #[.val (.ref a0), .val (.int 0), .val (.int 2), .unset, .unset] []) target := by
    intro target kt
    show own_S p e below s₁ (mkF m 0 #[.val (.ref a0), .val (.int 0), .val (.int 2), .unset, .unset] []) _
    refine XS.iloadN X0.here hx rfl (hb hby d13_0) rfl ?_
    show own_S p e below s₁ (mkF m 1 #[.val (.ref a0), .val (.int 0), .val (.int 2), .unset, .unset] [.int 2]) _
    refine st204 _ ?_
    show own_S p e below T204 (mkF m 4 #[.val (.ref a0), .val (.int 0), .val (.int 2), .unset, .unset] [(.ref r204)]) _
    refine XS.astoreN X204.here hx rfl (hb hby d13_4) rfl rfl (l' := #[.val (.ref a0), .val (.int 0), .val (.int 2), .val (.ref r204), .unset]) rfl ?_
    show own_S p e below T204 (mkF m 5 #[.val (.ref a0), .val (.int 0), .val (.int 2), .val (.ref r204), .unset] []) _
    refine XS.iconst X204.here hx rfl (hb hby d13_5) ?_
    show own_S p e below T204 (mkF m 6 #[.val (.ref a0), .val (.int 0), .val (.int 2), .val (.ref r204), .unset] [.int 0]) _
    refine XS.istore X204.here hx rfl (hb hby d13_6) rfl (l' := #[.val (.ref a0), .val (.int 0), .val (.int 2), .val (.ref r204), .val (.int 0)]) rfl ?_
    show own_S p e below T204 (mkF m 8 #[.val (.ref a0), .val (.int 0), .val (.int 2), .val (.ref r204), .val (.int 0)] []) _
    refine XS.iload X204.here hx rfl (hb hby d13_8) rfl ?_
    show own_S p e below T204 (mkF m 10 #[.val (.ref a0), .val (.int 0), .val (.int 2), .val (.ref r204), .val (.int 0)] [.int 0]) _
    refine XS.iloadN X204.here hx rfl (hb hby d13_10) rfl ?_
    show own_S p e below T204 (mkF m 11 #[.val (.ref a0), .val (.int 0), .val (.int 2), .val (.ref r204), .val (.int 0)] [.int 2, .int 0]) _
    refine XS.icmpNo X204.here hx rfl (hb hby d13_11) rfl (tlt (by decide : (0 : Int32) < (2 : Int32))).2.1 ?_
    show own_S p e below T204 (mkF m 14 #[.val (.ref a0), .val (.int 0), .val (.int 2), .val (.ref r204), .val (.int 0)] []) _
    refine XS.aloadN X204.here hx rfl (hb hby d13_14) rfl rfl ?_
    show own_S p e below T204 (mkF m 15 #[.val (.ref a0), .val (.int 0), .val (.int 2), .val (.ref r204), .val (.int 0)] [(.ref r204)]) _
    refine XS.iload X204.here hx rfl (hb hby d13_15) rfl ?_
    show own_S p e below T204 (mkF m 17 #[.val (.ref a0), .val (.int 0), .val (.int 2), .val (.ref r204), .val (.int 0)] [.int 0, (.ref r204)]) _
    refine XS.aloadN X204.here hx rfl (hb hby d13_17) rfl rfl ?_
    show own_S p e below T204 (mkF m 18 #[.val (.ref a0), .val (.int 0), .val (.int 2), .val (.ref r204), .val (.int 0)] [(.ref a0), .int 0, (.ref r204)]) _
    refine XS.iloadN X204.here hx rfl (hb hby d13_18) rfl ?_
    show own_S p e below T204 (mkF m 19 #[.val (.ref a0), .val (.int 0), .val (.int 2), .val (.ref r204), .val (.int 0)] [.int 0, (.ref a0), .int 0, (.ref r204)]) _
    refine ld210 _ ?_
    exact kt
  obtain ⟨_, _, ⟨T212, L212, k212, n212⟩, -, X212, ⟨Lc212, hQ212, l212, y212, z212⟩, st212⟩ := Jvm.LawKit.callS X204 hx (y := (⟨"java/lang/StringUTF16", "putChar", "([BII)V"⟩ : MethodName)) hown (mvT hZ (hw _ (List.mem_of_getElem? (i := 67) rfl))) (mvT hZ (hw _ (List.mem_of_getElem? (i := 68) rfl))) (mvT hZ (hw _ (List.mem_of_getElem? (i := 27) rfl))) (mvT hZ (hw _ (List.mem_of_getElem? (i := 69) rfl))) (by decide) (backOf (W := 0) (rm16 l Z ag hw [] r204 (0 : Int32) c0 kr204 (4 : Int32) [(.int (0 : Int32)), (.int (0 : Int32)), (.int (0 : Int32)), (.int (0 : Int32))] T204.heap n0 sz208 Vr204 ge_r204 (by decide) (by decide) (Nat.le_of_ble_eq_true rfl) (Nat.le_of_ble_eq_true rfl) x207 S_ad S_hi S_lo) hZ (hw _ (List.mem_of_getElem? (i := 69) rfl)) (hw _ (List.mem_of_getElem? (i := 27) rfl)) (by decide) (by decide)) (g := (mkF m 20 #[.val (.ref a0), .val (.int 0), .val (.int 2), .val (.ref r204), .val (.int 0)] [(.int c0), .int 0, (.ref r204)])) rfl (by rw [hml]; rfl) (argsL := [(.ref r204), (.int (0 : Int32)), (.int c0)]) (rest := []) (lenOf pd_18 rfl) rfl (by show 2 * 0 + _ ≤ _; exact Nat.le_of_eq rfl) (hb hby d13_20) (fun _ _ => ⟨rfl, rfl, (by decide : 1 + 0 ≤ _), (by decide : 8 + 0 ≤ _)⟩)
  dsimp only [Pt.U, Pt.locs, Pt.cells, Pt.slots] at X212 l212 y212 z212 st212 hQ212
  subst l212 y212 z212
  obtain ⟨rfl, N212q, K212, Vb212⟩ := hQ212
  have N212 := Fr.app N204 N212q
  have Vb212 : Arv Z T212.heap r204 kr204 .byte (4 : Int32) [(.int (nar .byte ((c0 >>> ((0 : Int32) &&& 31)).toInt8.toInt32))), (.int (nar .byte ((c0 >>> ((8 : Int32) &&& 31)).toInt8.toInt32))), (.int (0 : Int32)), (.int (0 : Int32))] (.int (0 : Int32)) := Vb212
  have x213 := x206.keep K212 (ninS ne205 nin0)
  have x214 := x207.keep K212 (allS ge_r204 all0)
  have sz215 : n0 ≤ T212.heap.size := Nat.le_trans sz208 K212.1
  have kp216 : Keep h0 T212.heap [] := kp209.trans K212 (allS (Or.inr gs_r204) all0)
  obtain ⟨cl217, Ar217, q217, S217, M217, H217, G217⟩ := id x213
  have hin217 : ¬ ((1 : Int32) < 0 ∨ cl217.slots.size ≤ ((1 : Int32)).toNatClampNeg) := inb_of S217 ⟨(by decide : ¬ (1 : Int32) < 0), (by decide : (1 : Int32) < (2 : Int32))⟩
  have hat217 : cl217.slots[((1 : Int32)).toNatClampNeg]? = some (.int c1) := Has.at H217 hin217 rfl
  have ld217 := X212.caload hx (j := (1 : Int32)) (v := (.int c1)) Ar217.1 (State.isArrayOf_alike hZ.alike Ar217.2.1) Ar217.2.2 hin217 hat217 (g := (mkF m 19 #[.val (.ref a0), .val (.int 1), .val (.int 2), .val (.ref r204), .val (.int 1)] [.int 1, (.ref a0), .int 1, (.ref r204)])) rfl rfl (hb hby d13_19)
  have cp218 : ∀ target, own_S p e below T212 (mkF m 20 #[.val (.ref a0), .val (.int 1), .val (.int 2), .val (.ref r204), .val (.int 1)] [(.int c1), .int 1, (.ref r204)]) target → own_S p e below s₁ (mkF m 0 #[.val (.ref a0), .val (.int 0), .val (.int 2), .unset, .unset] []) target := by
    intro target kt
    show own_S p e below s₁ (mkF m 0 #[.val (.ref a0), .val (.int 0), .val (.int 2), .unset, .unset] []) _
    refine cp211 _ ?_
    show own_S p e below T204 (mkF m 20 #[.val (.ref a0), .val (.int 0), .val (.int 2), .val (.ref r204), .val (.int 0)] [(.int c0), .int 0, (.ref r204)]) _
    refine st212 _ ?_
    show own_S p e below T212 (mkF m 23 #[.val (.ref a0), .val (.int 0), .val (.int 2), .val (.ref r204), .val (.int 0)] []) _
    refine XS.iinc X212.here hx rfl (hb hby d13_23) rfl (l' := #[.val (.ref a0), .val (.int 1), .val (.int 2), .val (.ref r204), .val (.int 0)]) rfl ?_
    show own_S p e below T212 (mkF m 26 #[.val (.ref a0), .val (.int 1), .val (.int 2), .val (.ref r204), .val (.int 0)] []) _
    refine XS.iinc X212.here hx rfl (hb hby d13_26) rfl (l' := #[.val (.ref a0), .val (.int 1), .val (.int 2), .val (.ref r204), .val (.int 1)]) rfl ?_
    show own_S p e below T212 (mkF m 29 #[.val (.ref a0), .val (.int 1), .val (.int 2), .val (.ref r204), .val (.int 1)] []) _
    refine XS.goto X212.here hx rfl (pc0 := 29) (pc' := 8) rfl (hb hby d13_29) (by decide) (by decide) ?_
    show own_S p e below T212 (mkF m 8 #[.val (.ref a0), .val (.int 1), .val (.int 2), .val (.ref r204), .val (.int 1)] []) _
    refine XS.iload X212.here hx rfl (hb hby d13_8) rfl ?_
    show own_S p e below T212 (mkF m 10 #[.val (.ref a0), .val (.int 1), .val (.int 2), .val (.ref r204), .val (.int 1)] [.int 1]) _
    refine XS.iloadN X212.here hx rfl (hb hby d13_10) rfl ?_
    show own_S p e below T212 (mkF m 11 #[.val (.ref a0), .val (.int 1), .val (.int 2), .val (.ref r204), .val (.int 1)] [.int 2, .int 1]) _
    refine XS.icmpNo X212.here hx rfl (hb hby d13_11) rfl (tlt (by decide : (1 : Int32) < (2 : Int32))).2.1 ?_
    show own_S p e below T212 (mkF m 14 #[.val (.ref a0), .val (.int 1), .val (.int 2), .val (.ref r204), .val (.int 1)] []) _
    refine XS.aloadN X212.here hx rfl (hb hby d13_14) rfl rfl ?_
    show own_S p e below T212 (mkF m 15 #[.val (.ref a0), .val (.int 1), .val (.int 2), .val (.ref r204), .val (.int 1)] [(.ref r204)]) _
    refine XS.iload X212.here hx rfl (hb hby d13_15) rfl ?_
    show own_S p e below T212 (mkF m 17 #[.val (.ref a0), .val (.int 1), .val (.int 2), .val (.ref r204), .val (.int 1)] [.int 1, (.ref r204)]) _
    refine XS.aloadN X212.here hx rfl (hb hby d13_17) rfl rfl ?_
    show own_S p e below T212 (mkF m 18 #[.val (.ref a0), .val (.int 1), .val (.int 2), .val (.ref r204), .val (.int 1)] [(.ref a0), .int 1, (.ref r204)]) _
    refine XS.iloadN X212.here hx rfl (hb hby d13_18) rfl ?_
    show own_S p e below T212 (mkF m 19 #[.val (.ref a0), .val (.int 1), .val (.int 2), .val (.ref r204), .val (.int 1)] [.int 1, (.ref a0), .int 1, (.ref r204)]) _
    refine ld217 _ ?_
    exact kt
  obtain ⟨_, _, ⟨T219, L219, k219, n219⟩, -, X219, ⟨Lc219, hQ219, l219, y219, z219⟩, st219⟩ := Jvm.LawKit.callS X212 hx (y := (⟨"java/lang/StringUTF16", "putChar", "([BII)V"⟩ : MethodName)) hown (mvT hZ (hw _ (List.mem_of_getElem? (i := 67) rfl))) (mvT hZ (hw _ (List.mem_of_getElem? (i := 68) rfl))) (mvT hZ (hw _ (List.mem_of_getElem? (i := 27) rfl))) (mvT hZ (hw _ (List.mem_of_getElem? (i := 69) rfl))) (by decide) (backOf (W := 0) (rm16 l Z ag hw [] r204 (1 : Int32) c1 kr204 (4 : Int32) [(.int (nar .byte ((c0 >>> ((0 : Int32) &&& 31)).toInt8.toInt32))), (.int (nar .byte ((c0 >>> ((8 : Int32) &&& 31)).toInt8.toInt32))), (.int (0 : Int32)), (.int (0 : Int32))] T212.heap n0 sz215 Vb212 ge_r204 (by decide) (by decide) (Nat.le_of_ble_eq_true rfl) (Nat.le_of_ble_eq_true rfl) x214 S_ad S_hi S_lo) hZ (hw _ (List.mem_of_getElem? (i := 69) rfl)) (hw _ (List.mem_of_getElem? (i := 27) rfl)) (by decide) (by decide)) (g := (mkF m 20 #[.val (.ref a0), .val (.int 1), .val (.int 2), .val (.ref r204), .val (.int 1)] [(.int c1), .int 1, (.ref r204)])) rfl (by rw [hml]; rfl) (argsL := [(.ref r204), (.int (1 : Int32)), (.int c1)]) (rest := []) (lenOf pd_18 rfl) rfl (by show 2 * 0 + _ ≤ _; exact Nat.le_of_eq rfl) (hb hby d13_20) (fun _ _ => ⟨rfl, rfl, (by decide : 1 + 0 ≤ _), (by decide : 8 + 0 ≤ _)⟩)
  dsimp only [Pt.U, Pt.locs, Pt.cells, Pt.slots] at X219 l219 y219 z219 st219 hQ219
  subst l219 y219 z219
  obtain ⟨rfl, N219q, K219, Vb219⟩ := hQ219
  have N219 := Fr.app N212 N219q
  have Vb219 : Arv Z T219.heap r204 kr204 .byte (4 : Int32) [(.int (nar .byte ((c0 >>> ((0 : Int32) &&& 31)).toInt8.toInt32))), (.int (nar .byte ((c0 >>> ((8 : Int32) &&& 31)).toInt8.toInt32))), (.int (nar .byte ((c1 >>> ((0 : Int32) &&& 31)).toInt8.toInt32))), (.int (nar .byte ((c1 >>> ((8 : Int32) &&& 31)).toInt8.toInt32)))] (.int (0 : Int32)) := Vb219
  have x220 := x213.keep K219 (ninS ne205 nin0)
  have x221 := x214.keep K219 (allS ge_r204 all0)
  have sz222 : n0 ≤ T219.heap.size := Nat.le_trans sz215 K219.1
  have kp223 : Keep h0 T219.heap [] := kp216.trans K219 (allS (Or.inr gs_r204) all0)
  obtain ⟨fs, hr, hrun, hended, hW, hsame⟩ := X219.leave (v := some (.ref r204)) (fun h => by rw [Bd.returns] at h; cases h)
  refine ⟨_, _, pre0 _ ?_, hrun, hended, _, _, rfl, ?_, ⟨_, rfl⟩, hW, hsame.mono (by decide) (by decide)⟩
  · show own_S p e below s₁ (mkF m 0 #[.val (.ref a0), .val (.int 0), .val (.int 2), .unset, .unset] []) _
    refine cp218 _ ?_
    show own_S p e below T212 (mkF m 20 #[.val (.ref a0), .val (.int 1), .val (.int 2), .val (.ref r204), .val (.int 1)] [(.int c1), .int 1, (.ref r204)]) _
    refine st219 _ ?_
    show own_S p e below T219 (mkF m 23 #[.val (.ref a0), .val (.int 1), .val (.int 2), .val (.ref r204), .val (.int 1)] []) _
    refine XS.iinc X219.here hx rfl (hb hby d13_23) rfl (l' := #[.val (.ref a0), .val (.int 2), .val (.int 2), .val (.ref r204), .val (.int 1)]) rfl ?_
    show own_S p e below T219 (mkF m 26 #[.val (.ref a0), .val (.int 2), .val (.int 2), .val (.ref r204), .val (.int 1)] []) _
    refine XS.iinc X219.here hx rfl (hb hby d13_26) rfl (l' := #[.val (.ref a0), .val (.int 2), .val (.int 2), .val (.ref r204), .val (.int 2)]) rfl ?_
    show own_S p e below T219 (mkF m 29 #[.val (.ref a0), .val (.int 2), .val (.int 2), .val (.ref r204), .val (.int 2)] []) _
    refine XS.goto X219.here hx rfl (pc0 := 29) (pc' := 8) rfl (hb hby d13_29) (by decide) (by decide) ?_
    show own_S p e below T219 (mkF m 8 #[.val (.ref a0), .val (.int 2), .val (.int 2), .val (.ref r204), .val (.int 2)] []) _
    refine XS.iload X219.here hx rfl (hb hby d13_8) rfl ?_
    show own_S p e below T219 (mkF m 10 #[.val (.ref a0), .val (.int 2), .val (.int 2), .val (.ref r204), .val (.int 2)] [.int 2]) _
    refine XS.iloadN X219.here hx rfl (hb hby d13_10) rfl ?_
    show own_S p e below T219 (mkF m 11 #[.val (.ref a0), .val (.int 2), .val (.int 2), .val (.ref r204), .val (.int 2)] [.int 2, .int 2]) _
    refine XS.icmpYes X219.here hx rfl (pc0 := 11) (pc' := 32) rfl (hb hby d13_11) rfl (flt (by decide : ¬ ((2 : Int32) < (2 : Int32)))).2.1 (by decide) (by decide) ?_
    show own_S p e below T219 (mkF m 32 #[.val (.ref a0), .val (.int 2), .val (.int 2), .val (.ref r204), .val (.int 2)] []) _
    refine XS.aloadN X219.here hx rfl (hb hby d13_32) rfl rfl ?_
    show own_S p e below T219 (mkF m 33 #[.val (.ref a0), .val (.int 2), .val (.int 2), .val (.ref r204), .val (.int 2)] [(.ref r204)]) _
    exact Jvm.RoadKit.retOut X219 hx Bd.returns rfl (Or.inr (Or.inr (Or.inr (Or.inr ⟨rfl, rfl, rfl⟩)))) (hb hby d13_33) hr
  · show Q13_s2 Z a0 kc c0 c1 h0 n0 _ T219.heap _
    exact ⟨r204, kr204, rfl, N219, kp223, ge_r204, gs_r204, Vb219⟩
theorem ef_8_v0v02 (m : MethodId) (a0 : Addr) (a2 : Addr) : entryFrame m #[(.ref a0), (.int (0 : Int32)), (.ref a2), (.int (0 : Int32)), (.int (2 : Int32))] 7 = mkF m 0 #[.val (.ref a0), .val (.int 0), .val (.ref a2), .val (.int 0), .val (.int 2), .unset, .unset] [] := by first | (simp [entryFrame, mkF, argsToLocals, Value.category]; done) | rfl
abbrev own_loc6 (a0 : Addr) (a2 : Addr) : Array Slot := #[.val (.ref a0), .val (.int 0), .val (.ref a2), .val (.int 0), .val (.int 2), .val (.int 0), .unset]
abbrev own_loc7 (a0 : Addr) (a2 : Addr) (c0 : Int32) : Array Slot := #[.val (.ref a0), .val (.int 0), .val (.ref a2), .val (.int 0), .val (.int 2), .val (.int 0), .val (.int c0)]
abbrev own_loc8 (a0 : Addr) (a2 : Addr) (c0 : Int32) : Array Slot := #[.val (.ref a0), .val (.int 1), .val (.ref a2), .val (.int 0), .val (.int 2), .val (.int 0), .val (.int c0)]
abbrev own_loc9 (a0 : Addr) (a2 : Addr) (c0 : Int32) : Array Slot := #[.val (.ref a0), .val (.int 1), .val (.ref a2), .val (.int 1), .val (.int 2), .val (.int 0), .val (.int c0)]
abbrev own_loc10 (a0 : Addr) (a2 : Addr) (c0 : Int32) : Array Slot := #[.val (.ref a0), .val (.int 1), .val (.ref a2), .val (.int 1), .val (.int 2), .val (.int 1), .val (.int c0)]
abbrev own_loc11 (a0 : Addr) (a2 : Addr) (c1 : Int32) : Array Slot := #[.val (.ref a0), .val (.int 1), .val (.ref a2), .val (.int 1), .val (.int 2), .val (.int 1), .val (.int c1)]
abbrev own_loc12 (a0 : Addr) (a2 : Addr) (c1 : Int32) : Array Slot := #[.val (.ref a0), .val (.int 2), .val (.ref a2), .val (.int 1), .val (.int 2), .val (.int 1), .val (.int c1)]
abbrev own_loc13 (a0 : Addr) (a2 : Addr) (c1 : Int32) : Array Slot := #[.val (.ref a0), .val (.int 2), .val (.ref a2), .val (.int 2), .val (.int 2), .val (.int 1), .val (.int c1)]
abbrev own_loc14 (a0 : Addr) (a2 : Addr) (c1 : Int32) : Array Slot := #[.val (.ref a0), .val (.int 2), .val (.ref a2), .val (.int 2), .val (.int 2), .val (.int 2), .val (.int c1)]
def Q8_s2 (Z : State) (a0 : Addr) (a2 : Addr) (kc : ClassId) (c0 : Int32) (c1 : Int32) (kb : ClassId) (h0 : Heap) (n0 : Nat) (v : Option Value) (h : Heap) (L : List Loc) : Prop := (v = some (.int (0 : Int32)) ∧ Fr n0 L ∧ Keep h0 h [a2] ∧ (255 : Int32) < c0) ∨ (v = some (.int (1 : Int32)) ∧ Fr n0 L ∧ Keep h0 h [a2] ∧ (255 : Int32) < c1) ∨ (v = some (.int (2 : Int32)) ∧ Fr n0 L ∧ Keep h0 h [a2] ∧ Arv Z h a2 kb .byte (2 : Int32) [(.int (nar .byte (c0.toInt8.toInt32))), (.int (nar .byte (c1.toInt8.toInt32)))] (.int (0 : Int32)) ∧ ¬ ((255 : Int32) < c0) ∧ ¬ ((255 : Int32) < c1))
set_option maxRecDepth 65536 in
set_option maxHeartbeats 40000000 in
theorem rm8_s2 (l : Launch) (Z : State) (ag : Array Value) (hw : ∀ d ∈ tables_1, d.before ag Z = true) (ws : List Jvm.Cond) (a0 : Addr) (a2 : Addr) (kc : ClassId) (c0 : Int32) (c1 : Int32) (kb : ClassId) (h0 : Heap) (n0 : Nat) (Z0 : n0 ≤ h0.size) (V_a0 : Arv Z h0 a0 kc .char (2 : Int32) [(.int c0), (.int c1)] (.int (0 : Int32))) (hr_c0 : 0 ≤ c0.toInt ∧ c0.toInt < 65536) (hr_c1 : 0 ≤ c1.toInt ∧ c1.toInt < 65536) (V_a2 : Arv Z h0 a2 kb .byte (2 : Int32) [(.int (0 : Int32)), (.int (0 : Int32))] (.int (0 : Int32))) (ge_a2 : n0 ≤ a2) (ne_a0_a2 : a0 ≠ a2) :
    MetFree l (⟨"java/lang/StringUTF16", "compress", "([CI[BII)I"⟩ : MethodName) (head1 (Jvm.Cond.code (⟨"java/lang/StringUTF16", "compress", "([CI[BII)I"⟩ : MethodName) jdk_52_method_21_code 7 (some .int) :: ws) ({ frames := 0, cells := 0, slots := 0, locals := 0 } : Room)) (fun a U => a = #[(.ref a0), (.int (0 : Int32)), (.ref a2), (.int (0 : Int32)), (.int (2 : Int32))] ∧ Z.Warmed39 U.vm ∧ U.heap = h0) (fun _ _ _ _ _ => True) (fun _ U o U' => ∃ v L, o = .returned v ∧ Q8_s2 Z a0 a2 kc c0 c1 kb h0 n0 v U'.heap L ∧ FrameEnd U o U' L ({ frames := 0, cells := 0, slots := 0, locals := 0 } : Room).cells ({ frames := 0, cells := 0, slots := 0, locals := 0 } : Room).slots) := by
  refine MetFree.of_bodySF (plainFor_of_name pn_5) hisR ?_
  intro p e s m args below meth c s₁ Bd hml0 hP hK
  obtain ⟨rfl, hZ, hh⟩ := hP
  have hx := Bd.exec
  have hby := Bd.bytes
  have hml : c.maxLocals = 7 := hml0
  have hown : s.vm.findClass "java/lang/StringUTF16" = some m.cls := findClass_of_methodNamed Bd.named
  have hnm := (name_of_methodNamed Bd.named Bd.method).1
  have X0 : Stand p l e ({ frames := 0, cells := 0, slots := 0, locals := 0 } : Room) s m #[(.ref a0), (.int (0 : Int32)), (.ref a2), (.int (0 : Int32)), (.int (2 : Int32))] below meth c s₁ [] 0 0 := Stand.of_body Bd
  have e0 : s₁.heap = h0 := by rw [← hh, Bd.state]; rfl
  have N0 := Fr.nil n0
  have pre0 : ∀ t, Steps p.tables e below (s₁.setTop (mkF m 0 #[.val (.ref a0), .val (.int 0), .val (.ref a2), .val (.int 0), .val (.int 2), .unset, .unset] [])) t → Steps p.tables e below (s₁.setTop (entryFrame m #[(.ref a0), (.int (0 : Int32)), (.ref a2), (.int (0 : Int32)), (.int (2 : Int32))] 7)) t := fun t k => castTop (ef_8_v0v02 m a0 a2) k
  obtain ⟨cl224, Ar224, q224, S224, M224, H224, G224⟩ := id V_a0
  have hin224 : ¬ ((0 : Int32) < 0 ∨ cl224.slots.size ≤ ((0 : Int32)).toNatClampNeg) := inb_of S224 ⟨(by decide : ¬ (0 : Int32) < 0), (by decide : (0 : Int32) < (2 : Int32))⟩
  have hat224 : cl224.slots[((0 : Int32)).toNatClampNeg]? = some (.int c0) := Has.at H224 hin224 rfl
  have ld224 := X0.caload hx (j := (0 : Int32)) (v := (.int c0)) (by rw [e0]; exact Ar224.1) (State.isArrayOf_alike hZ.alike Ar224.2.1) Ar224.2.2 hin224 hat224 (g := (mkF m 12 (own_loc6 a0 a2) [.int 0, (.ref a0)])) rfl rfl (hb hby d8_12)
  have cp226 : ∀ target, own_S p e below s₁ (mkF m 20 (own_loc7 a0 a2 c0) [.int 255, (.int c0)]) target → own_S p e below s₁ (mkF m 0 #[.val (.ref a0), .val (.int 0), .val (.ref a2), .val (.int 0), .val (.int 2), .unset, .unset] []) target := by
    intro target kt
    show own_S p e below s₁ (mkF m 0 #[.val (.ref a0), .val (.int 0), .val (.ref a2), .val (.int 0), .val (.int 2), .unset, .unset] []) _
    refine XS.iconst X0.here hx rfl (hb hby d8_0) ?_
    show own_S p e below s₁ (mkF m 1 #[.val (.ref a0), .val (.int 0), .val (.ref a2), .val (.int 0), .val (.int 2), .unset, .unset] [.int 0]) _
    refine XS.istore X0.here hx rfl (hb hby d8_1) rfl (l' := (own_loc6 a0 a2)) rfl ?_
    show own_S p e below s₁ (mkF m 3 (own_loc6 a0 a2) []) _
    refine XS.iload X0.here hx rfl (hb hby d8_3) rfl ?_
    show own_S p e below s₁ (mkF m 5 (own_loc6 a0 a2) [.int 0]) _
    refine XS.iload X0.here hx rfl (hb hby d8_5) rfl ?_
    show own_S p e below s₁ (mkF m 7 (own_loc6 a0 a2) [.int 2, .int 0]) _
    refine XS.icmpNo X0.here hx rfl (hb hby d8_7) rfl (tlt (by decide : (0 : Int32) < (2 : Int32))).2.1 ?_
    show own_S p e below s₁ (mkF m 10 (own_loc6 a0 a2) []) _
    refine XS.aloadN X0.here hx rfl (hb hby d8_10) rfl rfl ?_
    show own_S p e below s₁ (mkF m 11 (own_loc6 a0 a2) [(.ref a0)]) _
    refine XS.iloadN X0.here hx rfl (hb hby d8_11) rfl ?_
    show own_S p e below s₁ (mkF m 12 (own_loc6 a0 a2) [.int 0, (.ref a0)]) _
    refine ld224 _ ?_
    show own_S p e below s₁ (mkF m 13 (own_loc6 a0 a2) [(.int c0)]) _
    refine XS.istore X0.here hx rfl (hb hby d8_13) rfl (l' := (own_loc7 a0 a2 c0)) rfl ?_
    show own_S p e below s₁ (mkF m 15 (own_loc7 a0 a2 c0) []) _
    refine XS.iload X0.here hx rfl (hb hby d8_15) rfl ?_
    show own_S p e below s₁ (mkF m 17 (own_loc7 a0 a2 c0) [(.int c0)]) _
    refine XS.sipush X0.here hx rfl (hb hby d8_17) ?_
    exact kt
  by_cases hc225 : (255 : Int32) < c0
  · obtain ⟨fs, hr, hrun, hended, hW, hsame⟩ := X0.leave (v := some (.int (0 : Int32))) (fun h => by rw [Bd.returns] at h; cases h)
    refine ⟨_, _, pre0 _ ?_, hrun, hended, _, _, rfl, ?_, ⟨_, rfl⟩, hW, hsame.mono (by decide) (by decide)⟩
    · show own_S p e below s₁ (mkF m 0 #[.val (.ref a0), .val (.int 0), .val (.ref a2), .val (.int 0), .val (.int 2), .unset, .unset] []) _
      refine cp226 _ ?_
      show own_S p e below s₁ (mkF m 20 (own_loc7 a0 a2 c0) [.int 255, (.int c0)]) _
      refine XS.icmpNo X0.here hx rfl (hb hby d8_20) rfl (tlt hc225).2.2.2 ?_
      show own_S p e below s₁ (mkF m 23 (own_loc7 a0 a2 c0) []) _
      refine XS.iload X0.here hx rfl (hb hby d8_23) rfl ?_
      show own_S p e below s₁ (mkF m 25 (own_loc7 a0 a2 c0) [.int 0]) _
      exact retI X0 hx Bd.returns (hb hby d8_25) hr
    · show Q8_s2 Z a0 a2 kc c0 c1 kb h0 n0 _ s₁.heap _
      rw [e0]
      exact Or.inl ⟨rfl, N0, (Keep.refl h0 [a2]), hc225⟩
  · obtain ⟨cl227, Ar227, q227, S227, M227, H227, G227⟩ := id V_a2
    have hin227 : ¬ ((0 : Int32) < 0 ∨ cl227.slots.size ≤ ((0 : Int32)).toNatClampNeg) := inb_of S227 ⟨(by decide : ¬ (0 : Int32) < 0), (by decide : (0 : Int32) < (2 : Int32))⟩
    obtain ⟨T227, h227, X227, e227, W227, st227⟩ := stB X0 hx hZ e0 Ar227 (j := (0 : Int32)) hin227 (g := (mkF m 31 (own_loc7 a0 a2 c0) [(.int (c0.toInt8.toInt32)), .int 0, (.ref a2)])) rfl rfl (hb hby d8_31)
    have V227 : Arv Z h227 a2 kb .byte (2 : Int32) [(.int (nar .byte (c0.toInt8.toInt32))), (.int (0 : Int32))] (.int (0 : Int32)) := Arv.set Ar227 q227 S227 M227 H227 G227 (fits_nar_byte _) W227 0 rfl (Nat.le_of_ble_eq_true rfl)
    have x228 := V_a0.other W227 ne_a0_a2
    have sz229 : n0 ≤ h227.size := Nat.le_trans Z0 (Keep.of_wr W227).1
    have kp230 : Keep h0 h227 [a2] := (Keep.refl h0 [a2]).wr W227 (Or.inl (List.mem_of_getElem? (i := 0) rfl))
    have N227 := Fr.snoc X227 N0 ge_a2
    obtain ⟨cl231, Ar231, q231, S231, M231, H231, G231⟩ := id x228
    have hin231 : ¬ ((1 : Int32) < 0 ∨ cl231.slots.size ≤ ((1 : Int32)).toNatClampNeg) := inb_of S231 ⟨(by decide : ¬ (1 : Int32) < 0), (by decide : (1 : Int32) < (2 : Int32))⟩
    have hat231 : cl231.slots[((1 : Int32)).toNatClampNeg]? = some (.int c1) := Has.at H231 hin231 rfl
    have ld231 := X227.caload hx (j := (1 : Int32)) (v := (.int c1)) (by rw [e227]; exact Ar231.1) (State.isArrayOf_alike hZ.alike Ar231.2.1) Ar231.2.2 hin231 hat231 (g := (mkF m 12 (own_loc10 a0 a2 c0) [.int 1, (.ref a0)])) rfl rfl (hb hby d8_12)
    have cp233 : ∀ target, own_S p e below T227 (mkF m 20 (own_loc11 a0 a2 c1) [.int 255, (.int c1)]) target → own_S p e below s₁ (mkF m 0 #[.val (.ref a0), .val (.int 0), .val (.ref a2), .val (.int 0), .val (.int 2), .unset, .unset] []) target := by
      intro target kt
      show own_S p e below s₁ (mkF m 0 #[.val (.ref a0), .val (.int 0), .val (.ref a2), .val (.int 0), .val (.int 2), .unset, .unset] []) _
      refine cp226 _ ?_
      show own_S p e below s₁ (mkF m 20 (own_loc7 a0 a2 c0) [.int 255, (.int c0)]) _
      refine XS.icmpYes X0.here hx rfl (pc0 := 20) (pc' := 26) rfl (hb hby d8_20) rfl (flt hc225).2.2.2 (by decide) (by decide) ?_
      show own_S p e below s₁ (mkF m 26 (own_loc7 a0 a2 c0) []) _
      refine XS.aloadN X0.here hx rfl (hb hby d8_26) rfl rfl ?_
      show own_S p e below s₁ (mkF m 27 (own_loc7 a0 a2 c0) [(.ref a2)]) _
      refine XS.iloadN X0.here hx rfl (hb hby d8_27) rfl ?_
      show own_S p e below s₁ (mkF m 28 (own_loc7 a0 a2 c0) [.int 0, (.ref a2)]) _
      refine XS.iload X0.here hx rfl (hb hby d8_28) rfl ?_
      show own_S p e below s₁ (mkF m 30 (own_loc7 a0 a2 c0) [(.int c0), .int 0, (.ref a2)]) _
      refine XS.i2b X0.here hx rfl (hb hby d8_30) rfl ?_
      show own_S p e below s₁ (mkF m 31 (own_loc7 a0 a2 c0) [(.int (c0.toInt8.toInt32)), .int 0, (.ref a2)]) _
      refine st227 _ ?_
      show own_S p e below T227 (mkF m 32 (own_loc7 a0 a2 c0) []) _
      refine XS.iinc X227.here hx rfl (hb hby d8_32) rfl (l' := (own_loc8 a0 a2 c0)) rfl ?_
      show own_S p e below T227 (mkF m 35 (own_loc8 a0 a2 c0) []) _
      refine XS.iinc X227.here hx rfl (hb hby d8_35) rfl (l' := (own_loc9 a0 a2 c0)) rfl ?_
      show own_S p e below T227 (mkF m 38 (own_loc9 a0 a2 c0) []) _
      refine XS.iinc X227.here hx rfl (hb hby d8_38) rfl (l' := (own_loc10 a0 a2 c0)) rfl ?_
      show own_S p e below T227 (mkF m 41 (own_loc10 a0 a2 c0) []) _
      refine XS.goto X227.here hx rfl (pc0 := 41) (pc' := 3) rfl (hb hby d8_41) (by decide) (by decide) ?_
      show own_S p e below T227 (mkF m 3 (own_loc10 a0 a2 c0) []) _
      refine XS.iload X227.here hx rfl (hb hby d8_3) rfl ?_
      show own_S p e below T227 (mkF m 5 (own_loc10 a0 a2 c0) [.int 1]) _
      refine XS.iload X227.here hx rfl (hb hby d8_5) rfl ?_
      show own_S p e below T227 (mkF m 7 (own_loc10 a0 a2 c0) [.int 2, .int 1]) _
      refine XS.icmpNo X227.here hx rfl (hb hby d8_7) rfl (tlt (by decide : (1 : Int32) < (2 : Int32))).2.1 ?_
      show own_S p e below T227 (mkF m 10 (own_loc10 a0 a2 c0) []) _
      refine XS.aloadN X227.here hx rfl (hb hby d8_10) rfl rfl ?_
      show own_S p e below T227 (mkF m 11 (own_loc10 a0 a2 c0) [(.ref a0)]) _
      refine XS.iloadN X227.here hx rfl (hb hby d8_11) rfl ?_
      show own_S p e below T227 (mkF m 12 (own_loc10 a0 a2 c0) [.int 1, (.ref a0)]) _
      refine ld231 _ ?_
      show own_S p e below T227 (mkF m 13 (own_loc10 a0 a2 c0) [(.int c1)]) _
      refine XS.istore X227.here hx rfl (hb hby d8_13) rfl (l' := (own_loc11 a0 a2 c1)) rfl ?_
      show own_S p e below T227 (mkF m 15 (own_loc11 a0 a2 c1) []) _
      refine XS.iload X227.here hx rfl (hb hby d8_15) rfl ?_
      show own_S p e below T227 (mkF m 17 (own_loc11 a0 a2 c1) [(.int c1)]) _
      refine XS.sipush X227.here hx rfl (hb hby d8_17) ?_
      exact kt
    by_cases hc232 : (255 : Int32) < c1
    · obtain ⟨fs, hr, hrun, hended, hW, hsame⟩ := X227.leave (v := some (.int (1 : Int32))) (fun h => by rw [Bd.returns] at h; cases h)
      refine ⟨_, _, pre0 _ ?_, hrun, hended, _, _, rfl, ?_, ⟨_, rfl⟩, hW, hsame.mono (by decide) (by decide)⟩
      · show own_S p e below s₁ (mkF m 0 #[.val (.ref a0), .val (.int 0), .val (.ref a2), .val (.int 0), .val (.int 2), .unset, .unset] []) _
        refine cp233 _ ?_
        show own_S p e below T227 (mkF m 20 (own_loc11 a0 a2 c1) [.int 255, (.int c1)]) _
        refine XS.icmpNo X227.here hx rfl (hb hby d8_20) rfl (tlt hc232).2.2.2 ?_
        show own_S p e below T227 (mkF m 23 (own_loc11 a0 a2 c1) []) _
        refine XS.iload X227.here hx rfl (hb hby d8_23) rfl ?_
        show own_S p e below T227 (mkF m 25 (own_loc11 a0 a2 c1) [.int 1]) _
        exact retI X227 hx Bd.returns (hb hby d8_25) hr
      · show Q8_s2 Z a0 a2 kc c0 c1 kb h0 n0 _ T227.heap _
        rw [e227]
        exact Or.inr (Or.inl ⟨rfl, N227, kp230, hc232⟩)
    · obtain ⟨cl234, Ar234, q234, S234, M234, H234, G234⟩ := id V227
      have hin234 : ¬ ((1 : Int32) < 0 ∨ cl234.slots.size ≤ ((1 : Int32)).toNatClampNeg) := inb_of S234 ⟨(by decide : ¬ (1 : Int32) < 0), (by decide : (1 : Int32) < (2 : Int32))⟩
      obtain ⟨T234, h234, X234, e234, W234, st234⟩ := stB X227 hx hZ e227 Ar234 (j := (1 : Int32)) hin234 (g := (mkF m 31 (own_loc11 a0 a2 c1) [(.int (c1.toInt8.toInt32)), .int 1, (.ref a2)])) rfl rfl (hb hby d8_31)
      have V234 : Arv Z h234 a2 kb .byte (2 : Int32) [(.int (nar .byte (c0.toInt8.toInt32))), (.int (nar .byte (c1.toInt8.toInt32)))] (.int (0 : Int32)) := Arv.set Ar234 q234 S234 M234 H234 G234 (fits_nar_byte _) W234 1 rfl (Nat.le_of_ble_eq_true rfl)
      have x235 := x228.other W234 ne_a0_a2
      have sz236 : n0 ≤ h234.size := Nat.le_trans sz229 (Keep.of_wr W234).1
      have kp237 : Keep h0 h234 [a2] := kp230.wr W234 (Or.inl (List.mem_of_getElem? (i := 0) rfl))
      have N234 := Fr.snoc X234 N227 ge_a2
      obtain ⟨fs, hr, hrun, hended, hW, hsame⟩ := X234.leave (v := some (.int (2 : Int32))) (fun h => by rw [Bd.returns] at h; cases h)
      refine ⟨_, _, pre0 _ ?_, hrun, hended, _, _, rfl, ?_, ⟨_, rfl⟩, hW, hsame.mono (by decide) (by decide)⟩
      · show own_S p e below s₁ (mkF m 0 #[.val (.ref a0), .val (.int 0), .val (.ref a2), .val (.int 0), .val (.int 2), .unset, .unset] []) _
        refine cp233 _ ?_
        show own_S p e below T227 (mkF m 20 (own_loc11 a0 a2 c1) [.int 255, (.int c1)]) _
        refine XS.icmpYes X227.here hx rfl (pc0 := 20) (pc' := 26) rfl (hb hby d8_20) rfl (flt hc232).2.2.2 (by decide) (by decide) ?_
        show own_S p e below T227 (mkF m 26 (own_loc11 a0 a2 c1) []) _
        refine XS.aloadN X227.here hx rfl (hb hby d8_26) rfl rfl ?_
        show own_S p e below T227 (mkF m 27 (own_loc11 a0 a2 c1) [(.ref a2)]) _
        refine XS.iloadN X227.here hx rfl (hb hby d8_27) rfl ?_
        show own_S p e below T227 (mkF m 28 (own_loc11 a0 a2 c1) [.int 1, (.ref a2)]) _
        refine XS.iload X227.here hx rfl (hb hby d8_28) rfl ?_
        show own_S p e below T227 (mkF m 30 (own_loc11 a0 a2 c1) [(.int c1), .int 1, (.ref a2)]) _
        refine XS.i2b X227.here hx rfl (hb hby d8_30) rfl ?_
        show own_S p e below T227 (mkF m 31 (own_loc11 a0 a2 c1) [(.int (c1.toInt8.toInt32)), .int 1, (.ref a2)]) _
        refine st234 _ ?_
        show own_S p e below T234 (mkF m 32 (own_loc11 a0 a2 c1) []) _
        refine XS.iinc X234.here hx rfl (hb hby d8_32) rfl (l' := (own_loc12 a0 a2 c1)) rfl ?_
        show own_S p e below T234 (mkF m 35 (own_loc12 a0 a2 c1) []) _
        refine XS.iinc X234.here hx rfl (hb hby d8_35) rfl (l' := (own_loc13 a0 a2 c1)) rfl ?_
        show own_S p e below T234 (mkF m 38 (own_loc13 a0 a2 c1) []) _
        refine XS.iinc X234.here hx rfl (hb hby d8_38) rfl (l' := (own_loc14 a0 a2 c1)) rfl ?_
        show own_S p e below T234 (mkF m 41 (own_loc14 a0 a2 c1) []) _
        refine XS.goto X234.here hx rfl (pc0 := 41) (pc' := 3) rfl (hb hby d8_41) (by decide) (by decide) ?_
        show own_S p e below T234 (mkF m 3 (own_loc14 a0 a2 c1) []) _
        refine XS.iload X234.here hx rfl (hb hby d8_3) rfl ?_
        show own_S p e below T234 (mkF m 5 (own_loc14 a0 a2 c1) [.int 2]) _
        refine XS.iload X234.here hx rfl (hb hby d8_5) rfl ?_
        show own_S p e below T234 (mkF m 7 (own_loc14 a0 a2 c1) [.int 2, .int 2]) _
        refine XS.icmpYes X234.here hx rfl (pc0 := 7) (pc' := 44) rfl (hb hby d8_7) rfl (flt (by decide : ¬ ((2 : Int32) < (2 : Int32)))).2.1 (by decide) (by decide) ?_
        show own_S p e below T234 (mkF m 44 (own_loc14 a0 a2 c1) []) _
        refine XS.iload X234.here hx rfl (hb hby d8_44) rfl ?_
        show own_S p e below T234 (mkF m 46 (own_loc14 a0 a2 c1) [.int 2]) _
        exact retI X234 hx Bd.returns (hb hby d8_46) hr
      · show Q8_s2 Z a0 a2 kc c0 c1 kb h0 n0 _ T234.heap _
        rw [e234]
        exact Or.inr (Or.inr (⟨rfl, N234, kp237, V234, hc225, hc232⟩))
theorem ef_7_v02 (m : MethodId) (a0 : Addr) : entryFrame m #[(.ref a0), (.int (0 : Int32)), (.int (2 : Int32))] 6 = mkF m 0 #[.val (.ref a0), .val (.int 0), .val (.int 2), .unset, .unset, .unset] [] := by first | (simp [entryFrame, mkF, argsToLocals, Value.category]; done) | rfl
def Q7_s2 (Z : State) (a0 : Addr) (kc : ClassId) (c0 : Int32) (c1 : Int32) (h0 : Heap) (n0 : Nat) (v : Option Value) (h : Heap) (L : List Loc) : Prop := ∃ (r : Addr) (kb : ClassId) (nb : Int32) (vs : List Value), v = some (.ref r) ∧ Fr n0 L ∧ Keep h0 h [] ∧ n0 ≤ r ∧ h0.size ≤ r ∧ Arv Z h r kb .byte nb vs (.int (0 : Int32)) ∧ ((nb = (2 : Int32) ∧ vs = [(.int (nar .byte (c0.toInt8.toInt32))), (.int (nar .byte (c1.toInt8.toInt32)))] ∧ ¬ ((255 : Int32) < c0) ∧ ¬ ((255 : Int32) < c1)) ∨ (nb = (4 : Int32) ∧ vs = [(.int (nar .byte ((c0 >>> ((0 : Int32) &&& 31)).toInt8.toInt32))), (.int (nar .byte ((c0 >>> ((8 : Int32) &&& 31)).toInt8.toInt32))), (.int (nar .byte ((c1 >>> ((0 : Int32) &&& 31)).toInt8.toInt32))), (.int (nar .byte ((c1 >>> ((8 : Int32) &&& 31)).toInt8.toInt32)))]))
set_option maxRecDepth 65536 in
set_option maxHeartbeats 40000000 in
theorem rm7_s2 (l : Launch) (Z : State) (ag : Array Value) (hw : ∀ d ∈ tables_1, d.before ag Z = true) (ws : List Jvm.Cond) (a0 : Addr) (kc : ClassId) (c0 : Int32) (c1 : Int32) (h0 : Heap) (n0 : Nat) (Z0 : n0 ≤ h0.size) (V_a0 : Arv Z h0 a0 kc .char (2 : Int32) [(.int c0), (.int c1)] (.int (0 : Int32))) (hr_c0 : 0 ≤ c0.toInt ∧ c0.toInt < 65536) (hr_c1 : 0 ≤ c1.toInt ∧ c1.toInt < 65536) (O_ : Old Z n0 h0) (S_ad : Sta Z Z.heap "java/lang/StringUTF16" "$assertionsDisabled" "Z" (.int (1 : Int32))) (S_hi : Sta Z Z.heap "java/lang/StringUTF16" "HI_BYTE_SHIFT" "I" (.int (0 : Int32))) (S_lo : Sta Z Z.heap "java/lang/StringUTF16" "LO_BYTE_SHIFT" "I" (.int (8 : Int32))) :
    MetFree l (⟨"java/lang/StringUTF16", "compress", "([CII)[B"⟩ : MethodName) (head1 (Jvm.Cond.code (⟨"java/lang/StringUTF16", "compress", "([CII)[B"⟩ : MethodName) jdk_52_method_16_code 6 (some (.array .byte)) :: ws) ({ frames := 3, cells := 2, slots := 10, locals := 40 } : Room)) (fun a U => a = #[(.ref a0), (.int (0 : Int32)), (.int (2 : Int32))] ∧ Z.Warmed39 U.vm ∧ U.heap = h0) (fun _ _ _ _ _ => True) (fun _ U o U' => ∃ v L, o = .returned v ∧ Q7_s2 Z a0 kc c0 c1 h0 n0 v U'.heap L ∧ FrameEnd U o U' L ({ frames := 3, cells := 2, slots := 10, locals := 40 } : Room).cells ({ frames := 3, cells := 2, slots := 10, locals := 40 } : Room).slots) := by
  refine MetFree.of_bodySF (plainFor_of_name pn_5) hisR ?_
  intro p e s m args below meth c s₁ Bd hml0 hP hK
  obtain ⟨rfl, hZ, hh⟩ := hP
  have hx := Bd.exec
  have hby := Bd.bytes
  have hml : c.maxLocals = 6 := hml0
  have hown : s.vm.findClass "java/lang/StringUTF16" = some m.cls := findClass_of_methodNamed Bd.named
  have hnm := (name_of_methodNamed Bd.named Bd.method).1
  have X0 : Stand p l e ({ frames := 3, cells := 2, slots := 10, locals := 40 } : Room) s m #[(.ref a0), (.int (0 : Int32)), (.int (2 : Int32))] below meth c s₁ [] 0 0 := Stand.of_body Bd
  have e0 : s₁.heap = h0 := by rw [← hh, Bd.state]; rfl
  have N0 := Fr.nil n0
  have pre0 : ∀ t, Steps p.tables e below (s₁.setTop (mkF m 0 #[.val (.ref a0), .val (.int 0), .val (.int 2), .unset, .unset, .unset] [])) t → Steps p.tables e below (s₁.setTop (entryFrame m #[(.ref a0), (.int (0 : Int32)), (.int (2 : Int32))] 6)) t := fun t k => castTop (ef_7_v02 m a0) k
  obtain ⟨T238, h238, k238, X238, e238, E238, A238, st238⟩ := newP X0 hx hZ (hw _ (List.mem_of_getElem? (i := 29) rfl)) e0 (g := (mkF m 1 #[.val (.ref a0), .val (.int 0), .val (.int 2), .unset, .unset, .unset] [.int 2])) rfl (hb hby d7_1) rfl (by decide) (cap := 2) (by decide) (by decide) (by decide) (by decide)
  obtain ⟨b238, g238⟩ : ∃ z, z = h0.size := ⟨_, rfl⟩
  have ne239 : a0 ≠ b238 := Nat.ne_of_lt (Nat.lt_of_lt_of_le V_a0.lt (Nat.le_of_eq g238.symm))
  have ge_b238 : n0 ≤ b238 := Nat.le_trans Z0 (Nat.le_of_eq g238.symm)
  have gs_b238 : h0.size ≤ b238 := Nat.le_trans (Keep.refl h0 []).1 (Nat.le_of_eq g238.symm)
  rw [← g238] at A238 st238
  have x240 := V_a0.ext E238
  have x241 := O_.ext E238
  have sz242 : n0 ≤ h238.size := Nat.le_trans Z0 E238.1
  have kp243 : Keep h0 h238 [] := (Keep.refl h0 []).ext E238
  have V238 : Arv Z h238 b238 k238 .byte (2 : Int32) [(.int (0 : Int32)), (.int (0 : Int32))] (.int (0 : Int32)) := (Arv.new A238 (by decide)).pad (pad_rep [] (.int (0 : Int32)) 2)
  obtain ⟨_, _, ⟨T244, L244, k244, n244⟩, -, X244, ⟨Lc244, hQ244, l244, y244, z244⟩, st244⟩ := Jvm.LawKit.callS X238 hx (y := (⟨"java/lang/StringUTF16", "compress", "([CI[BII)I"⟩ : MethodName)) hown (mvT hZ (hw _ (List.mem_of_getElem? (i := 30) rfl))) (mvT hZ (hw _ (List.mem_of_getElem? (i := 31) rfl))) (mvT hZ (hw _ (List.mem_of_getElem? (i := 27) rfl))) (mvT hZ (hw _ (List.mem_of_getElem? (i := 32) rfl))) (by decide) (backOf (W := 0) (rm8_s2 l Z ag hw [] a0 b238 kc c0 c1 k238 h238 n0 sz242 x240 hr_c0 hr_c1 V238 ge_b238 ne239) hZ (hw _ (List.mem_of_getElem? (i := 32) rfl)) (hw _ (List.mem_of_getElem? (i := 27) rfl)) (by decide) (by decide)) (g := (mkF m 9 #[.val (.ref a0), .val (.int 0), .val (.int 2), .val (.ref b238), .unset, .unset] [.int 2, .int 0, (.ref b238), .int 0, (.ref a0)])) rfl (by rw [hml]; rfl) (argsL := [(.ref a0), (.int (0 : Int32)), (.ref b238), (.int (0 : Int32)), (.int (2 : Int32))]) (rest := []) (lenOf pd_22 rfl) rfl (by show 2 * 0 + _ ≤ _; exact Nat.le_of_eq rfl) (hb hby d7_9) (fun _ _ => ⟨rfl, e238, (by decide : 1 + 0 ≤ _), (by decide : 2 + 0 ≤ _)⟩)
  dsimp only [Pt.U, Pt.locs, Pt.cells, Pt.slots] at X244 l244 y244 z244 st244 hQ244
  subst l244 y244 z244
  rcases hQ244 with q244 | q244 | q244
  · obtain ⟨rfl, N244q, K244, hbig244⟩ := q244
    have N244 := Fr.app N0 N244q
    have x245 := x240.keep K244 (ninS ne239 nin0)
    have x246 := x241.keep K244 (allS ge_b238 all0)
    have sz247 : n0 ≤ T244.heap.size := Nat.le_trans sz242 K244.1
    have kp248 : Keep h0 T244.heap [] := kp243.trans K244 (allS (Or.inr gs_b238) all0)
    have cp249 : ∀ target, own_S p e below T244 (mkF m 23 #[.val (.ref a0), .val (.int 0), .val (.int 2), .val (.ref b238), .val (.int 0), .unset] [.int 2, .int 0, (.ref a0)]) target → own_S p e below s₁ (mkF m 0 #[.val (.ref a0), .val (.int 0), .val (.int 2), .unset, .unset, .unset] []) target := by
      intro target kt
      show own_S p e below s₁ (mkF m 0 #[.val (.ref a0), .val (.int 0), .val (.int 2), .unset, .unset, .unset] []) _
      refine XS.iloadN X0.here hx rfl (hb hby d7_0) rfl ?_
      show own_S p e below s₁ (mkF m 1 #[.val (.ref a0), .val (.int 0), .val (.int 2), .unset, .unset, .unset] [.int 2]) _
      refine st238 _ ?_
      show own_S p e below T238 (mkF m 3 #[.val (.ref a0), .val (.int 0), .val (.int 2), .unset, .unset, .unset] [(.ref b238)]) _
      refine XS.astoreN X238.here hx rfl (hb hby d7_3) rfl rfl (l' := #[.val (.ref a0), .val (.int 0), .val (.int 2), .val (.ref b238), .unset, .unset]) rfl ?_
      show own_S p e below T238 (mkF m 4 #[.val (.ref a0), .val (.int 0), .val (.int 2), .val (.ref b238), .unset, .unset] []) _
      refine XS.aloadN X238.here hx rfl (hb hby d7_4) rfl rfl ?_
      show own_S p e below T238 (mkF m 5 #[.val (.ref a0), .val (.int 0), .val (.int 2), .val (.ref b238), .unset, .unset] [(.ref a0)]) _
      refine XS.iloadN X238.here hx rfl (hb hby d7_5) rfl ?_
      show own_S p e below T238 (mkF m 6 #[.val (.ref a0), .val (.int 0), .val (.int 2), .val (.ref b238), .unset, .unset] [.int 0, (.ref a0)]) _
      refine XS.aloadN X238.here hx rfl (hb hby d7_6) rfl rfl ?_
      show own_S p e below T238 (mkF m 7 #[.val (.ref a0), .val (.int 0), .val (.int 2), .val (.ref b238), .unset, .unset] [(.ref b238), .int 0, (.ref a0)]) _
      refine XS.iconst X238.here hx rfl (hb hby d7_7) ?_
      show own_S p e below T238 (mkF m 8 #[.val (.ref a0), .val (.int 0), .val (.int 2), .val (.ref b238), .unset, .unset] [.int 0, (.ref b238), .int 0, (.ref a0)]) _
      refine XS.iloadN X238.here hx rfl (hb hby d7_8) rfl ?_
      show own_S p e below T238 (mkF m 9 #[.val (.ref a0), .val (.int 0), .val (.int 2), .val (.ref b238), .unset, .unset] [.int 2, .int 0, (.ref b238), .int 0, (.ref a0)]) _
      refine st244 _ ?_
      show own_S p e below T244 (mkF m 12 #[.val (.ref a0), .val (.int 0), .val (.int 2), .val (.ref b238), .unset, .unset] [.int 0]) _
      refine XS.istore X244.here hx rfl (hb hby d7_12) rfl (l' := #[.val (.ref a0), .val (.int 0), .val (.int 2), .val (.ref b238), .val (.int 0), .unset]) rfl ?_
      show own_S p e below T244 (mkF m 14 #[.val (.ref a0), .val (.int 0), .val (.int 2), .val (.ref b238), .val (.int 0), .unset] []) _
      refine XS.iload X244.here hx rfl (hb hby d7_14) rfl ?_
      show own_S p e below T244 (mkF m 16 #[.val (.ref a0), .val (.int 0), .val (.int 2), .val (.ref b238), .val (.int 0), .unset] [.int 0]) _
      refine XS.iloadN X244.here hx rfl (hb hby d7_16) rfl ?_
      show own_S p e below T244 (mkF m 17 #[.val (.ref a0), .val (.int 0), .val (.int 2), .val (.ref b238), .val (.int 0), .unset] [.int 2, .int 0]) _
      refine XS.icmpNo X244.here hx rfl (hb hby d7_17) rfl (feq (by decide : ¬ ((0 : Int32) = (2 : Int32)))).1 ?_
      show own_S p e below T244 (mkF m 20 #[.val (.ref a0), .val (.int 0), .val (.int 2), .val (.ref b238), .val (.int 0), .unset] []) _
      refine XS.aloadN X244.here hx rfl (hb hby d7_20) rfl rfl ?_
      show own_S p e below T244 (mkF m 21 #[.val (.ref a0), .val (.int 0), .val (.int 2), .val (.ref b238), .val (.int 0), .unset] [(.ref a0)]) _
      refine XS.iloadN X244.here hx rfl (hb hby d7_21) rfl ?_
      show own_S p e below T244 (mkF m 22 #[.val (.ref a0), .val (.int 0), .val (.int 2), .val (.ref b238), .val (.int 0), .unset] [.int 0, (.ref a0)]) _
      refine XS.iloadN X244.here hx rfl (hb hby d7_22) rfl ?_
      exact kt
    obtain ⟨_, _, ⟨T250, L250, k250, n250⟩, -, X250, ⟨Lc250, hQ250, l250, y250, z250⟩, st250⟩ := Jvm.LawKit.callS X244 hx (y := (⟨"java/lang/StringUTF16", "toBytes", "([CII)[B"⟩ : MethodName)) hown (mvT hZ (hw _ (List.mem_of_getElem? (i := 57) rfl))) (mvT hZ (hw _ (List.mem_of_getElem? (i := 58) rfl))) (mvT hZ (hw _ (List.mem_of_getElem? (i := 27) rfl))) (mvT hZ (hw _ (List.mem_of_getElem? (i := 59) rfl))) (by decide) (backOf (W := 0) (rm13_s2 l Z ag hw [] a0 kc c0 c1 T244.heap n0 sz247 x245 hr_c0 hr_c1 x246 S_ad S_hi S_lo) hZ (hw _ (List.mem_of_getElem? (i := 59) rfl)) (hw _ (List.mem_of_getElem? (i := 27) rfl)) (by decide) (by decide)) (g := (mkF m 23 #[.val (.ref a0), .val (.int 0), .val (.int 2), .val (.ref b238), .val (.int 0), .unset] [.int 2, .int 0, (.ref a0)])) rfl (by rw [hml]; rfl) (argsL := [(.ref a0), (.int (0 : Int32)), (.int (2 : Int32))]) (rest := []) (lenOf pd_20 rfl) rfl (by show 2 * 0 + _ ≤ _; exact Nat.le_of_eq rfl) (hb hby d7_23) (fun _ _ => ⟨rfl, rfl, (by decide : 1 + 1 ≤ _), (by decide : 2 + 8 ≤ _)⟩)
    dsimp only [Pt.U, Pt.locs, Pt.cells, Pt.slots] at X250 l250 y250 z250 st250 hQ250
    subst l250 y250 z250
    obtain ⟨r250, kr250, rfl, N250q, K250, ge_r250, gq_r250, Vr250⟩ := hQ250
    have N250 := Fr.app N244 N250q
    have ne251 : a0 ≠ r250 := Nat.ne_of_lt (Nat.lt_of_lt_of_le x245.lt gq_r250)
    have gs_r250 : h0.size ≤ r250 := Nat.le_trans kp248.1 gq_r250
    have x252 := x245.keep K250 nin0
    have x253 := x246.keep K250 all0
    have sz254 : n0 ≤ T250.heap.size := Nat.le_trans sz247 K250.1
    have kp255 : Keep h0 T250.heap [] := kp248.trans K250 all0
    obtain ⟨_, _, ⟨T256, L256, k256, n256⟩, -, X256, ⟨Lc256, hQ256, l256, y256, z256⟩, st256⟩ := Jvm.LawKit.callS X250 hx (y := (⟨"java/lang/StringUTF16", "getChar", "([BI)C"⟩ : MethodName)) hown (mvT hZ (hw _ (List.mem_of_getElem? (i := 73) rfl))) (mvT hZ (hw _ (List.mem_of_getElem? (i := 74) rfl))) (mvT hZ (hw _ (List.mem_of_getElem? (i := 27) rfl))) (mvT hZ (hw _ (List.mem_of_getElem? (i := 75) rfl))) (by decide) (backOf (W := 0) (rm17 l Z ag hw [] r250 (0 : Int32) kr250 (4 : Int32) [(.int (nar .byte ((c0 >>> ((0 : Int32) &&& 31)).toInt8.toInt32))), (.int (nar .byte ((c0 >>> ((8 : Int32) &&& 31)).toInt8.toInt32))), (.int (nar .byte ((c1 >>> ((0 : Int32) &&& 31)).toInt8.toInt32))), (.int (nar .byte ((c1 >>> ((8 : Int32) &&& 31)).toInt8.toInt32)))] (nar .byte ((c0 >>> ((0 : Int32) &&& 31)).toInt8.toInt32)) (nar .byte ((c0 >>> ((8 : Int32) &&& 31)).toInt8.toInt32)) T250.heap n0 sz254 Vr250 (by decide) (by decide) rfl rfl x253 S_ad S_hi S_lo) hZ (hw _ (List.mem_of_getElem? (i := 75) rfl)) (hw _ (List.mem_of_getElem? (i := 27) rfl)) (by decide) (by decide)) (g := (mkF m 32 #[.val (.ref a0), .val (.int 0), .val (.int 2), .val (.ref b238), .val (.int 0), .val (.ref r250)] [.int 0, (.ref r250)])) rfl (by rw [hml]; rfl) (argsL := [(.ref r250), (.int (0 : Int32))]) (rest := []) (lenOf pd_17 rfl) rfl (by show 2 * 0 + _ ≤ _; exact Nat.le_of_eq rfl) (hb hby d7_32) (fun _ _ => ⟨rfl, rfl, (by decide : 2 + 0 ≤ _), (by decide : 10 + 0 ≤ _)⟩)
    dsimp only [Pt.U, Pt.locs, Pt.cells, Pt.slots] at X256 l256 y256 z256 st256 hQ256
    subst l256 y256 z256
    obtain ⟨rfl, N256q, e256⟩ := hQ256
    have N256 := Fr.app N250 N256q
    obtain ⟨fs, hr, hrun, hended, hW, hsame⟩ := X256.leave (v := some (.ref r250)) (fun h => by rw [Bd.returns] at h; cases h)
    refine ⟨_, _, pre0 _ ?_, hrun, hended, _, _, rfl, ?_, ⟨_, rfl⟩, hW, hsame.mono (by decide) (by decide)⟩
    · show own_S p e below s₁ (mkF m 0 #[.val (.ref a0), .val (.int 0), .val (.int 2), .unset, .unset, .unset] []) _
      refine cp249 _ ?_
      show own_S p e below T244 (mkF m 23 #[.val (.ref a0), .val (.int 0), .val (.int 2), .val (.ref b238), .val (.int 0), .unset] [.int 2, .int 0, (.ref a0)]) _
      refine st250 _ ?_
      show own_S p e below T250 (mkF m 26 #[.val (.ref a0), .val (.int 0), .val (.int 2), .val (.ref b238), .val (.int 0), .unset] [(.ref r250)]) _
      refine XS.astore X250.here hx rfl (hb hby d7_26) rfl rfl (l' := #[.val (.ref a0), .val (.int 0), .val (.int 2), .val (.ref b238), .val (.int 0), .val (.ref r250)]) rfl ?_
      show own_S p e below T250 (mkF m 28 #[.val (.ref a0), .val (.int 0), .val (.int 2), .val (.ref b238), .val (.int 0), .val (.ref r250)] []) _
      refine XS.aload X250.here hx rfl (hb hby d7_28) rfl rfl ?_
      show own_S p e below T250 (mkF m 30 #[.val (.ref a0), .val (.int 0), .val (.int 2), .val (.ref b238), .val (.int 0), .val (.ref r250)] [(.ref r250)]) _
      refine XS.iload X250.here hx rfl (hb hby d7_30) rfl ?_
      show own_S p e below T250 (mkF m 32 #[.val (.ref a0), .val (.int 0), .val (.int 2), .val (.ref b238), .val (.int 0), .val (.ref r250)] [.int 0, (.ref r250)]) _
      refine st256 _ ?_
      show own_S p e below T256 (mkF m 35 #[.val (.ref a0), .val (.int 0), .val (.int 2), .val (.ref b238), .val (.int 0), .val (.ref r250)] [(.int (own_gc (nar .byte ((c0 >>> ((0 : Int32) &&& 31)).toInt8.toInt32)) (nar .byte ((c0 >>> ((8 : Int32) &&& 31)).toInt8.toInt32))))]) _
      refine XS.sipush X256.here hx rfl (hb hby d7_35) ?_
      show own_S p e below T256 (mkF m 38 #[.val (.ref a0), .val (.int 0), .val (.int 2), .val (.ref b238), .val (.int 0), .val (.ref r250)] [.int 255, (.int (own_gc (nar .byte ((c0 >>> ((0 : Int32) &&& 31)).toInt8.toInt32)) (nar .byte ((c0 >>> ((8 : Int32) &&& 31)).toInt8.toInt32))))]) _
      refine XS.icmpYes X256.here hx rfl (pc0 := 38) (pc' := 54) rfl (hb hby d7_38) rfl (tlt (show (255 : Int32) < (own_gc (nar .byte ((c0 >>> ((0 : Int32) &&& 31)).toInt8.toInt32)) (nar .byte ((c0 >>> ((8 : Int32) &&& 31)).toInt8.toInt32))) from (by rw [own_gc_back c0 hr_c0]; exact hbig244))).2.2.1 (by decide) (by decide) ?_
      show own_S p e below T256 (mkF m 54 #[.val (.ref a0), .val (.int 0), .val (.int 2), .val (.ref b238), .val (.int 0), .val (.ref r250)] []) _
      refine XS.aload X256.here hx rfl (hb hby d7_54) rfl rfl ?_
      show own_S p e below T256 (mkF m 56 #[.val (.ref a0), .val (.int 0), .val (.int 2), .val (.ref b238), .val (.int 0), .val (.ref r250)] [(.ref r250)]) _
      exact Jvm.RoadKit.retOut X256 hx Bd.returns rfl (Or.inr (Or.inr (Or.inr (Or.inr ⟨rfl, rfl, rfl⟩)))) (hb hby d7_56) hr
    · show Q7_s2 Z a0 kc c0 c1 h0 n0 _ T256.heap _
      rw [e256]
      exact ⟨r250, kr250, (4 : Int32), _, rfl, N256, kp255, ge_r250, gs_r250, Vr250, Or.inr ⟨rfl, rfl⟩⟩
  · obtain ⟨rfl, N244q, K244, hbig244⟩ := q244
    have N244 := Fr.app N0 N244q
    have x257 := x240.keep K244 (ninS ne239 nin0)
    have x258 := x241.keep K244 (allS ge_b238 all0)
    have sz259 : n0 ≤ T244.heap.size := Nat.le_trans sz242 K244.1
    have kp260 : Keep h0 T244.heap [] := kp243.trans K244 (allS (Or.inr gs_b238) all0)
    have cp261 : ∀ target, own_S p e below T244 (mkF m 23 #[.val (.ref a0), .val (.int 0), .val (.int 2), .val (.ref b238), .val (.int 1), .unset] [.int 2, .int 0, (.ref a0)]) target → own_S p e below s₁ (mkF m 0 #[.val (.ref a0), .val (.int 0), .val (.int 2), .unset, .unset, .unset] []) target := by
      intro target kt
      show own_S p e below s₁ (mkF m 0 #[.val (.ref a0), .val (.int 0), .val (.int 2), .unset, .unset, .unset] []) _
      refine XS.iloadN X0.here hx rfl (hb hby d7_0) rfl ?_
      show own_S p e below s₁ (mkF m 1 #[.val (.ref a0), .val (.int 0), .val (.int 2), .unset, .unset, .unset] [.int 2]) _
      refine st238 _ ?_
      show own_S p e below T238 (mkF m 3 #[.val (.ref a0), .val (.int 0), .val (.int 2), .unset, .unset, .unset] [(.ref b238)]) _
      refine XS.astoreN X238.here hx rfl (hb hby d7_3) rfl rfl (l' := #[.val (.ref a0), .val (.int 0), .val (.int 2), .val (.ref b238), .unset, .unset]) rfl ?_
      show own_S p e below T238 (mkF m 4 #[.val (.ref a0), .val (.int 0), .val (.int 2), .val (.ref b238), .unset, .unset] []) _
      refine XS.aloadN X238.here hx rfl (hb hby d7_4) rfl rfl ?_
      show own_S p e below T238 (mkF m 5 #[.val (.ref a0), .val (.int 0), .val (.int 2), .val (.ref b238), .unset, .unset] [(.ref a0)]) _
      refine XS.iloadN X238.here hx rfl (hb hby d7_5) rfl ?_
      show own_S p e below T238 (mkF m 6 #[.val (.ref a0), .val (.int 0), .val (.int 2), .val (.ref b238), .unset, .unset] [.int 0, (.ref a0)]) _
      refine XS.aloadN X238.here hx rfl (hb hby d7_6) rfl rfl ?_
      show own_S p e below T238 (mkF m 7 #[.val (.ref a0), .val (.int 0), .val (.int 2), .val (.ref b238), .unset, .unset] [(.ref b238), .int 0, (.ref a0)]) _
      refine XS.iconst X238.here hx rfl (hb hby d7_7) ?_
      show own_S p e below T238 (mkF m 8 #[.val (.ref a0), .val (.int 0), .val (.int 2), .val (.ref b238), .unset, .unset] [.int 0, (.ref b238), .int 0, (.ref a0)]) _
      refine XS.iloadN X238.here hx rfl (hb hby d7_8) rfl ?_
      show own_S p e below T238 (mkF m 9 #[.val (.ref a0), .val (.int 0), .val (.int 2), .val (.ref b238), .unset, .unset] [.int 2, .int 0, (.ref b238), .int 0, (.ref a0)]) _
      refine st244 _ ?_
      show own_S p e below T244 (mkF m 12 #[.val (.ref a0), .val (.int 0), .val (.int 2), .val (.ref b238), .unset, .unset] [.int 1]) _
      refine XS.istore X244.here hx rfl (hb hby d7_12) rfl (l' := #[.val (.ref a0), .val (.int 0), .val (.int 2), .val (.ref b238), .val (.int 1), .unset]) rfl ?_
      show own_S p e below T244 (mkF m 14 #[.val (.ref a0), .val (.int 0), .val (.int 2), .val (.ref b238), .val (.int 1), .unset] []) _
      refine XS.iload X244.here hx rfl (hb hby d7_14) rfl ?_
      show own_S p e below T244 (mkF m 16 #[.val (.ref a0), .val (.int 0), .val (.int 2), .val (.ref b238), .val (.int 1), .unset] [.int 1]) _
      refine XS.iloadN X244.here hx rfl (hb hby d7_16) rfl ?_
      show own_S p e below T244 (mkF m 17 #[.val (.ref a0), .val (.int 0), .val (.int 2), .val (.ref b238), .val (.int 1), .unset] [.int 2, .int 1]) _
      refine XS.icmpNo X244.here hx rfl (hb hby d7_17) rfl (feq (by decide : ¬ ((1 : Int32) = (2 : Int32)))).1 ?_
      show own_S p e below T244 (mkF m 20 #[.val (.ref a0), .val (.int 0), .val (.int 2), .val (.ref b238), .val (.int 1), .unset] []) _
      refine XS.aloadN X244.here hx rfl (hb hby d7_20) rfl rfl ?_
      show own_S p e below T244 (mkF m 21 #[.val (.ref a0), .val (.int 0), .val (.int 2), .val (.ref b238), .val (.int 1), .unset] [(.ref a0)]) _
      refine XS.iloadN X244.here hx rfl (hb hby d7_21) rfl ?_
      show own_S p e below T244 (mkF m 22 #[.val (.ref a0), .val (.int 0), .val (.int 2), .val (.ref b238), .val (.int 1), .unset] [.int 0, (.ref a0)]) _
      refine XS.iloadN X244.here hx rfl (hb hby d7_22) rfl ?_
      exact kt
    obtain ⟨_, _, ⟨T262, L262, k262, n262⟩, -, X262, ⟨Lc262, hQ262, l262, y262, z262⟩, st262⟩ := Jvm.LawKit.callS X244 hx (y := (⟨"java/lang/StringUTF16", "toBytes", "([CII)[B"⟩ : MethodName)) hown (mvT hZ (hw _ (List.mem_of_getElem? (i := 57) rfl))) (mvT hZ (hw _ (List.mem_of_getElem? (i := 58) rfl))) (mvT hZ (hw _ (List.mem_of_getElem? (i := 27) rfl))) (mvT hZ (hw _ (List.mem_of_getElem? (i := 59) rfl))) (by decide) (backOf (W := 0) (rm13_s2 l Z ag hw [] a0 kc c0 c1 T244.heap n0 sz259 x257 hr_c0 hr_c1 x258 S_ad S_hi S_lo) hZ (hw _ (List.mem_of_getElem? (i := 59) rfl)) (hw _ (List.mem_of_getElem? (i := 27) rfl)) (by decide) (by decide)) (g := (mkF m 23 #[.val (.ref a0), .val (.int 0), .val (.int 2), .val (.ref b238), .val (.int 1), .unset] [.int 2, .int 0, (.ref a0)])) rfl (by rw [hml]; rfl) (argsL := [(.ref a0), (.int (0 : Int32)), (.int (2 : Int32))]) (rest := []) (lenOf pd_20 rfl) rfl (by show 2 * 0 + _ ≤ _; exact Nat.le_of_eq rfl) (hb hby d7_23) (fun _ _ => ⟨rfl, rfl, (by decide : 1 + 1 ≤ _), (by decide : 2 + 8 ≤ _)⟩)
    dsimp only [Pt.U, Pt.locs, Pt.cells, Pt.slots] at X262 l262 y262 z262 st262 hQ262
    subst l262 y262 z262
    obtain ⟨r262, kr262, rfl, N262q, K262, ge_r262, gq_r262, Vr262⟩ := hQ262
    have N262 := Fr.app N244 N262q
    have ne263 : a0 ≠ r262 := Nat.ne_of_lt (Nat.lt_of_lt_of_le x257.lt gq_r262)
    have gs_r262 : h0.size ≤ r262 := Nat.le_trans kp260.1 gq_r262
    have x264 := x257.keep K262 nin0
    have x265 := x258.keep K262 all0
    have sz266 : n0 ≤ T262.heap.size := Nat.le_trans sz259 K262.1
    have kp267 : Keep h0 T262.heap [] := kp260.trans K262 all0
    obtain ⟨_, _, ⟨T268, L268, k268, n268⟩, -, X268, ⟨Lc268, hQ268, l268, y268, z268⟩, st268⟩ := Jvm.LawKit.callS X262 hx (y := (⟨"java/lang/StringUTF16", "getChar", "([BI)C"⟩ : MethodName)) hown (mvT hZ (hw _ (List.mem_of_getElem? (i := 73) rfl))) (mvT hZ (hw _ (List.mem_of_getElem? (i := 74) rfl))) (mvT hZ (hw _ (List.mem_of_getElem? (i := 27) rfl))) (mvT hZ (hw _ (List.mem_of_getElem? (i := 75) rfl))) (by decide) (backOf (W := 0) (rm17 l Z ag hw [] r262 (1 : Int32) kr262 (4 : Int32) [(.int (nar .byte ((c0 >>> ((0 : Int32) &&& 31)).toInt8.toInt32))), (.int (nar .byte ((c0 >>> ((8 : Int32) &&& 31)).toInt8.toInt32))), (.int (nar .byte ((c1 >>> ((0 : Int32) &&& 31)).toInt8.toInt32))), (.int (nar .byte ((c1 >>> ((8 : Int32) &&& 31)).toInt8.toInt32)))] (nar .byte ((c1 >>> ((0 : Int32) &&& 31)).toInt8.toInt32)) (nar .byte ((c1 >>> ((8 : Int32) &&& 31)).toInt8.toInt32)) T262.heap n0 sz266 Vr262 (by decide) (by decide) rfl rfl x265 S_ad S_hi S_lo) hZ (hw _ (List.mem_of_getElem? (i := 75) rfl)) (hw _ (List.mem_of_getElem? (i := 27) rfl)) (by decide) (by decide)) (g := (mkF m 32 #[.val (.ref a0), .val (.int 0), .val (.int 2), .val (.ref b238), .val (.int 1), .val (.ref r262)] [.int 1, (.ref r262)])) rfl (by rw [hml]; rfl) (argsL := [(.ref r262), (.int (1 : Int32))]) (rest := []) (lenOf pd_17 rfl) rfl (by show 2 * 0 + _ ≤ _; exact Nat.le_of_eq rfl) (hb hby d7_32) (fun _ _ => ⟨rfl, rfl, (by decide : 2 + 0 ≤ _), (by decide : 10 + 0 ≤ _)⟩)
    dsimp only [Pt.U, Pt.locs, Pt.cells, Pt.slots] at X268 l268 y268 z268 st268 hQ268
    subst l268 y268 z268
    obtain ⟨rfl, N268q, e268⟩ := hQ268
    have N268 := Fr.app N262 N268q
    obtain ⟨fs, hr, hrun, hended, hW, hsame⟩ := X268.leave (v := some (.ref r262)) (fun h => by rw [Bd.returns] at h; cases h)
    refine ⟨_, _, pre0 _ ?_, hrun, hended, _, _, rfl, ?_, ⟨_, rfl⟩, hW, hsame.mono (by decide) (by decide)⟩
    · show own_S p e below s₁ (mkF m 0 #[.val (.ref a0), .val (.int 0), .val (.int 2), .unset, .unset, .unset] []) _
      refine cp261 _ ?_
      show own_S p e below T244 (mkF m 23 #[.val (.ref a0), .val (.int 0), .val (.int 2), .val (.ref b238), .val (.int 1), .unset] [.int 2, .int 0, (.ref a0)]) _
      refine st262 _ ?_
      show own_S p e below T262 (mkF m 26 #[.val (.ref a0), .val (.int 0), .val (.int 2), .val (.ref b238), .val (.int 1), .unset] [(.ref r262)]) _
      refine XS.astore X262.here hx rfl (hb hby d7_26) rfl rfl (l' := #[.val (.ref a0), .val (.int 0), .val (.int 2), .val (.ref b238), .val (.int 1), .val (.ref r262)]) rfl ?_
      show own_S p e below T262 (mkF m 28 #[.val (.ref a0), .val (.int 0), .val (.int 2), .val (.ref b238), .val (.int 1), .val (.ref r262)] []) _
      refine XS.aload X262.here hx rfl (hb hby d7_28) rfl rfl ?_
      show own_S p e below T262 (mkF m 30 #[.val (.ref a0), .val (.int 0), .val (.int 2), .val (.ref b238), .val (.int 1), .val (.ref r262)] [(.ref r262)]) _
      refine XS.iload X262.here hx rfl (hb hby d7_30) rfl ?_
      show own_S p e below T262 (mkF m 32 #[.val (.ref a0), .val (.int 0), .val (.int 2), .val (.ref b238), .val (.int 1), .val (.ref r262)] [.int 1, (.ref r262)]) _
      refine st268 _ ?_
      show own_S p e below T268 (mkF m 35 #[.val (.ref a0), .val (.int 0), .val (.int 2), .val (.ref b238), .val (.int 1), .val (.ref r262)] [(.int (own_gc (nar .byte ((c1 >>> ((0 : Int32) &&& 31)).toInt8.toInt32)) (nar .byte ((c1 >>> ((8 : Int32) &&& 31)).toInt8.toInt32))))]) _
      refine XS.sipush X268.here hx rfl (hb hby d7_35) ?_
      show own_S p e below T268 (mkF m 38 #[.val (.ref a0), .val (.int 0), .val (.int 2), .val (.ref b238), .val (.int 1), .val (.ref r262)] [.int 255, (.int (own_gc (nar .byte ((c1 >>> ((0 : Int32) &&& 31)).toInt8.toInt32)) (nar .byte ((c1 >>> ((8 : Int32) &&& 31)).toInt8.toInt32))))]) _
      refine XS.icmpYes X268.here hx rfl (pc0 := 38) (pc' := 54) rfl (hb hby d7_38) rfl (tlt (show (255 : Int32) < (own_gc (nar .byte ((c1 >>> ((0 : Int32) &&& 31)).toInt8.toInt32)) (nar .byte ((c1 >>> ((8 : Int32) &&& 31)).toInt8.toInt32))) from (by rw [own_gc_back c1 hr_c1]; exact hbig244))).2.2.1 (by decide) (by decide) ?_
      show own_S p e below T268 (mkF m 54 #[.val (.ref a0), .val (.int 0), .val (.int 2), .val (.ref b238), .val (.int 1), .val (.ref r262)] []) _
      refine XS.aload X268.here hx rfl (hb hby d7_54) rfl rfl ?_
      show own_S p e below T268 (mkF m 56 #[.val (.ref a0), .val (.int 0), .val (.int 2), .val (.ref b238), .val (.int 1), .val (.ref r262)] [(.ref r262)]) _
      exact Jvm.RoadKit.retOut X268 hx Bd.returns rfl (Or.inr (Or.inr (Or.inr (Or.inr ⟨rfl, rfl, rfl⟩)))) (hb hby d7_56) hr
    · show Q7_s2 Z a0 kc c0 c1 h0 n0 _ T268.heap _
      rw [e268]
      exact ⟨r262, kr262, (4 : Int32), _, rfl, N268, kp267, ge_r262, gs_r262, Vr262, Or.inr ⟨rfl, rfl⟩⟩
  · obtain ⟨rfl, N244q, K244, Vb244, hl244_0, hl244_1⟩ := q244
    have N244 := Fr.app N0 N244q
    have x269 := x240.keep K244 (ninS ne239 nin0)
    have x270 := x241.keep K244 (allS ge_b238 all0)
    have sz271 : n0 ≤ T244.heap.size := Nat.le_trans sz242 K244.1
    have kp272 : Keep h0 T244.heap [] := kp243.trans K244 (allS (Or.inr gs_b238) all0)
    obtain ⟨fs, hr, hrun, hended, hW, hsame⟩ := X244.leave (v := some (.ref b238)) (fun h => by rw [Bd.returns] at h; cases h)
    refine ⟨_, _, pre0 _ ?_, hrun, hended, _, _, rfl, ?_, ⟨_, rfl⟩, hW, hsame.mono (by decide) (by decide)⟩
    · show own_S p e below s₁ (mkF m 0 #[.val (.ref a0), .val (.int 0), .val (.int 2), .unset, .unset, .unset] []) _
      refine XS.iloadN X0.here hx rfl (hb hby d7_0) rfl ?_
      show own_S p e below s₁ (mkF m 1 #[.val (.ref a0), .val (.int 0), .val (.int 2), .unset, .unset, .unset] [.int 2]) _
      refine st238 _ ?_
      show own_S p e below T238 (mkF m 3 #[.val (.ref a0), .val (.int 0), .val (.int 2), .unset, .unset, .unset] [(.ref b238)]) _
      refine XS.astoreN X238.here hx rfl (hb hby d7_3) rfl rfl (l' := #[.val (.ref a0), .val (.int 0), .val (.int 2), .val (.ref b238), .unset, .unset]) rfl ?_
      show own_S p e below T238 (mkF m 4 #[.val (.ref a0), .val (.int 0), .val (.int 2), .val (.ref b238), .unset, .unset] []) _
      refine XS.aloadN X238.here hx rfl (hb hby d7_4) rfl rfl ?_
      show own_S p e below T238 (mkF m 5 #[.val (.ref a0), .val (.int 0), .val (.int 2), .val (.ref b238), .unset, .unset] [(.ref a0)]) _
      refine XS.iloadN X238.here hx rfl (hb hby d7_5) rfl ?_
      show own_S p e below T238 (mkF m 6 #[.val (.ref a0), .val (.int 0), .val (.int 2), .val (.ref b238), .unset, .unset] [.int 0, (.ref a0)]) _
      refine XS.aloadN X238.here hx rfl (hb hby d7_6) rfl rfl ?_
      show own_S p e below T238 (mkF m 7 #[.val (.ref a0), .val (.int 0), .val (.int 2), .val (.ref b238), .unset, .unset] [(.ref b238), .int 0, (.ref a0)]) _
      refine XS.iconst X238.here hx rfl (hb hby d7_7) ?_
      show own_S p e below T238 (mkF m 8 #[.val (.ref a0), .val (.int 0), .val (.int 2), .val (.ref b238), .unset, .unset] [.int 0, (.ref b238), .int 0, (.ref a0)]) _
      refine XS.iloadN X238.here hx rfl (hb hby d7_8) rfl ?_
      show own_S p e below T238 (mkF m 9 #[.val (.ref a0), .val (.int 0), .val (.int 2), .val (.ref b238), .unset, .unset] [.int 2, .int 0, (.ref b238), .int 0, (.ref a0)]) _
      refine st244 _ ?_
      show own_S p e below T244 (mkF m 12 #[.val (.ref a0), .val (.int 0), .val (.int 2), .val (.ref b238), .unset, .unset] [.int 2]) _
      refine XS.istore X244.here hx rfl (hb hby d7_12) rfl (l' := #[.val (.ref a0), .val (.int 0), .val (.int 2), .val (.ref b238), .val (.int 2), .unset]) rfl ?_
      show own_S p e below T244 (mkF m 14 #[.val (.ref a0), .val (.int 0), .val (.int 2), .val (.ref b238), .val (.int 2), .unset] []) _
      refine XS.iload X244.here hx rfl (hb hby d7_14) rfl ?_
      show own_S p e below T244 (mkF m 16 #[.val (.ref a0), .val (.int 0), .val (.int 2), .val (.ref b238), .val (.int 2), .unset] [.int 2]) _
      refine XS.iloadN X244.here hx rfl (hb hby d7_16) rfl ?_
      show own_S p e below T244 (mkF m 17 #[.val (.ref a0), .val (.int 0), .val (.int 2), .val (.ref b238), .val (.int 2), .unset] [.int 2, .int 2]) _
      refine XS.icmpYes X244.here hx rfl (pc0 := 17) (pc' := 57) rfl (hb hby d7_17) rfl (teq (by decide : (2 : Int32) = (2 : Int32))).1 (by decide) (by decide) ?_
      show own_S p e below T244 (mkF m 57 #[.val (.ref a0), .val (.int 0), .val (.int 2), .val (.ref b238), .val (.int 2), .unset] []) _
      refine XS.aloadN X244.here hx rfl (hb hby d7_57) rfl rfl ?_
      show own_S p e below T244 (mkF m 58 #[.val (.ref a0), .val (.int 0), .val (.int 2), .val (.ref b238), .val (.int 2), .unset] [(.ref b238)]) _
      exact Jvm.RoadKit.retOut X244 hx Bd.returns rfl (Or.inr (Or.inr (Or.inr (Or.inr ⟨rfl, rfl, rfl⟩)))) (hb hby d7_58) hr
    · show Q7_s2 Z a0 kc c0 c1 h0 n0 _ T244.heap _
      exact ⟨b238, k238, (2 : Int32), _, rfl, N244, kp272, ge_b238, gs_b238, Vb244, Or.inl ⟨rfl, rfl, hl244_0, hl244_1⟩⟩
theorem ef_5_vv02n (m : MethodId) (a0 : Addr) (a1 : Addr) : entryFrame m #[(.ref a0), (.ref a1), (.int (0 : Int32)), (.int (2 : Int32)), .null] 6 = mkF m 0 #[.val (.ref a0), .val (.ref a1), .val (.int 0), .val (.int 2), .val .null, .unset] [] := by first | (simp [entryFrame, mkF, argsToLocals, Value.category]; done) | rfl
def Q5_s2 (Z : State) (a0 : Addr) (a1 : Addr) (kc : ClassId) (c0 : Int32) (c1 : Int32) (cs : Int32) (h0 : Heap) (n0 : Nat) (v : Option Value) (h : Heap) (L : List Loc) : Prop := v = none ∧ Fr n0 L ∧ Keep h0 h [a0] ∧ own_str Z h a0 [c0, c1]
set_option maxRecDepth 65536 in
set_option maxHeartbeats 40000000 in
theorem rm5_s2 (l : Launch) (Z : State) (ag : Array Value) (hw : ∀ d ∈ tables_1, d.before ag Z = true) (ws : List Jvm.Cond) (a0 : Addr) (a1 : Addr) (kc : ClassId) (c0 : Int32) (c1 : Int32) (cs : Int32) (h0 : Heap) (n0 : Nat) (Z0 : n0 ≤ h0.size) (E_a0 : Exa Z h0 a0 "java/lang/String") (F_value_a0 : Fld Z h0 a0 "java/lang/String" "value" "[B" .null) (F_coder_a0 : Fld Z h0 a0 "java/lang/String" "coder" "B" (.int (0 : Int32))) (ge_a0 : n0 ≤ a0) (ne_a0_a1 : a0 ≠ a1) (O_ : Old Z n0 h0) (S_cs : Sta Z Z.heap "java/lang/String" "COMPACT_STRINGS" "Z" (.int cs)) (hcs : ¬ cs = (0 : Int32)) (S_ad : Sta Z Z.heap "java/lang/StringUTF16" "$assertionsDisabled" "Z" (.int (1 : Int32))) (S_hi : Sta Z Z.heap "java/lang/StringUTF16" "HI_BYTE_SHIFT" "I" (.int (0 : Int32))) (S_lo : Sta Z Z.heap "java/lang/StringUTF16" "LO_BYTE_SHIFT" "I" (.int (8 : Int32))) (V_a1 : Arv Z h0 a1 kc .char (2 : Int32) [(.int c0), (.int c1)] (.int (0 : Int32))) (hr_c0 : 0 ≤ c0.toInt ∧ c0.toInt < 65536) (hr_c1 : 0 ≤ c1.toInt ∧ c1.toInt < 65536) :
    MetFree l (⟨"java/lang/String", "<init>", "([CIILjava/lang/Void;)V"⟩ : MethodName) (head1 (Jvm.Cond.code (⟨"java/lang/String", "<init>", "([CIILjava/lang/Void;)V"⟩ : MethodName) jdk_42_method_149_code 6 none :: ws) ({ frames := 4, cells := 2, slots := 10, locals := 57 } : Room)) (fun a U => a = #[(.ref a0), (.ref a1), (.int (0 : Int32)), (.int (2 : Int32)), .null] ∧ Z.Warmed39 U.vm ∧ U.heap = h0) (fun _ _ _ _ _ => True) (fun _ U o U' => ∃ v L, o = .returned v ∧ Q5_s2 Z a0 a1 kc c0 c1 cs h0 n0 v U'.heap L ∧ FrameEnd U o U' L ({ frames := 4, cells := 2, slots := 10, locals := 57 } : Room).cells ({ frames := 4, cells := 2, slots := 10, locals := 57 } : Room).slots) := by
  refine MetFree.of_bodySF (plainFor_of_name pn_3) hisR ?_
  intro p e s m args below meth c s₁ Bd hml0 hP hK
  obtain ⟨rfl, hZ, hh⟩ := hP
  have hx := Bd.exec
  have hby := Bd.bytes
  have hml : c.maxLocals = 6 := hml0
  have hown : s.vm.findClass "java/lang/String" = some m.cls := findClass_of_methodNamed Bd.named
  have hnm := (name_of_methodNamed Bd.named Bd.method).1
  have X0 : Stand p l e ({ frames := 4, cells := 2, slots := 10, locals := 57 } : Room) s m #[(.ref a0), (.ref a1), (.int (0 : Int32)), (.int (2 : Int32)), .null] below meth c s₁ [] 0 0 := Stand.of_body Bd
  have e0 : s₁.heap = h0 := by rw [← hh, Bd.state]; rfl
  have N0 := Fr.nil n0
  have pre0 : ∀ t, Steps p.tables e below (s₁.setTop (mkF m 0 #[.val (.ref a0), .val (.ref a1), .val (.int 0), .val (.int 2), .val .null, .unset] [])) t → Steps p.tables e below (s₁.setTop (entryFrame m #[(.ref a0), (.ref a1), (.int (0 : Int32)), (.int (2 : Int32)), .null] 6)) t := fun t k => castTop (ef_5_vv02n m a0 a1) k
  obtain ⟨T273, X273, e273, st273⟩ := initO X0 hx hZ hown (hw _ (List.mem_of_getElem? (i := 21) rfl)) (hw _ (List.mem_of_getElem? (i := 22) rfl)) (hw _ (List.mem_of_getElem? (i := 23) rfl)) e0 (g := (mkF m 1 #[.val (.ref a0), .val (.ref a1), .val (.int 0), .val (.int 2), .val .null, .unset] [(.ref a0)])) rfl (by rw [hml]; rfl) rfl (hb hby d5_1) (by decide) (W := 0) (by show 2 * 0 + _ ≤ _; exact Nat.le_of_eq rfl) (by decide)
  obtain ⟨T274, X274, e274, st274⟩ := getS2 X273 hx hZ hown (host := "") (Or.inl (hw _ (List.mem_of_getElem? (i := 24) rfl))) Via.refl e273 (Sta.ext O_.2 S_cs) (g := (mkF m 27 #[.val (.ref a0), .val (.ref a1), .val (.int 0), .val (.int 2), .val .null, .unset] [])) rfl (hb hby d5_27)
  obtain ⟨_, _, ⟨T275, L275, k275, n275⟩, -, X275, ⟨Lc275, hQ275, l275, y275, z275⟩, st275⟩ := Jvm.LawKit.callS X274 hx (y := (⟨"java/lang/StringUTF16", "compress", "([CII)[B"⟩ : MethodName)) hown (mvT hZ (hw _ (List.mem_of_getElem? (i := 25) rfl))) (mvT hZ (hw _ (List.mem_of_getElem? (i := 26) rfl))) (mvT hZ (hw _ (List.mem_of_getElem? (i := 27) rfl))) (mvT hZ (hw _ (List.mem_of_getElem? (i := 28) rfl))) (by decide) (backOf (W := 0) (rm7_s2 l Z ag hw [] a1 kc c0 c1 h0 n0 Z0 V_a1 hr_c0 hr_c1 O_ S_ad S_hi S_lo) hZ (hw _ (List.mem_of_getElem? (i := 28) rfl)) (hw _ (List.mem_of_getElem? (i := 27) rfl)) (by decide) (by decide)) (g := (mkF m 36 #[.val (.ref a0), .val (.ref a1), .val (.int 0), .val (.int 2), .val .null, .unset] [.int 2, .int 0, (.ref a1)])) rfl (by rw [hml]; rfl) (argsL := [(.ref a1), (.int (0 : Int32)), (.int (2 : Int32))]) (rest := []) (lenOf pd_20 rfl) rfl (by show 2 * 0 + _ ≤ _; exact Nat.le_of_eq rfl) (hb hby d5_36) (fun _ _ => ⟨rfl, e274, (by decide : 0 + 2 ≤ _), (by decide : 0 + 10 ≤ _)⟩)
  dsimp only [Pt.U, Pt.locs, Pt.cells, Pt.slots] at X275 l275 y275 z275 st275 hQ275
  subst l275 y275 z275
  obtain ⟨r275, kr275, nb275, vs275, rfl, N275q, K275, ge_r275, gq_r275, Vr275, hQ275⟩ := hQ275
  rcases hQ275 with q275 | q275
  · obtain ⟨rfl, rfl, hl275_0, hl275_1⟩ := q275
    have N275 := Fr.app N0 N275q
    have ne276 : a0 ≠ r275 := Nat.ne_of_lt (Nat.lt_of_lt_of_le E_a0.lt gq_r275)
    have ne277 : a1 ≠ r275 := Nat.ne_of_lt (Nat.lt_of_lt_of_le V_a1.lt gq_r275)
    have gs_r275 : h0.size ≤ r275 := Nat.le_trans (Keep.refl h0 [a0]).1 gq_r275
    have x278 := E_a0.keep K275
    have x279 := F_value_a0.keep K275 nin0
    have x280 := F_coder_a0.keep K275 nin0
    have x281 := O_.keep K275 all0
    have x282 := V_a1.keep K275 nin0
    have sz283 : n0 ≤ T275.heap.size := Nat.le_trans Z0 K275.1
    have kp284 : Keep h0 T275.heap [a0] := (Keep.refl h0 [a0]).trans K275 all0
    have cp285 : ∀ target, own_S p e below T275 (mkF m 45 #[.val (.ref a0), .val (.ref a1), .val (.int 0), .val (.int 2), .val .null, .val (.ref r275)] [.int 2, (.ref r275), (.ref a0)]) target → own_S p e below s₁ (mkF m 0 #[.val (.ref a0), .val (.ref a1), .val (.int 0), .val (.int 2), .val .null, .unset] []) target := by
      intro target kt
      show own_S p e below s₁ (mkF m 0 #[.val (.ref a0), .val (.ref a1), .val (.int 0), .val (.int 2), .val .null, .unset] []) _
      refine XS.aloadN X0.here hx rfl (hb hby d5_0) rfl rfl ?_
      show own_S p e below s₁ (mkF m 1 #[.val (.ref a0), .val (.ref a1), .val (.int 0), .val (.int 2), .val .null, .unset] [(.ref a0)]) _
      refine st273 _ ?_
      show own_S p e below T273 (mkF m 4 #[.val (.ref a0), .val (.ref a1), .val (.int 0), .val (.int 2), .val .null, .unset] []) _
      refine XS.iloadN X273.here hx rfl (hb hby d5_4) rfl ?_
      show own_S p e below T273 (mkF m 5 #[.val (.ref a0), .val (.ref a1), .val (.int 0), .val (.int 2), .val .null, .unset] [.int 2]) _
      refine XS.ifYes X273.here hx rfl (pc0 := 5) (pc' := 27) rfl (hb hby d5_5) rfl ((if0 _ _).trans (feq (by decide : ¬ ((2 : Int32) = (0 : Int32)))).2) (by decide) (by decide) ?_
      show own_S p e below T273 (mkF m 27 #[.val (.ref a0), .val (.ref a1), .val (.int 0), .val (.int 2), .val .null, .unset] []) _
      refine st274 _ ?_
      show own_S p e below T274 (mkF m 30 #[.val (.ref a0), .val (.ref a1), .val (.int 0), .val (.int 2), .val .null, .unset] [(.int cs)]) _
      refine XS.ifNo X274.here hx rfl (hb hby d5_30) rfl ((if0 _ _).trans (feq (show ¬ (cs = (0 : Int32)) from hcs)).1) ?_
      show own_S p e below T274 (mkF m 33 #[.val (.ref a0), .val (.ref a1), .val (.int 0), .val (.int 2), .val .null, .unset] []) _
      refine XS.aloadN X274.here hx rfl (hb hby d5_33) rfl rfl ?_
      show own_S p e below T274 (mkF m 34 #[.val (.ref a0), .val (.ref a1), .val (.int 0), .val (.int 2), .val .null, .unset] [(.ref a1)]) _
      refine XS.iloadN X274.here hx rfl (hb hby d5_34) rfl ?_
      show own_S p e below T274 (mkF m 35 #[.val (.ref a0), .val (.ref a1), .val (.int 0), .val (.int 2), .val .null, .unset] [.int 0, (.ref a1)]) _
      refine XS.iloadN X274.here hx rfl (hb hby d5_35) rfl ?_
      show own_S p e below T274 (mkF m 36 #[.val (.ref a0), .val (.ref a1), .val (.int 0), .val (.int 2), .val .null, .unset] [.int 2, .int 0, (.ref a1)]) _
      refine st275 _ ?_
      show own_S p e below T275 (mkF m 39 #[.val (.ref a0), .val (.ref a1), .val (.int 0), .val (.int 2), .val .null, .unset] [(.ref r275)]) _
      refine XS.astore X275.here hx rfl (hb hby d5_39) rfl rfl (l' := #[.val (.ref a0), .val (.ref a1), .val (.int 0), .val (.int 2), .val .null, .val (.ref r275)]) rfl ?_
      show own_S p e below T275 (mkF m 41 #[.val (.ref a0), .val (.ref a1), .val (.int 0), .val (.int 2), .val .null, .val (.ref r275)] []) _
      refine XS.aloadN X275.here hx rfl (hb hby d5_41) rfl rfl ?_
      show own_S p e below T275 (mkF m 42 #[.val (.ref a0), .val (.ref a1), .val (.int 0), .val (.int 2), .val .null, .val (.ref r275)] [(.ref a0)]) _
      refine XS.aload X275.here hx rfl (hb hby d5_42) rfl rfl ?_
      show own_S p e below T275 (mkF m 44 #[.val (.ref a0), .val (.ref a1), .val (.int 0), .val (.int 2), .val .null, .val (.ref r275)] [(.ref r275), (.ref a0)]) _
      refine XS.iloadN X275.here hx rfl (hb hby d5_44) rfl ?_
      exact kt
    obtain ⟨_, _, ⟨T286, L286, k286, n286⟩, -, X286, ⟨Lc286, hQ286, l286, y286, z286⟩, st286⟩ := Jvm.LawKit.callS X275 hx (y := (⟨"java/lang/StringUTF16", "coderFromArrayLen", "([BI)B"⟩ : MethodName)) hown (mvT hZ (hw _ (List.mem_of_getElem? (i := 33) rfl))) (mvT hZ (hw _ (List.mem_of_getElem? (i := 34) rfl))) (mvT hZ (hw _ (List.mem_of_getElem? (i := 27) rfl))) (mvT hZ (hw _ (List.mem_of_getElem? (i := 35) rfl))) (by decide) (backOf (W := 1) (rm9 l Z ag hw [] r275 (2 : Int32) kr275 (2 : Int32) [(.int (nar .byte (c0.toInt8.toInt32))), (.int (nar .byte (c1.toInt8.toInt32)))] (0 : Int32) T275.heap n0 sz283 Vr275 (by decide)) hZ (hw _ (List.mem_of_getElem? (i := 35) rfl)) (hw _ (List.mem_of_getElem? (i := 27) rfl)) (by decide) (by decide)) (g := (mkF m 45 #[.val (.ref a0), .val (.ref a1), .val (.int 0), .val (.int 2), .val .null, .val (.ref r275)] [.int 2, (.ref r275), (.ref a0)])) rfl (by rw [hml]; rfl) (argsL := [(.ref r275), (.int (2 : Int32))]) (rest := [(.ref a0)]) (lenOf pd_16 rfl) rfl (by show 2 * 0 + _ ≤ _; exact Nat.le_of_eq rfl) (hb hby d5_45) (fun _ _ => ⟨rfl, rfl, (by decide : 2 + 0 ≤ _), (by decide : 10 + 0 ≤ _)⟩)
    dsimp only [Pt.U, Pt.locs, Pt.cells, Pt.slots] at X286 l286 y286 z286 st286 hQ286
    subst l286 y286 z286
    obtain ⟨rfl, N286q, e286⟩ := hQ286
    have N286 := Fr.app N275 N286q
    obtain ⟨T287, h287, X287, e287, W287, st287⟩ := putFN X286 hx hZ hown (hw _ (List.mem_of_getElem? (i := 36) rfl)) Via.refl e286 x280 x278 (Or.inr ⟨(hw _ (List.mem_of_getElem? (i := 37) rfl)), rfl, hnm⟩) (hw _ (List.mem_of_getElem? (i := 11) rfl)) (ty := .byte) (v' := (.int (0 : Int32))) (by decide) rfl (fits_nar_byte (0 : Int32)) (g := (mkF m 48 #[.val (.ref a0), .val (.ref a1), .val (.int 0), .val (.int 2), .val .null, .val (.ref r275)] [.int 0, (.ref a0)])) rfl rfl (hb hby d5_48)
    have Fw287 := x280.same W287
    have x288 := x278.wr W287
    have x289 := x279.other W287 (Or.inr (slot_ne (Or.inr (hw _ (List.mem_of_getElem? (i := 39) rfl))) (Or.inr (hw _ (List.mem_of_getElem? (i := 37) rfl))) (by decide) (t := (.array .byte)) (t' := .byte) (by decide) (by decide)))
    have x290 := x281.wr W287 ge_a0
    have x291 := x282.other W287 (Ne.symm ne_a0_a1)
    have x292 := Vr275.other W287 (Ne.symm ne276)
    have sz293 : n0 ≤ h287.size := Nat.le_trans sz283 (Keep.of_wr W287).1
    have kp294 : Keep h0 h287 [a0] := kp284.wr W287 (Or.inl (List.mem_of_getElem? (i := 0) rfl))
    have N287 := Fr.snoc X287 N286 ge_a0
    obtain ⟨T295, h295, X295, e295, W295, st295⟩ := putF X287 hx hZ hown (host := "") (Or.inl (hw _ (List.mem_of_getElem? (i := 38) rfl))) Via.refl e287 x289 x288 (Or.inr ⟨(hw _ (List.mem_of_getElem? (i := 39) rfl)), rfl, hnm⟩) (hw _ (List.mem_of_getElem? (i := 11) rfl)) (ty := (.array .byte)) (by decide) rfl rfl (g := (mkF m 54 #[.val (.ref a0), .val (.ref a1), .val (.int 0), .val (.int 2), .val .null, .val (.ref r275)] [(.ref r275), (.ref a0)])) rfl rfl (hb hby d5_54)
    have Fw295 := x289.same W295
    have x296 := x288.wr W295
    have x297 := x290.wr W295 ge_a0
    have x298 := x291.other W295 (Ne.symm ne_a0_a1)
    have x299 := x292.other W295 (Ne.symm ne276)
    have x300 := Fw287.other W295 (Or.inr (slot_ne (Or.inr (hw _ (List.mem_of_getElem? (i := 37) rfl))) (Or.inr (hw _ (List.mem_of_getElem? (i := 39) rfl))) (by decide) (t := .byte) (t' := (.array .byte)) (by decide) (by decide)))
    have sz301 : n0 ≤ h295.size := Nat.le_trans sz293 (Keep.of_wr W295).1
    have kp302 : Keep h0 h295 [a0] := kp294.wr W295 (Or.inl (List.mem_of_getElem? (i := 0) rfl))
    have N295 := Fr.snoc X295 N287 ge_a0
    obtain ⟨fs, hr, hrun, hended, hW, hsame⟩ := X295.leave (v := none) (fun _ => rfl)
    refine ⟨_, _, pre0 _ ?_, hrun, hended, _, _, rfl, ?_, ⟨_, rfl⟩, hW, hsame.mono (by decide) (by decide)⟩
    · show own_S p e below s₁ (mkF m 0 #[.val (.ref a0), .val (.ref a1), .val (.int 0), .val (.int 2), .val .null, .unset] []) _
      refine cp285 _ ?_
      show own_S p e below T275 (mkF m 45 #[.val (.ref a0), .val (.ref a1), .val (.int 0), .val (.int 2), .val .null, .val (.ref r275)] [.int 2, (.ref r275), (.ref a0)]) _
      refine st286 _ ?_
      show own_S p e below T286 (mkF m 48 #[.val (.ref a0), .val (.ref a1), .val (.int 0), .val (.int 2), .val .null, .val (.ref r275)] [.int 0, (.ref a0)]) _
      refine st287 _ ?_
      show own_S p e below T287 (mkF m 51 #[.val (.ref a0), .val (.ref a1), .val (.int 0), .val (.int 2), .val .null, .val (.ref r275)] []) _
      refine XS.aloadN X287.here hx rfl (hb hby d5_51) rfl rfl ?_
      show own_S p e below T287 (mkF m 52 #[.val (.ref a0), .val (.ref a1), .val (.int 0), .val (.int 2), .val .null, .val (.ref r275)] [(.ref a0)]) _
      refine XS.aload X287.here hx rfl (hb hby d5_52) rfl rfl ?_
      show own_S p e below T287 (mkF m 54 #[.val (.ref a0), .val (.ref a1), .val (.int 0), .val (.int 2), .val .null, .val (.ref r275)] [(.ref r275), (.ref a0)]) _
      refine st295 _ ?_
      show own_S p e below T295 (mkF m 57 #[.val (.ref a0), .val (.ref a1), .val (.int 0), .val (.int 2), .val .null, .val (.ref r275)] []) _
      exact X295.returnOut hx Bd.returns (hb hby d5_57) hr
    · show Q5_s2 Z a0 a1 kc c0 c1 cs h0 n0 _ T295.heap _
      rw [e295]
      exact ⟨rfl, N295, kp302, ⟨x296, (by decide : 2 ≤ 4), r275, kr275, (2 : Int32), (0 : Int32), _, Fw295, x300, x299, Or.inl ⟨rfl, rfl, own_lat_of2 hr_c0 hr_c1 hl275_0 hl275_1⟩⟩⟩
  · obtain ⟨rfl, rfl⟩ := q275
    have N275 := Fr.app N0 N275q
    have ne303 : a0 ≠ r275 := Nat.ne_of_lt (Nat.lt_of_lt_of_le E_a0.lt gq_r275)
    have ne304 : a1 ≠ r275 := Nat.ne_of_lt (Nat.lt_of_lt_of_le V_a1.lt gq_r275)
    have gs_r275 : h0.size ≤ r275 := Nat.le_trans (Keep.refl h0 [a0]).1 gq_r275
    have x305 := E_a0.keep K275
    have x306 := F_value_a0.keep K275 nin0
    have x307 := F_coder_a0.keep K275 nin0
    have x308 := O_.keep K275 all0
    have x309 := V_a1.keep K275 nin0
    have sz310 : n0 ≤ T275.heap.size := Nat.le_trans Z0 K275.1
    have kp311 : Keep h0 T275.heap [a0] := (Keep.refl h0 [a0]).trans K275 all0
    have cp312 : ∀ target, own_S p e below T275 (mkF m 45 #[.val (.ref a0), .val (.ref a1), .val (.int 0), .val (.int 2), .val .null, .val (.ref r275)] [.int 2, (.ref r275), (.ref a0)]) target → own_S p e below s₁ (mkF m 0 #[.val (.ref a0), .val (.ref a1), .val (.int 0), .val (.int 2), .val .null, .unset] []) target := by
      intro target kt
      show own_S p e below s₁ (mkF m 0 #[.val (.ref a0), .val (.ref a1), .val (.int 0), .val (.int 2), .val .null, .unset] []) _
      refine XS.aloadN X0.here hx rfl (hb hby d5_0) rfl rfl ?_
      show own_S p e below s₁ (mkF m 1 #[.val (.ref a0), .val (.ref a1), .val (.int 0), .val (.int 2), .val .null, .unset] [(.ref a0)]) _
      refine st273 _ ?_
      show own_S p e below T273 (mkF m 4 #[.val (.ref a0), .val (.ref a1), .val (.int 0), .val (.int 2), .val .null, .unset] []) _
      refine XS.iloadN X273.here hx rfl (hb hby d5_4) rfl ?_
      show own_S p e below T273 (mkF m 5 #[.val (.ref a0), .val (.ref a1), .val (.int 0), .val (.int 2), .val .null, .unset] [.int 2]) _
      refine XS.ifYes X273.here hx rfl (pc0 := 5) (pc' := 27) rfl (hb hby d5_5) rfl ((if0 _ _).trans (feq (by decide : ¬ ((2 : Int32) = (0 : Int32)))).2) (by decide) (by decide) ?_
      show own_S p e below T273 (mkF m 27 #[.val (.ref a0), .val (.ref a1), .val (.int 0), .val (.int 2), .val .null, .unset] []) _
      refine st274 _ ?_
      show own_S p e below T274 (mkF m 30 #[.val (.ref a0), .val (.ref a1), .val (.int 0), .val (.int 2), .val .null, .unset] [(.int cs)]) _
      refine XS.ifNo X274.here hx rfl (hb hby d5_30) rfl ((if0 _ _).trans (feq (show ¬ (cs = (0 : Int32)) from hcs)).1) ?_
      show own_S p e below T274 (mkF m 33 #[.val (.ref a0), .val (.ref a1), .val (.int 0), .val (.int 2), .val .null, .unset] []) _
      refine XS.aloadN X274.here hx rfl (hb hby d5_33) rfl rfl ?_
      show own_S p e below T274 (mkF m 34 #[.val (.ref a0), .val (.ref a1), .val (.int 0), .val (.int 2), .val .null, .unset] [(.ref a1)]) _
      refine XS.iloadN X274.here hx rfl (hb hby d5_34) rfl ?_
      show own_S p e below T274 (mkF m 35 #[.val (.ref a0), .val (.ref a1), .val (.int 0), .val (.int 2), .val .null, .unset] [.int 0, (.ref a1)]) _
      refine XS.iloadN X274.here hx rfl (hb hby d5_35) rfl ?_
      show own_S p e below T274 (mkF m 36 #[.val (.ref a0), .val (.ref a1), .val (.int 0), .val (.int 2), .val .null, .unset] [.int 2, .int 0, (.ref a1)]) _
      refine st275 _ ?_
      show own_S p e below T275 (mkF m 39 #[.val (.ref a0), .val (.ref a1), .val (.int 0), .val (.int 2), .val .null, .unset] [(.ref r275)]) _
      refine XS.astore X275.here hx rfl (hb hby d5_39) rfl rfl (l' := #[.val (.ref a0), .val (.ref a1), .val (.int 0), .val (.int 2), .val .null, .val (.ref r275)]) rfl ?_
      show own_S p e below T275 (mkF m 41 #[.val (.ref a0), .val (.ref a1), .val (.int 0), .val (.int 2), .val .null, .val (.ref r275)] []) _
      refine XS.aloadN X275.here hx rfl (hb hby d5_41) rfl rfl ?_
      show own_S p e below T275 (mkF m 42 #[.val (.ref a0), .val (.ref a1), .val (.int 0), .val (.int 2), .val .null, .val (.ref r275)] [(.ref a0)]) _
      refine XS.aload X275.here hx rfl (hb hby d5_42) rfl rfl ?_
      show own_S p e below T275 (mkF m 44 #[.val (.ref a0), .val (.ref a1), .val (.int 0), .val (.int 2), .val .null, .val (.ref r275)] [(.ref r275), (.ref a0)]) _
      refine XS.iloadN X275.here hx rfl (hb hby d5_44) rfl ?_
      exact kt
    obtain ⟨_, _, ⟨T313, L313, k313, n313⟩, -, X313, ⟨Lc313, hQ313, l313, y313, z313⟩, st313⟩ := Jvm.LawKit.callS X275 hx (y := (⟨"java/lang/StringUTF16", "coderFromArrayLen", "([BI)B"⟩ : MethodName)) hown (mvT hZ (hw _ (List.mem_of_getElem? (i := 33) rfl))) (mvT hZ (hw _ (List.mem_of_getElem? (i := 34) rfl))) (mvT hZ (hw _ (List.mem_of_getElem? (i := 27) rfl))) (mvT hZ (hw _ (List.mem_of_getElem? (i := 35) rfl))) (by decide) (backOf (W := 1) (rm9 l Z ag hw [] r275 (2 : Int32) kr275 (4 : Int32) [(.int (nar .byte ((c0 >>> ((0 : Int32) &&& 31)).toInt8.toInt32))), (.int (nar .byte ((c0 >>> ((8 : Int32) &&& 31)).toInt8.toInt32))), (.int (nar .byte ((c1 >>> ((0 : Int32) &&& 31)).toInt8.toInt32))), (.int (nar .byte ((c1 >>> ((8 : Int32) &&& 31)).toInt8.toInt32)))] (1 : Int32) T275.heap n0 sz310 Vr275 (by decide)) hZ (hw _ (List.mem_of_getElem? (i := 35) rfl)) (hw _ (List.mem_of_getElem? (i := 27) rfl)) (by decide) (by decide)) (g := (mkF m 45 #[.val (.ref a0), .val (.ref a1), .val (.int 0), .val (.int 2), .val .null, .val (.ref r275)] [.int 2, (.ref r275), (.ref a0)])) rfl (by rw [hml]; rfl) (argsL := [(.ref r275), (.int (2 : Int32))]) (rest := [(.ref a0)]) (lenOf pd_16 rfl) rfl (by show 2 * 0 + _ ≤ _; exact Nat.le_of_eq rfl) (hb hby d5_45) (fun _ _ => ⟨rfl, rfl, (by decide : 2 + 0 ≤ _), (by decide : 10 + 0 ≤ _)⟩)
    dsimp only [Pt.U, Pt.locs, Pt.cells, Pt.slots] at X313 l313 y313 z313 st313 hQ313
    subst l313 y313 z313
    obtain ⟨rfl, N313q, e313⟩ := hQ313
    have N313 := Fr.app N275 N313q
    obtain ⟨T314, h314, X314, e314, W314, st314⟩ := putFN X313 hx hZ hown (hw _ (List.mem_of_getElem? (i := 36) rfl)) Via.refl e313 x307 x305 (Or.inr ⟨(hw _ (List.mem_of_getElem? (i := 37) rfl)), rfl, hnm⟩) (hw _ (List.mem_of_getElem? (i := 11) rfl)) (ty := .byte) (v' := (.int (1 : Int32))) (by decide) rfl (fits_nar_byte (1 : Int32)) (g := (mkF m 48 #[.val (.ref a0), .val (.ref a1), .val (.int 0), .val (.int 2), .val .null, .val (.ref r275)] [.int 1, (.ref a0)])) rfl rfl (hb hby d5_48)
    have Fw314 := x307.same W314
    have x315 := x305.wr W314
    have x316 := x306.other W314 (Or.inr (slot_ne (Or.inr (hw _ (List.mem_of_getElem? (i := 39) rfl))) (Or.inr (hw _ (List.mem_of_getElem? (i := 37) rfl))) (by decide) (t := (.array .byte)) (t' := .byte) (by decide) (by decide)))
    have x317 := x308.wr W314 ge_a0
    have x318 := x309.other W314 (Ne.symm ne_a0_a1)
    have x319 := Vr275.other W314 (Ne.symm ne303)
    have sz320 : n0 ≤ h314.size := Nat.le_trans sz310 (Keep.of_wr W314).1
    have kp321 : Keep h0 h314 [a0] := kp311.wr W314 (Or.inl (List.mem_of_getElem? (i := 0) rfl))
    have N314 := Fr.snoc X314 N313 ge_a0
    obtain ⟨T322, h322, X322, e322, W322, st322⟩ := putF X314 hx hZ hown (host := "") (Or.inl (hw _ (List.mem_of_getElem? (i := 38) rfl))) Via.refl e314 x316 x315 (Or.inr ⟨(hw _ (List.mem_of_getElem? (i := 39) rfl)), rfl, hnm⟩) (hw _ (List.mem_of_getElem? (i := 11) rfl)) (ty := (.array .byte)) (by decide) rfl rfl (g := (mkF m 54 #[.val (.ref a0), .val (.ref a1), .val (.int 0), .val (.int 2), .val .null, .val (.ref r275)] [(.ref r275), (.ref a0)])) rfl rfl (hb hby d5_54)
    have Fw322 := x316.same W322
    have x323 := x315.wr W322
    have x324 := x317.wr W322 ge_a0
    have x325 := x318.other W322 (Ne.symm ne_a0_a1)
    have x326 := x319.other W322 (Ne.symm ne303)
    have x327 := Fw314.other W322 (Or.inr (slot_ne (Or.inr (hw _ (List.mem_of_getElem? (i := 37) rfl))) (Or.inr (hw _ (List.mem_of_getElem? (i := 39) rfl))) (by decide) (t := .byte) (t' := (.array .byte)) (by decide) (by decide)))
    have sz328 : n0 ≤ h322.size := Nat.le_trans sz320 (Keep.of_wr W322).1
    have kp329 : Keep h0 h322 [a0] := kp321.wr W322 (Or.inl (List.mem_of_getElem? (i := 0) rfl))
    have N322 := Fr.snoc X322 N314 ge_a0
    obtain ⟨fs, hr, hrun, hended, hW, hsame⟩ := X322.leave (v := none) (fun _ => rfl)
    refine ⟨_, _, pre0 _ ?_, hrun, hended, _, _, rfl, ?_, ⟨_, rfl⟩, hW, hsame.mono (by decide) (by decide)⟩
    · show own_S p e below s₁ (mkF m 0 #[.val (.ref a0), .val (.ref a1), .val (.int 0), .val (.int 2), .val .null, .unset] []) _
      refine cp312 _ ?_
      show own_S p e below T275 (mkF m 45 #[.val (.ref a0), .val (.ref a1), .val (.int 0), .val (.int 2), .val .null, .val (.ref r275)] [.int 2, (.ref r275), (.ref a0)]) _
      refine st313 _ ?_
      show own_S p e below T313 (mkF m 48 #[.val (.ref a0), .val (.ref a1), .val (.int 0), .val (.int 2), .val .null, .val (.ref r275)] [.int 1, (.ref a0)]) _
      refine st314 _ ?_
      show own_S p e below T314 (mkF m 51 #[.val (.ref a0), .val (.ref a1), .val (.int 0), .val (.int 2), .val .null, .val (.ref r275)] []) _
      refine XS.aloadN X314.here hx rfl (hb hby d5_51) rfl rfl ?_
      show own_S p e below T314 (mkF m 52 #[.val (.ref a0), .val (.ref a1), .val (.int 0), .val (.int 2), .val .null, .val (.ref r275)] [(.ref a0)]) _
      refine XS.aload X314.here hx rfl (hb hby d5_52) rfl rfl ?_
      show own_S p e below T314 (mkF m 54 #[.val (.ref a0), .val (.ref a1), .val (.int 0), .val (.int 2), .val .null, .val (.ref r275)] [(.ref r275), (.ref a0)]) _
      refine st322 _ ?_
      show own_S p e below T322 (mkF m 57 #[.val (.ref a0), .val (.ref a1), .val (.int 0), .val (.int 2), .val .null, .val (.ref r275)] []) _
      exact X322.returnOut hx Bd.returns (hb hby d5_57) hr
    · show Q5_s2 Z a0 a1 kc c0 c1 cs h0 n0 _ T322.heap _
      rw [e322]
      exact ⟨rfl, N322, kp329, ⟨x323, (by decide : 2 ≤ 4), r275, kr275, (4 : Int32), (1 : Int32), _, Fw322, x327, x326, Or.inr ⟨rfl, rfl, own_u16_of2 hr_c0 hr_c1⟩⟩⟩
def Q4_s2 (Z : State) (a0 : Addr) (a1 : Addr) (kc : ClassId) (c0 : Int32) (c1 : Int32) (cs : Int32) (h0 : Heap) (n0 : Nat) (v : Option Value) (h : Heap) (L : List Loc) : Prop := v = none ∧ Fr n0 L ∧ Keep h0 h [a0] ∧ own_str Z h a0 [c0, c1]
set_option maxRecDepth 65536 in
set_option maxHeartbeats 40000000 in
theorem rm4_s2 (l : Launch) (Z : State) (ag : Array Value) (hw : ∀ d ∈ tables_1, d.before ag Z = true) (ws : List Jvm.Cond) (a0 : Addr) (a1 : Addr) (kc : ClassId) (c0 : Int32) (c1 : Int32) (cs : Int32) (h0 : Heap) (n0 : Nat) (Z0 : n0 ≤ h0.size) (E_a0 : Exa Z h0 a0 "java/lang/String") (F_value_a0 : Fld Z h0 a0 "java/lang/String" "value" "[B" .null) (F_coder_a0 : Fld Z h0 a0 "java/lang/String" "coder" "B" (.int (0 : Int32))) (ge_a0 : n0 ≤ a0) (ne_a0_a1 : a0 ≠ a1) (O_ : Old Z n0 h0) (S_cs : Sta Z Z.heap "java/lang/String" "COMPACT_STRINGS" "Z" (.int cs)) (hcs : ¬ cs = (0 : Int32)) (S_ad : Sta Z Z.heap "java/lang/StringUTF16" "$assertionsDisabled" "Z" (.int (1 : Int32))) (S_hi : Sta Z Z.heap "java/lang/StringUTF16" "HI_BYTE_SHIFT" "I" (.int (0 : Int32))) (S_lo : Sta Z Z.heap "java/lang/StringUTF16" "LO_BYTE_SHIFT" "I" (.int (8 : Int32))) (V_a1 : Arv Z h0 a1 kc .char (2 : Int32) [(.int c0), (.int c1)] (.int (0 : Int32))) (hr_c0 : 0 ≤ c0.toInt ∧ c0.toInt < 65536) (hr_c1 : 0 ≤ c1.toInt ∧ c1.toInt < 65536) :
    MetFree l (⟨"java/lang/String", "<init>", "([C)V"⟩ : MethodName) (head1 (Jvm.Cond.code (⟨"java/lang/String", "<init>", "([C)V"⟩ : MethodName) jdk_42_method_3_code 2 none :: ws) ({ frames := 5, cells := 2, slots := 10, locals := 74 } : Room)) (fun a U => a = #[(.ref a0), (.ref a1)] ∧ Z.Warmed39 U.vm ∧ U.heap = h0) (fun _ _ _ _ _ => True) (fun _ U o U' => ∃ v L, o = .returned v ∧ Q4_s2 Z a0 a1 kc c0 c1 cs h0 n0 v U'.heap L ∧ FrameEnd U o U' L ({ frames := 5, cells := 2, slots := 10, locals := 74 } : Room).cells ({ frames := 5, cells := 2, slots := 10, locals := 74 } : Room).slots) := by
  refine MetFree.of_bodySF (plainFor_of_name pn_3) hisR ?_
  intro p e s m args below meth c s₁ Bd hml0 hP hK
  obtain ⟨rfl, hZ, hh⟩ := hP
  have hx := Bd.exec
  have hby := Bd.bytes
  have hml : c.maxLocals = 2 := hml0
  have hown : s.vm.findClass "java/lang/String" = some m.cls := findClass_of_methodNamed Bd.named
  have hnm := (name_of_methodNamed Bd.named Bd.method).1
  have X0 : Stand p l e ({ frames := 5, cells := 2, slots := 10, locals := 74 } : Room) s m #[(.ref a0), (.ref a1)] below meth c s₁ [] 0 0 := Stand.of_body Bd
  have e0 : s₁.heap = h0 := by rw [← hh, Bd.state]; rfl
  have N0 := Fr.nil n0
  have pre0 : ∀ t, Steps p.tables e below (s₁.setTop (mkF m 0 #[.val (.ref a0), .val (.ref a1)] [])) t → Steps p.tables e below (s₁.setTop (entryFrame m #[(.ref a0), (.ref a1)] 2)) t := fun t k => castTop (ef_4 m a0 a1) k
  obtain ⟨cl330, Ar330, -, S330, M330, -, -⟩ := id V_a1
  have ld330 := X0.arraylength hx (by rw [e0]; exact Ar330.1) (State.isArrayOf_alike hZ.alike Ar330.2.1) (g := (mkF m 4 #[.val (.ref a0), .val (.ref a1)] [(.ref a1), .int 0, (.ref a1), (.ref a0)])) rfl rfl (hb hby d4_4)
  obtain ⟨_, _, ⟨T331, L331, k331, n331⟩, -, X331, ⟨Lc331, hQ331, l331, y331, z331⟩, st331⟩ := X0.specialBack hx (y := (⟨"java/lang/String", "<init>", "([CIILjava/lang/Void;)V"⟩ : MethodName)) rfl hown (mvT hZ (hw _ (List.mem_of_getElem? (i := 17) rfl))) (mvT hZ (hw _ (List.mem_of_getElem? (i := 18) rfl))) (mvT hZ (hw _ (List.mem_of_getElem? (i := 20) rfl))) (by decide) (backOf (W := 0) (rm5_s2 l Z ag hw [] a0 a1 kc c0 c1 cs h0 n0 Z0 E_a0 F_value_a0 F_coder_a0 ge_a0 ne_a0_a1 O_ S_cs hcs S_ad S_hi S_lo V_a1 hr_c0 hr_c1) hZ (hw _ (List.mem_of_getElem? (i := 20) rfl)) (hw _ (List.mem_of_getElem? (i := 12) rfl)) (by decide) (by decide)) (g := (mkF m 6 #[.val (.ref a0), .val (.ref a1)] [.null, .int 2, .int 0, (.ref a1), (.ref a0)])) rfl (by rw [hml]; rfl) (Steps.refl _) (a := a0) (argsL := [(.ref a1), (.int (0 : Int32)), (.int (2 : Int32)), .null]) (rest := []) (lenOf pd_21 rfl) rfl (by show 2 * 0 + _ ≤ _; exact Nat.le_of_eq rfl) (hb hby d4_6) (fun _ _ => ⟨rfl, e0, (by decide : 0 + 2 ≤ _), (by decide : 0 + 10 ≤ _)⟩)
  dsimp only [Pt.U, Pt.locs, Pt.cells, Pt.slots] at X331 l331 y331 z331 st331 hQ331
  subst l331 y331 z331
  obtain ⟨rfl, N331q, K331, Ss331⟩ := hQ331
  have N331 := Fr.app N0 N331q
  have x332 := E_a0.keep K331
  have x333 := O_.keep K331 (allS ge_a0 all0)
  have x334 := V_a1.keep K331 (ninS (Ne.symm ne_a0_a1) nin0)
  have sz335 : n0 ≤ T331.heap.size := Nat.le_trans Z0 K331.1
  have kp336 : Keep h0 T331.heap [a0] := (Keep.refl h0 [a0]).trans K331 (allS (Or.inl (List.mem_of_getElem? (i := 0) rfl)) all0)
  obtain ⟨fs, hr, hrun, hended, hW, hsame⟩ := X331.leave (v := none) (fun _ => rfl)
  refine ⟨_, _, pre0 _ ?_, hrun, hended, _, _, rfl, ?_, ⟨_, rfl⟩, hW, hsame.mono (by decide) (by decide)⟩
  · show own_S p e below s₁ (mkF m 0 #[.val (.ref a0), .val (.ref a1)] []) _
    refine XS.aloadN X0.here hx rfl (hb hby d4_0) rfl rfl ?_
    show own_S p e below s₁ (mkF m 1 #[.val (.ref a0), .val (.ref a1)] [(.ref a0)]) _
    refine XS.aloadN X0.here hx rfl (hb hby d4_1) rfl rfl ?_
    show own_S p e below s₁ (mkF m 2 #[.val (.ref a0), .val (.ref a1)] [(.ref a1), (.ref a0)]) _
    refine XS.iconst X0.here hx rfl (hb hby d4_2) ?_
    show own_S p e below s₁ (mkF m 3 #[.val (.ref a0), .val (.ref a1)] [.int 0, (.ref a1), (.ref a0)]) _
    refine XS.aloadN X0.here hx rfl (hb hby d4_3) rfl rfl ?_
    show own_S p e below s₁ (mkF m 4 #[.val (.ref a0), .val (.ref a1)] [(.ref a1), .int 0, (.ref a1), (.ref a0)]) _
    refine ld330 _ ?_
    rw [len_of S330 M330]
    show own_S p e below s₁ (mkF m 5 #[.val (.ref a0), .val (.ref a1)] [.int 2, .int 0, (.ref a1), (.ref a0)]) _
    refine XS.aconstNull X0.here hx rfl (hb hby d4_5) ?_
    show own_S p e below s₁ (mkF m 6 #[.val (.ref a0), .val (.ref a1)] [.null, .int 2, .int 0, (.ref a1), (.ref a0)]) _
    refine st331.trans ?_
    show own_S p e below T331 (mkF m 9 #[.val (.ref a0), .val (.ref a1)] []) _
    exact X331.returnOut hx Bd.returns (hb hby d4_9) hr
  · show Q4_s2 Z a0 a1 kc c0 c1 cs h0 n0 _ T331.heap _
    exact ⟨rfl, N331, kp336, Ss331⟩
theorem ef_13_v03 (m : MethodId) (a0 : Addr) : entryFrame m #[(.ref a0), (.int (0 : Int32)), (.int (3 : Int32))] 5 = mkF m 0 #[.val (.ref a0), .val (.int 0), .val (.int 3), .unset, .unset] [] := by first | (simp [entryFrame, mkF, argsToLocals, Value.category]; done) | rfl
def Q13_s3 (Z : State) (a0 : Addr) (kc : ClassId) (c0 : Int32) (c1 : Int32) (c2 : Int32) (h0 : Heap) (n0 : Nat) (v : Option Value) (h : Heap) (L : List Loc) : Prop := ∃ (r : Addr) (kb : ClassId), v = some (.ref r) ∧ Fr n0 L ∧ Keep h0 h [] ∧ n0 ≤ r ∧ h0.size ≤ r ∧ Arv Z h r kb .byte (6 : Int32) [(.int (nar .byte ((c0 >>> ((0 : Int32) &&& 31)).toInt8.toInt32))), (.int (nar .byte ((c0 >>> ((8 : Int32) &&& 31)).toInt8.toInt32))), (.int (nar .byte ((c1 >>> ((0 : Int32) &&& 31)).toInt8.toInt32))), (.int (nar .byte ((c1 >>> ((8 : Int32) &&& 31)).toInt8.toInt32))), (.int (nar .byte ((c2 >>> ((0 : Int32) &&& 31)).toInt8.toInt32))), (.int (nar .byte ((c2 >>> ((8 : Int32) &&& 31)).toInt8.toInt32)))] (.int (0 : Int32))
set_option maxRecDepth 65536 in
set_option maxHeartbeats 40000000 in
theorem rm13_s3 (l : Launch) (Z : State) (ag : Array Value) (hw : ∀ d ∈ tables_1, d.before ag Z = true) (ws : List Jvm.Cond) (a0 : Addr) (kc : ClassId) (c0 : Int32) (c1 : Int32) (c2 : Int32) (h0 : Heap) (n0 : Nat) (Z0 : n0 ≤ h0.size) (V_a0 : Arv Z h0 a0 kc .char (3 : Int32) [(.int c0), (.int c1), (.int c2)] (.int (0 : Int32))) (hr_c0 : 0 ≤ c0.toInt ∧ c0.toInt < 65536) (hr_c1 : 0 ≤ c1.toInt ∧ c1.toInt < 65536) (hr_c2 : 0 ≤ c2.toInt ∧ c2.toInt < 65536) (O_ : Old Z n0 h0) (S_ad : Sta Z Z.heap "java/lang/StringUTF16" "$assertionsDisabled" "Z" (.int (1 : Int32))) (S_hi : Sta Z Z.heap "java/lang/StringUTF16" "HI_BYTE_SHIFT" "I" (.int (0 : Int32))) (S_lo : Sta Z Z.heap "java/lang/StringUTF16" "LO_BYTE_SHIFT" "I" (.int (8 : Int32))) :
    MetFree l (⟨"java/lang/StringUTF16", "toBytes", "([CII)[B"⟩ : MethodName) (head1 (Jvm.Cond.code (⟨"java/lang/StringUTF16", "toBytes", "([CII)[B"⟩ : MethodName) jdk_52_method_14_code 5 (some (.array .byte)) :: ws) ({ frames := 2, cells := 1, slots := 8, locals := 24 } : Room)) (fun a U => a = #[(.ref a0), (.int (0 : Int32)), (.int (3 : Int32))] ∧ Z.Warmed39 U.vm ∧ U.heap = h0) (fun _ _ _ _ _ => True) (fun _ U o U' => ∃ v L, o = .returned v ∧ Q13_s3 Z a0 kc c0 c1 c2 h0 n0 v U'.heap L ∧ FrameEnd U o U' L ({ frames := 2, cells := 1, slots := 8, locals := 24 } : Room).cells ({ frames := 2, cells := 1, slots := 8, locals := 24 } : Room).slots) := by
  refine MetFree.of_bodySF (plainFor_of_name pn_5) hisR ?_
  intro p e s m args below meth c s₁ Bd hml0 hP hK
  obtain ⟨rfl, hZ, hh⟩ := hP
  have hx := Bd.exec
  have hby := Bd.bytes
  have hml : c.maxLocals = 5 := hml0
  have hown : s.vm.findClass "java/lang/StringUTF16" = some m.cls := findClass_of_methodNamed Bd.named
  have hnm := (name_of_methodNamed Bd.named Bd.method).1
  have X0 : Stand p l e ({ frames := 2, cells := 1, slots := 8, locals := 24 } : Room) s m #[(.ref a0), (.int (0 : Int32)), (.int (3 : Int32))] below meth c s₁ [] 0 0 := Stand.of_body Bd
  have e0 : s₁.heap = h0 := by rw [← hh, Bd.state]; rfl
  have N0 := Fr.nil n0
  have pre0 : ∀ t, Steps p.tables e below (s₁.setTop (mkF m 0 #[.val (.ref a0), .val (.int 0), .val (.int 3), .unset, .unset] [])) t → Steps p.tables e below (s₁.setTop (entryFrame m #[(.ref a0), (.int (0 : Int32)), (.int (3 : Int32))] 5)) t := fun t k => castTop (ef_13_v03 m a0) k
  obtain ⟨_, _, ⟨T337, L337, k337, n337⟩, -, X337, ⟨Lc337, hQ337, l337, y337, z337⟩, st337⟩ := Jvm.LawKit.callS X0 hx (y := (⟨"java/lang/StringUTF16", "newBytesFor", "(I)[B"⟩ : MethodName)) hown (mvT hZ (hw _ (List.mem_of_getElem? (i := 60) rfl))) (mvT hZ (hw _ (List.mem_of_getElem? (i := 61) rfl))) (mvT hZ (hw _ (List.mem_of_getElem? (i := 27) rfl))) (mvT hZ (hw _ (List.mem_of_getElem? (i := 62) rfl))) (by decide) (backOf (W := 0) (rm14 l Z ag hw [] (3 : Int32) (6 : Int32) h0 n0 Z0 (by decide) (by decide) (by decide) (by decide) (by decide)) hZ (hw _ (List.mem_of_getElem? (i := 62) rfl)) (hw _ (List.mem_of_getElem? (i := 27) rfl)) (by decide) (by decide)) (g := (mkF m 1 #[.val (.ref a0), .val (.int 0), .val (.int 3), .unset, .unset] [.int 3])) rfl (by rw [hml]; rfl) (argsL := [(.int (3 : Int32))]) (rest := []) (lenOf pd_9 rfl) rfl (by show 2 * 0 + _ ≤ _; exact Nat.le_of_eq rfl) (hb hby d13_1) (fun _ _ => ⟨rfl, e0, (by decide : 0 + 1 ≤ _), (by decide : 0 + 8 ≤ _)⟩)
  dsimp only [Pt.U, Pt.locs, Pt.cells, Pt.slots] at X337 l337 y337 z337 st337 hQ337
  subst l337 y337 z337
  obtain ⟨r337, kr337, rfl, N337q, K337, ge_r337, gq_r337, Vr337⟩ := hQ337
  have N337 := Fr.app N0 N337q
  have Vr337 : Arv Z T337.heap r337 kr337 .byte (6 : Int32) [(.int (0 : Int32)), (.int (0 : Int32)), (.int (0 : Int32)), (.int (0 : Int32)), (.int (0 : Int32)), (.int (0 : Int32))] (.int (0 : Int32)) := Vr337.pad (pad_rep [] (.int (0 : Int32)) 6)
  have ne338 : a0 ≠ r337 := Nat.ne_of_lt (Nat.lt_of_lt_of_le V_a0.lt gq_r337)
  have gs_r337 : h0.size ≤ r337 := Nat.le_trans (Keep.refl h0 []).1 gq_r337
  have x339 := V_a0.keep K337 nin0
  have x340 := O_.keep K337 all0
  have sz341 : n0 ≤ T337.heap.size := Nat.le_trans Z0 K337.1
  have kp342 : Keep h0 T337.heap [] := (Keep.refl h0 []).trans K337 all0
  obtain ⟨cl343, Ar343, q343, S343, M343, H343, G343⟩ := id x339
  have hin343 : ¬ ((0 : Int32) < 0 ∨ cl343.slots.size ≤ ((0 : Int32)).toNatClampNeg) := inb_of S343 ⟨(by decide : ¬ (0 : Int32) < 0), (by decide : (0 : Int32) < (3 : Int32))⟩
  have hat343 : cl343.slots[((0 : Int32)).toNatClampNeg]? = some (.int c0) := Has.at H343 hin343 rfl
  have ld343 := X337.caload hx (j := (0 : Int32)) (v := (.int c0)) Ar343.1 (State.isArrayOf_alike hZ.alike Ar343.2.1) Ar343.2.2 hin343 hat343 (g := (mkF m 19 #[.val (.ref a0), .val (.int 0), .val (.int 3), .val (.ref r337), .val (.int 0)] [.int 0, (.ref a0), .int 0, (.ref r337)])) rfl rfl (hb hby d13_19)
  have cp344 : ∀ target, own_S p e below T337 (mkF m 20 #[.val (.ref a0), .val (.int 0), .val (.int 3), .val (.ref r337), .val (.int 0)] [(.int c0), .int 0, (.ref r337)]) target → own_S p e below s₁ (mkF m 0 #[.val (.ref a0), .val (.int 0), .val (.int 3), .unset, .unset] []) target := by
    intro target kt
    show own_S p e below s₁ (mkF m 0 #[.val (.ref a0), .val (.int 0), .val (.int 3), .unset, .unset] []) _
    refine XS.iloadN X0.here hx rfl (hb hby d13_0) rfl ?_
    show own_S p e below s₁ (mkF m 1 #[.val (.ref a0), .val (.int 0), .val (.int 3), .unset, .unset] [.int 3]) _
    refine st337 _ ?_
    show own_S p e below T337 (mkF m 4 #[.val (.ref a0), .val (.int 0), .val (.int 3), .unset, .unset] [(.ref r337)]) _
    refine XS.astoreN X337.here hx rfl (hb hby d13_4) rfl rfl (l' := #[.val (.ref a0), .val (.int 0), .val (.int 3), .val (.ref r337), .unset]) rfl ?_
    show own_S p e below T337 (mkF m 5 #[.val (.ref a0), .val (.int 0), .val (.int 3), .val (.ref r337), .unset] []) _
    refine XS.iconst X337.here hx rfl (hb hby d13_5) ?_
    show own_S p e below T337 (mkF m 6 #[.val (.ref a0), .val (.int 0), .val (.int 3), .val (.ref r337), .unset] [.int 0]) _
    refine XS.istore X337.here hx rfl (hb hby d13_6) rfl (l' := #[.val (.ref a0), .val (.int 0), .val (.int 3), .val (.ref r337), .val (.int 0)]) rfl ?_
    show own_S p e below T337 (mkF m 8 #[.val (.ref a0), .val (.int 0), .val (.int 3), .val (.ref r337), .val (.int 0)] []) _
    refine XS.iload X337.here hx rfl (hb hby d13_8) rfl ?_
    show own_S p e below T337 (mkF m 10 #[.val (.ref a0), .val (.int 0), .val (.int 3), .val (.ref r337), .val (.int 0)] [.int 0]) _
    refine XS.iloadN X337.here hx rfl (hb hby d13_10) rfl ?_
    show own_S p e below T337 (mkF m 11 #[.val (.ref a0), .val (.int 0), .val (.int 3), .val (.ref r337), .val (.int 0)] [.int 3, .int 0]) _
    refine XS.icmpNo X337.here hx rfl (hb hby d13_11) rfl (tlt (by decide : (0 : Int32) < (3 : Int32))).2.1 ?_
    show own_S p e below T337 (mkF m 14 #[.val (.ref a0), .val (.int 0), .val (.int 3), .val (.ref r337), .val (.int 0)] []) _
    refine XS.aloadN X337.here hx rfl (hb hby d13_14) rfl rfl ?_
    show own_S p e below T337 (mkF m 15 #[.val (.ref a0), .val (.int 0), .val (.int 3), .val (.ref r337), .val (.int 0)] [(.ref r337)]) _
    refine XS.iload X337.here hx rfl (hb hby d13_15) rfl ?_
    show own_S p e below T337 (mkF m 17 #[.val (.ref a0), .val (.int 0), .val (.int 3), .val (.ref r337), .val (.int 0)] [.int 0, (.ref r337)]) _
    refine XS.aloadN X337.here hx rfl (hb hby d13_17) rfl rfl ?_
    show own_S p e below T337 (mkF m 18 #[.val (.ref a0), .val (.int 0), .val (.int 3), .val (.ref r337), .val (.int 0)] [(.ref a0), .int 0, (.ref r337)]) _
    refine XS.iloadN X337.here hx rfl (hb hby d13_18) rfl ?_
    show own_S p e below T337 (mkF m 19 #[.val (.ref a0), .val (.int 0), .val (.int 3), .val (.ref r337), .val (.int 0)] [.int 0, (.ref a0), .int 0, (.ref r337)]) _
    refine ld343 _ ?_
    exact kt
  obtain ⟨_, _, ⟨T345, L345, k345, n345⟩, -, X345, ⟨Lc345, hQ345, l345, y345, z345⟩, st345⟩ := Jvm.LawKit.callS X337 hx (y := (⟨"java/lang/StringUTF16", "putChar", "([BII)V"⟩ : MethodName)) hown (mvT hZ (hw _ (List.mem_of_getElem? (i := 67) rfl))) (mvT hZ (hw _ (List.mem_of_getElem? (i := 68) rfl))) (mvT hZ (hw _ (List.mem_of_getElem? (i := 27) rfl))) (mvT hZ (hw _ (List.mem_of_getElem? (i := 69) rfl))) (by decide) (backOf (W := 0) (rm16 l Z ag hw [] r337 (0 : Int32) c0 kr337 (6 : Int32) [(.int (0 : Int32)), (.int (0 : Int32)), (.int (0 : Int32)), (.int (0 : Int32)), (.int (0 : Int32)), (.int (0 : Int32))] T337.heap n0 sz341 Vr337 ge_r337 (by decide) (by decide) (Nat.le_of_ble_eq_true rfl) (Nat.le_of_ble_eq_true rfl) x340 S_ad S_hi S_lo) hZ (hw _ (List.mem_of_getElem? (i := 69) rfl)) (hw _ (List.mem_of_getElem? (i := 27) rfl)) (by decide) (by decide)) (g := (mkF m 20 #[.val (.ref a0), .val (.int 0), .val (.int 3), .val (.ref r337), .val (.int 0)] [(.int c0), .int 0, (.ref r337)])) rfl (by rw [hml]; rfl) (argsL := [(.ref r337), (.int (0 : Int32)), (.int c0)]) (rest := []) (lenOf pd_18 rfl) rfl (by show 2 * 0 + _ ≤ _; exact Nat.le_of_eq rfl) (hb hby d13_20) (fun _ _ => ⟨rfl, rfl, (by decide : 1 + 0 ≤ _), (by decide : 8 + 0 ≤ _)⟩)
  dsimp only [Pt.U, Pt.locs, Pt.cells, Pt.slots] at X345 l345 y345 z345 st345 hQ345
  subst l345 y345 z345
  obtain ⟨rfl, N345q, K345, Vb345⟩ := hQ345
  have N345 := Fr.app N337 N345q
  have Vb345 : Arv Z T345.heap r337 kr337 .byte (6 : Int32) [(.int (nar .byte ((c0 >>> ((0 : Int32) &&& 31)).toInt8.toInt32))), (.int (nar .byte ((c0 >>> ((8 : Int32) &&& 31)).toInt8.toInt32))), (.int (0 : Int32)), (.int (0 : Int32)), (.int (0 : Int32)), (.int (0 : Int32))] (.int (0 : Int32)) := Vb345
  have x346 := x339.keep K345 (ninS ne338 nin0)
  have x347 := x340.keep K345 (allS ge_r337 all0)
  have sz348 : n0 ≤ T345.heap.size := Nat.le_trans sz341 K345.1
  have kp349 : Keep h0 T345.heap [] := kp342.trans K345 (allS (Or.inr gs_r337) all0)
  obtain ⟨cl350, Ar350, q350, S350, M350, H350, G350⟩ := id x346
  have hin350 : ¬ ((1 : Int32) < 0 ∨ cl350.slots.size ≤ ((1 : Int32)).toNatClampNeg) := inb_of S350 ⟨(by decide : ¬ (1 : Int32) < 0), (by decide : (1 : Int32) < (3 : Int32))⟩
  have hat350 : cl350.slots[((1 : Int32)).toNatClampNeg]? = some (.int c1) := Has.at H350 hin350 rfl
  have ld350 := X345.caload hx (j := (1 : Int32)) (v := (.int c1)) Ar350.1 (State.isArrayOf_alike hZ.alike Ar350.2.1) Ar350.2.2 hin350 hat350 (g := (mkF m 19 #[.val (.ref a0), .val (.int 1), .val (.int 3), .val (.ref r337), .val (.int 1)] [.int 1, (.ref a0), .int 1, (.ref r337)])) rfl rfl (hb hby d13_19)
  have cp351 : ∀ target, own_S p e below T345 (mkF m 20 #[.val (.ref a0), .val (.int 1), .val (.int 3), .val (.ref r337), .val (.int 1)] [(.int c1), .int 1, (.ref r337)]) target → own_S p e below s₁ (mkF m 0 #[.val (.ref a0), .val (.int 0), .val (.int 3), .unset, .unset] []) target := by
    intro target kt
    show own_S p e below s₁ (mkF m 0 #[.val (.ref a0), .val (.int 0), .val (.int 3), .unset, .unset] []) _
    refine cp344 _ ?_
    show own_S p e below T337 (mkF m 20 #[.val (.ref a0), .val (.int 0), .val (.int 3), .val (.ref r337), .val (.int 0)] [(.int c0), .int 0, (.ref r337)]) _
    refine st345 _ ?_
    show own_S p e below T345 (mkF m 23 #[.val (.ref a0), .val (.int 0), .val (.int 3), .val (.ref r337), .val (.int 0)] []) _
    refine XS.iinc X345.here hx rfl (hb hby d13_23) rfl (l' := #[.val (.ref a0), .val (.int 1), .val (.int 3), .val (.ref r337), .val (.int 0)]) rfl ?_
    show own_S p e below T345 (mkF m 26 #[.val (.ref a0), .val (.int 1), .val (.int 3), .val (.ref r337), .val (.int 0)] []) _
    refine XS.iinc X345.here hx rfl (hb hby d13_26) rfl (l' := #[.val (.ref a0), .val (.int 1), .val (.int 3), .val (.ref r337), .val (.int 1)]) rfl ?_
    show own_S p e below T345 (mkF m 29 #[.val (.ref a0), .val (.int 1), .val (.int 3), .val (.ref r337), .val (.int 1)] []) _
    refine XS.goto X345.here hx rfl (pc0 := 29) (pc' := 8) rfl (hb hby d13_29) (by decide) (by decide) ?_
    show own_S p e below T345 (mkF m 8 #[.val (.ref a0), .val (.int 1), .val (.int 3), .val (.ref r337), .val (.int 1)] []) _
    refine XS.iload X345.here hx rfl (hb hby d13_8) rfl ?_
    show own_S p e below T345 (mkF m 10 #[.val (.ref a0), .val (.int 1), .val (.int 3), .val (.ref r337), .val (.int 1)] [.int 1]) _
    refine XS.iloadN X345.here hx rfl (hb hby d13_10) rfl ?_
    show own_S p e below T345 (mkF m 11 #[.val (.ref a0), .val (.int 1), .val (.int 3), .val (.ref r337), .val (.int 1)] [.int 3, .int 1]) _
    refine XS.icmpNo X345.here hx rfl (hb hby d13_11) rfl (tlt (by decide : (1 : Int32) < (3 : Int32))).2.1 ?_
    show own_S p e below T345 (mkF m 14 #[.val (.ref a0), .val (.int 1), .val (.int 3), .val (.ref r337), .val (.int 1)] []) _
    refine XS.aloadN X345.here hx rfl (hb hby d13_14) rfl rfl ?_
    show own_S p e below T345 (mkF m 15 #[.val (.ref a0), .val (.int 1), .val (.int 3), .val (.ref r337), .val (.int 1)] [(.ref r337)]) _
    refine XS.iload X345.here hx rfl (hb hby d13_15) rfl ?_
    show own_S p e below T345 (mkF m 17 #[.val (.ref a0), .val (.int 1), .val (.int 3), .val (.ref r337), .val (.int 1)] [.int 1, (.ref r337)]) _
    refine XS.aloadN X345.here hx rfl (hb hby d13_17) rfl rfl ?_
    show own_S p e below T345 (mkF m 18 #[.val (.ref a0), .val (.int 1), .val (.int 3), .val (.ref r337), .val (.int 1)] [(.ref a0), .int 1, (.ref r337)]) _
    refine XS.iloadN X345.here hx rfl (hb hby d13_18) rfl ?_
    show own_S p e below T345 (mkF m 19 #[.val (.ref a0), .val (.int 1), .val (.int 3), .val (.ref r337), .val (.int 1)] [.int 1, (.ref a0), .int 1, (.ref r337)]) _
    refine ld350 _ ?_
    exact kt
  obtain ⟨_, _, ⟨T352, L352, k352, n352⟩, -, X352, ⟨Lc352, hQ352, l352, y352, z352⟩, st352⟩ := Jvm.LawKit.callS X345 hx (y := (⟨"java/lang/StringUTF16", "putChar", "([BII)V"⟩ : MethodName)) hown (mvT hZ (hw _ (List.mem_of_getElem? (i := 67) rfl))) (mvT hZ (hw _ (List.mem_of_getElem? (i := 68) rfl))) (mvT hZ (hw _ (List.mem_of_getElem? (i := 27) rfl))) (mvT hZ (hw _ (List.mem_of_getElem? (i := 69) rfl))) (by decide) (backOf (W := 0) (rm16 l Z ag hw [] r337 (1 : Int32) c1 kr337 (6 : Int32) [(.int (nar .byte ((c0 >>> ((0 : Int32) &&& 31)).toInt8.toInt32))), (.int (nar .byte ((c0 >>> ((8 : Int32) &&& 31)).toInt8.toInt32))), (.int (0 : Int32)), (.int (0 : Int32)), (.int (0 : Int32)), (.int (0 : Int32))] T345.heap n0 sz348 Vb345 ge_r337 (by decide) (by decide) (Nat.le_of_ble_eq_true rfl) (Nat.le_of_ble_eq_true rfl) x347 S_ad S_hi S_lo) hZ (hw _ (List.mem_of_getElem? (i := 69) rfl)) (hw _ (List.mem_of_getElem? (i := 27) rfl)) (by decide) (by decide)) (g := (mkF m 20 #[.val (.ref a0), .val (.int 1), .val (.int 3), .val (.ref r337), .val (.int 1)] [(.int c1), .int 1, (.ref r337)])) rfl (by rw [hml]; rfl) (argsL := [(.ref r337), (.int (1 : Int32)), (.int c1)]) (rest := []) (lenOf pd_18 rfl) rfl (by show 2 * 0 + _ ≤ _; exact Nat.le_of_eq rfl) (hb hby d13_20) (fun _ _ => ⟨rfl, rfl, (by decide : 1 + 0 ≤ _), (by decide : 8 + 0 ≤ _)⟩)
  dsimp only [Pt.U, Pt.locs, Pt.cells, Pt.slots] at X352 l352 y352 z352 st352 hQ352
  subst l352 y352 z352
  obtain ⟨rfl, N352q, K352, Vb352⟩ := hQ352
  have N352 := Fr.app N345 N352q
  have Vb352 : Arv Z T352.heap r337 kr337 .byte (6 : Int32) [(.int (nar .byte ((c0 >>> ((0 : Int32) &&& 31)).toInt8.toInt32))), (.int (nar .byte ((c0 >>> ((8 : Int32) &&& 31)).toInt8.toInt32))), (.int (nar .byte ((c1 >>> ((0 : Int32) &&& 31)).toInt8.toInt32))), (.int (nar .byte ((c1 >>> ((8 : Int32) &&& 31)).toInt8.toInt32))), (.int (0 : Int32)), (.int (0 : Int32))] (.int (0 : Int32)) := Vb352
  have x353 := x346.keep K352 (ninS ne338 nin0)
  have x354 := x347.keep K352 (allS ge_r337 all0)
  have sz355 : n0 ≤ T352.heap.size := Nat.le_trans sz348 K352.1
  have kp356 : Keep h0 T352.heap [] := kp349.trans K352 (allS (Or.inr gs_r337) all0)
  obtain ⟨cl357, Ar357, q357, S357, M357, H357, G357⟩ := id x353
  have hin357 : ¬ ((2 : Int32) < 0 ∨ cl357.slots.size ≤ ((2 : Int32)).toNatClampNeg) := inb_of S357 ⟨(by decide : ¬ (2 : Int32) < 0), (by decide : (2 : Int32) < (3 : Int32))⟩
  have hat357 : cl357.slots[((2 : Int32)).toNatClampNeg]? = some (.int c2) := Has.at H357 hin357 rfl
  have ld357 := X352.caload hx (j := (2 : Int32)) (v := (.int c2)) Ar357.1 (State.isArrayOf_alike hZ.alike Ar357.2.1) Ar357.2.2 hin357 hat357 (g := (mkF m 19 #[.val (.ref a0), .val (.int 2), .val (.int 3), .val (.ref r337), .val (.int 2)] [.int 2, (.ref a0), .int 2, (.ref r337)])) rfl rfl (hb hby d13_19)
  have cp358 : ∀ target, own_S p e below T352 (mkF m 20 #[.val (.ref a0), .val (.int 2), .val (.int 3), .val (.ref r337), .val (.int 2)] [(.int c2), .int 2, (.ref r337)]) target → own_S p e below s₁ (mkF m 0 #[.val (.ref a0), .val (.int 0), .val (.int 3), .unset, .unset] []) target := by
    intro target kt
    show own_S p e below s₁ (mkF m 0 #[.val (.ref a0), .val (.int 0), .val (.int 3), .unset, .unset] []) _
    refine cp351 _ ?_
    show own_S p e below T345 (mkF m 20 #[.val (.ref a0), .val (.int 1), .val (.int 3), .val (.ref r337), .val (.int 1)] [(.int c1), .int 1, (.ref r337)]) _
    refine st352 _ ?_
    show own_S p e below T352 (mkF m 23 #[.val (.ref a0), .val (.int 1), .val (.int 3), .val (.ref r337), .val (.int 1)] []) _
    refine XS.iinc X352.here hx rfl (hb hby d13_23) rfl (l' := #[.val (.ref a0), .val (.int 2), .val (.int 3), .val (.ref r337), .val (.int 1)]) rfl ?_
    show own_S p e below T352 (mkF m 26 #[.val (.ref a0), .val (.int 2), .val (.int 3), .val (.ref r337), .val (.int 1)] []) _
    refine XS.iinc X352.here hx rfl (hb hby d13_26) rfl (l' := #[.val (.ref a0), .val (.int 2), .val (.int 3), .val (.ref r337), .val (.int 2)]) rfl ?_
    show own_S p e below T352 (mkF m 29 #[.val (.ref a0), .val (.int 2), .val (.int 3), .val (.ref r337), .val (.int 2)] []) _
    refine XS.goto X352.here hx rfl (pc0 := 29) (pc' := 8) rfl (hb hby d13_29) (by decide) (by decide) ?_
    show own_S p e below T352 (mkF m 8 #[.val (.ref a0), .val (.int 2), .val (.int 3), .val (.ref r337), .val (.int 2)] []) _
    refine XS.iload X352.here hx rfl (hb hby d13_8) rfl ?_
    show own_S p e below T352 (mkF m 10 #[.val (.ref a0), .val (.int 2), .val (.int 3), .val (.ref r337), .val (.int 2)] [.int 2]) _
    refine XS.iloadN X352.here hx rfl (hb hby d13_10) rfl ?_
    show own_S p e below T352 (mkF m 11 #[.val (.ref a0), .val (.int 2), .val (.int 3), .val (.ref r337), .val (.int 2)] [.int 3, .int 2]) _
    refine XS.icmpNo X352.here hx rfl (hb hby d13_11) rfl (tlt (by decide : (2 : Int32) < (3 : Int32))).2.1 ?_
    show own_S p e below T352 (mkF m 14 #[.val (.ref a0), .val (.int 2), .val (.int 3), .val (.ref r337), .val (.int 2)] []) _
    refine XS.aloadN X352.here hx rfl (hb hby d13_14) rfl rfl ?_
    show own_S p e below T352 (mkF m 15 #[.val (.ref a0), .val (.int 2), .val (.int 3), .val (.ref r337), .val (.int 2)] [(.ref r337)]) _
    refine XS.iload X352.here hx rfl (hb hby d13_15) rfl ?_
    show own_S p e below T352 (mkF m 17 #[.val (.ref a0), .val (.int 2), .val (.int 3), .val (.ref r337), .val (.int 2)] [.int 2, (.ref r337)]) _
    refine XS.aloadN X352.here hx rfl (hb hby d13_17) rfl rfl ?_
    show own_S p e below T352 (mkF m 18 #[.val (.ref a0), .val (.int 2), .val (.int 3), .val (.ref r337), .val (.int 2)] [(.ref a0), .int 2, (.ref r337)]) _
    refine XS.iloadN X352.here hx rfl (hb hby d13_18) rfl ?_
    show own_S p e below T352 (mkF m 19 #[.val (.ref a0), .val (.int 2), .val (.int 3), .val (.ref r337), .val (.int 2)] [.int 2, (.ref a0), .int 2, (.ref r337)]) _
    refine ld357 _ ?_
    exact kt
  obtain ⟨_, _, ⟨T359, L359, k359, n359⟩, -, X359, ⟨Lc359, hQ359, l359, y359, z359⟩, st359⟩ := Jvm.LawKit.callS X352 hx (y := (⟨"java/lang/StringUTF16", "putChar", "([BII)V"⟩ : MethodName)) hown (mvT hZ (hw _ (List.mem_of_getElem? (i := 67) rfl))) (mvT hZ (hw _ (List.mem_of_getElem? (i := 68) rfl))) (mvT hZ (hw _ (List.mem_of_getElem? (i := 27) rfl))) (mvT hZ (hw _ (List.mem_of_getElem? (i := 69) rfl))) (by decide) (backOf (W := 0) (rm16 l Z ag hw [] r337 (2 : Int32) c2 kr337 (6 : Int32) [(.int (nar .byte ((c0 >>> ((0 : Int32) &&& 31)).toInt8.toInt32))), (.int (nar .byte ((c0 >>> ((8 : Int32) &&& 31)).toInt8.toInt32))), (.int (nar .byte ((c1 >>> ((0 : Int32) &&& 31)).toInt8.toInt32))), (.int (nar .byte ((c1 >>> ((8 : Int32) &&& 31)).toInt8.toInt32))), (.int (0 : Int32)), (.int (0 : Int32))] T352.heap n0 sz355 Vb352 ge_r337 (by decide) (by decide) (Nat.le_of_ble_eq_true rfl) (Nat.le_of_ble_eq_true rfl) x354 S_ad S_hi S_lo) hZ (hw _ (List.mem_of_getElem? (i := 69) rfl)) (hw _ (List.mem_of_getElem? (i := 27) rfl)) (by decide) (by decide)) (g := (mkF m 20 #[.val (.ref a0), .val (.int 2), .val (.int 3), .val (.ref r337), .val (.int 2)] [(.int c2), .int 2, (.ref r337)])) rfl (by rw [hml]; rfl) (argsL := [(.ref r337), (.int (2 : Int32)), (.int c2)]) (rest := []) (lenOf pd_18 rfl) rfl (by show 2 * 0 + _ ≤ _; exact Nat.le_of_eq rfl) (hb hby d13_20) (fun _ _ => ⟨rfl, rfl, (by decide : 1 + 0 ≤ _), (by decide : 8 + 0 ≤ _)⟩)
  dsimp only [Pt.U, Pt.locs, Pt.cells, Pt.slots] at X359 l359 y359 z359 st359 hQ359
  subst l359 y359 z359
  obtain ⟨rfl, N359q, K359, Vb359⟩ := hQ359
  have N359 := Fr.app N352 N359q
  have Vb359 : Arv Z T359.heap r337 kr337 .byte (6 : Int32) [(.int (nar .byte ((c0 >>> ((0 : Int32) &&& 31)).toInt8.toInt32))), (.int (nar .byte ((c0 >>> ((8 : Int32) &&& 31)).toInt8.toInt32))), (.int (nar .byte ((c1 >>> ((0 : Int32) &&& 31)).toInt8.toInt32))), (.int (nar .byte ((c1 >>> ((8 : Int32) &&& 31)).toInt8.toInt32))), (.int (nar .byte ((c2 >>> ((0 : Int32) &&& 31)).toInt8.toInt32))), (.int (nar .byte ((c2 >>> ((8 : Int32) &&& 31)).toInt8.toInt32)))] (.int (0 : Int32)) := Vb359
  have x360 := x353.keep K359 (ninS ne338 nin0)
  have x361 := x354.keep K359 (allS ge_r337 all0)
  have sz362 : n0 ≤ T359.heap.size := Nat.le_trans sz355 K359.1
  have kp363 : Keep h0 T359.heap [] := kp356.trans K359 (allS (Or.inr gs_r337) all0)
  obtain ⟨fs, hr, hrun, hended, hW, hsame⟩ := X359.leave (v := some (.ref r337)) (fun h => by rw [Bd.returns] at h; cases h)
  refine ⟨_, _, pre0 _ ?_, hrun, hended, _, _, rfl, ?_, ⟨_, rfl⟩, hW, hsame.mono (by decide) (by decide)⟩
  · show own_S p e below s₁ (mkF m 0 #[.val (.ref a0), .val (.int 0), .val (.int 3), .unset, .unset] []) _
    refine cp358 _ ?_
    show own_S p e below T352 (mkF m 20 #[.val (.ref a0), .val (.int 2), .val (.int 3), .val (.ref r337), .val (.int 2)] [(.int c2), .int 2, (.ref r337)]) _
    refine st359 _ ?_
    show own_S p e below T359 (mkF m 23 #[.val (.ref a0), .val (.int 2), .val (.int 3), .val (.ref r337), .val (.int 2)] []) _
    refine XS.iinc X359.here hx rfl (hb hby d13_23) rfl (l' := #[.val (.ref a0), .val (.int 3), .val (.int 3), .val (.ref r337), .val (.int 2)]) rfl ?_
    show own_S p e below T359 (mkF m 26 #[.val (.ref a0), .val (.int 3), .val (.int 3), .val (.ref r337), .val (.int 2)] []) _
    refine XS.iinc X359.here hx rfl (hb hby d13_26) rfl (l' := #[.val (.ref a0), .val (.int 3), .val (.int 3), .val (.ref r337), .val (.int 3)]) rfl ?_
    show own_S p e below T359 (mkF m 29 #[.val (.ref a0), .val (.int 3), .val (.int 3), .val (.ref r337), .val (.int 3)] []) _
    refine XS.goto X359.here hx rfl (pc0 := 29) (pc' := 8) rfl (hb hby d13_29) (by decide) (by decide) ?_
    show own_S p e below T359 (mkF m 8 #[.val (.ref a0), .val (.int 3), .val (.int 3), .val (.ref r337), .val (.int 3)] []) _
    refine XS.iload X359.here hx rfl (hb hby d13_8) rfl ?_
    show own_S p e below T359 (mkF m 10 #[.val (.ref a0), .val (.int 3), .val (.int 3), .val (.ref r337), .val (.int 3)] [.int 3]) _
    refine XS.iloadN X359.here hx rfl (hb hby d13_10) rfl ?_
    show own_S p e below T359 (mkF m 11 #[.val (.ref a0), .val (.int 3), .val (.int 3), .val (.ref r337), .val (.int 3)] [.int 3, .int 3]) _
    refine XS.icmpYes X359.here hx rfl (pc0 := 11) (pc' := 32) rfl (hb hby d13_11) rfl (flt (by decide : ¬ ((3 : Int32) < (3 : Int32)))).2.1 (by decide) (by decide) ?_
    show own_S p e below T359 (mkF m 32 #[.val (.ref a0), .val (.int 3), .val (.int 3), .val (.ref r337), .val (.int 3)] []) _
    refine XS.aloadN X359.here hx rfl (hb hby d13_32) rfl rfl ?_
    show own_S p e below T359 (mkF m 33 #[.val (.ref a0), .val (.int 3), .val (.int 3), .val (.ref r337), .val (.int 3)] [(.ref r337)]) _
    exact Jvm.RoadKit.retOut X359 hx Bd.returns rfl (Or.inr (Or.inr (Or.inr (Or.inr ⟨rfl, rfl, rfl⟩)))) (hb hby d13_33) hr
  · show Q13_s3 Z a0 kc c0 c1 c2 h0 n0 _ T359.heap _
    exact ⟨r337, kr337, rfl, N359, kp363, ge_r337, gs_r337, Vb359⟩
theorem ef_8_v0v03 (m : MethodId) (a0 : Addr) (a2 : Addr) : entryFrame m #[(.ref a0), (.int (0 : Int32)), (.ref a2), (.int (0 : Int32)), (.int (3 : Int32))] 7 = mkF m 0 #[.val (.ref a0), .val (.int 0), .val (.ref a2), .val (.int 0), .val (.int 3), .unset, .unset] [] := by first | (simp [entryFrame, mkF, argsToLocals, Value.category]; done) | rfl
abbrev own_loc15 (a0 : Addr) (a2 : Addr) : Array Slot := #[.val (.ref a0), .val (.int 0), .val (.ref a2), .val (.int 0), .val (.int 3), .val (.int 0), .unset]
abbrev own_loc16 (a0 : Addr) (a2 : Addr) (c0 : Int32) : Array Slot := #[.val (.ref a0), .val (.int 0), .val (.ref a2), .val (.int 0), .val (.int 3), .val (.int 0), .val (.int c0)]
abbrev own_loc17 (a0 : Addr) (a2 : Addr) (c0 : Int32) : Array Slot := #[.val (.ref a0), .val (.int 1), .val (.ref a2), .val (.int 0), .val (.int 3), .val (.int 0), .val (.int c0)]
abbrev own_loc18 (a0 : Addr) (a2 : Addr) (c0 : Int32) : Array Slot := #[.val (.ref a0), .val (.int 1), .val (.ref a2), .val (.int 1), .val (.int 3), .val (.int 0), .val (.int c0)]
abbrev own_loc19 (a0 : Addr) (a2 : Addr) (c0 : Int32) : Array Slot := #[.val (.ref a0), .val (.int 1), .val (.ref a2), .val (.int 1), .val (.int 3), .val (.int 1), .val (.int c0)]
abbrev own_loc20 (a0 : Addr) (a2 : Addr) (c1 : Int32) : Array Slot := #[.val (.ref a0), .val (.int 1), .val (.ref a2), .val (.int 1), .val (.int 3), .val (.int 1), .val (.int c1)]
abbrev own_loc21 (a0 : Addr) (a2 : Addr) (c1 : Int32) : Array Slot := #[.val (.ref a0), .val (.int 2), .val (.ref a2), .val (.int 1), .val (.int 3), .val (.int 1), .val (.int c1)]
abbrev own_loc22 (a0 : Addr) (a2 : Addr) (c1 : Int32) : Array Slot := #[.val (.ref a0), .val (.int 2), .val (.ref a2), .val (.int 2), .val (.int 3), .val (.int 1), .val (.int c1)]
abbrev own_loc23 (a0 : Addr) (a2 : Addr) (c1 : Int32) : Array Slot := #[.val (.ref a0), .val (.int 2), .val (.ref a2), .val (.int 2), .val (.int 3), .val (.int 2), .val (.int c1)]
abbrev own_loc24 (a0 : Addr) (a2 : Addr) (c2 : Int32) : Array Slot := #[.val (.ref a0), .val (.int 2), .val (.ref a2), .val (.int 2), .val (.int 3), .val (.int 2), .val (.int c2)]
abbrev own_loc25 (a0 : Addr) (a2 : Addr) (c2 : Int32) : Array Slot := #[.val (.ref a0), .val (.int 3), .val (.ref a2), .val (.int 2), .val (.int 3), .val (.int 2), .val (.int c2)]
abbrev own_loc26 (a0 : Addr) (a2 : Addr) (c2 : Int32) : Array Slot := #[.val (.ref a0), .val (.int 3), .val (.ref a2), .val (.int 3), .val (.int 3), .val (.int 2), .val (.int c2)]
abbrev own_loc27 (a0 : Addr) (a2 : Addr) (c2 : Int32) : Array Slot := #[.val (.ref a0), .val (.int 3), .val (.ref a2), .val (.int 3), .val (.int 3), .val (.int 3), .val (.int c2)]
def Q8_s3 (Z : State) (a0 : Addr) (a2 : Addr) (kc : ClassId) (c0 : Int32) (c1 : Int32) (c2 : Int32) (kb : ClassId) (h0 : Heap) (n0 : Nat) (v : Option Value) (h : Heap) (L : List Loc) : Prop := (v = some (.int (0 : Int32)) ∧ Fr n0 L ∧ Keep h0 h [a2] ∧ (255 : Int32) < c0) ∨ (v = some (.int (1 : Int32)) ∧ Fr n0 L ∧ Keep h0 h [a2] ∧ (255 : Int32) < c1) ∨ (v = some (.int (2 : Int32)) ∧ Fr n0 L ∧ Keep h0 h [a2] ∧ (255 : Int32) < c2) ∨ (v = some (.int (3 : Int32)) ∧ Fr n0 L ∧ Keep h0 h [a2] ∧ Arv Z h a2 kb .byte (3 : Int32) [(.int (nar .byte (c0.toInt8.toInt32))), (.int (nar .byte (c1.toInt8.toInt32))), (.int (nar .byte (c2.toInt8.toInt32)))] (.int (0 : Int32)) ∧ ¬ ((255 : Int32) < c0) ∧ ¬ ((255 : Int32) < c1) ∧ ¬ ((255 : Int32) < c2))
set_option maxRecDepth 65536 in
set_option maxHeartbeats 40000000 in
theorem rm8_s3 (l : Launch) (Z : State) (ag : Array Value) (hw : ∀ d ∈ tables_1, d.before ag Z = true) (ws : List Jvm.Cond) (a0 : Addr) (a2 : Addr) (kc : ClassId) (c0 : Int32) (c1 : Int32) (c2 : Int32) (kb : ClassId) (h0 : Heap) (n0 : Nat) (Z0 : n0 ≤ h0.size) (V_a0 : Arv Z h0 a0 kc .char (3 : Int32) [(.int c0), (.int c1), (.int c2)] (.int (0 : Int32))) (hr_c0 : 0 ≤ c0.toInt ∧ c0.toInt < 65536) (hr_c1 : 0 ≤ c1.toInt ∧ c1.toInt < 65536) (hr_c2 : 0 ≤ c2.toInt ∧ c2.toInt < 65536) (V_a2 : Arv Z h0 a2 kb .byte (3 : Int32) [(.int (0 : Int32)), (.int (0 : Int32)), (.int (0 : Int32))] (.int (0 : Int32))) (ge_a2 : n0 ≤ a2) (ne_a0_a2 : a0 ≠ a2) :
    MetFree l (⟨"java/lang/StringUTF16", "compress", "([CI[BII)I"⟩ : MethodName) (head1 (Jvm.Cond.code (⟨"java/lang/StringUTF16", "compress", "([CI[BII)I"⟩ : MethodName) jdk_52_method_21_code 7 (some .int) :: ws) ({ frames := 0, cells := 0, slots := 0, locals := 0 } : Room)) (fun a U => a = #[(.ref a0), (.int (0 : Int32)), (.ref a2), (.int (0 : Int32)), (.int (3 : Int32))] ∧ Z.Warmed39 U.vm ∧ U.heap = h0) (fun _ _ _ _ _ => True) (fun _ U o U' => ∃ v L, o = .returned v ∧ Q8_s3 Z a0 a2 kc c0 c1 c2 kb h0 n0 v U'.heap L ∧ FrameEnd U o U' L ({ frames := 0, cells := 0, slots := 0, locals := 0 } : Room).cells ({ frames := 0, cells := 0, slots := 0, locals := 0 } : Room).slots) := by
  refine MetFree.of_bodySF (plainFor_of_name pn_5) hisR ?_
  intro p e s m args below meth c s₁ Bd hml0 hP hK
  obtain ⟨rfl, hZ, hh⟩ := hP
  have hx := Bd.exec
  have hby := Bd.bytes
  have hml : c.maxLocals = 7 := hml0
  have hown : s.vm.findClass "java/lang/StringUTF16" = some m.cls := findClass_of_methodNamed Bd.named
  have hnm := (name_of_methodNamed Bd.named Bd.method).1
  have X0 : Stand p l e ({ frames := 0, cells := 0, slots := 0, locals := 0 } : Room) s m #[(.ref a0), (.int (0 : Int32)), (.ref a2), (.int (0 : Int32)), (.int (3 : Int32))] below meth c s₁ [] 0 0 := Stand.of_body Bd
  have e0 : s₁.heap = h0 := by rw [← hh, Bd.state]; rfl
  have N0 := Fr.nil n0
  have pre0 : ∀ t, Steps p.tables e below (s₁.setTop (mkF m 0 #[.val (.ref a0), .val (.int 0), .val (.ref a2), .val (.int 0), .val (.int 3), .unset, .unset] [])) t → Steps p.tables e below (s₁.setTop (entryFrame m #[(.ref a0), (.int (0 : Int32)), (.ref a2), (.int (0 : Int32)), (.int (3 : Int32))] 7)) t := fun t k => castTop (ef_8_v0v03 m a0 a2) k
  obtain ⟨cl364, Ar364, q364, S364, M364, H364, G364⟩ := id V_a0
  have hin364 : ¬ ((0 : Int32) < 0 ∨ cl364.slots.size ≤ ((0 : Int32)).toNatClampNeg) := inb_of S364 ⟨(by decide : ¬ (0 : Int32) < 0), (by decide : (0 : Int32) < (3 : Int32))⟩
  have hat364 : cl364.slots[((0 : Int32)).toNatClampNeg]? = some (.int c0) := Has.at H364 hin364 rfl
  have ld364 := X0.caload hx (j := (0 : Int32)) (v := (.int c0)) (by rw [e0]; exact Ar364.1) (State.isArrayOf_alike hZ.alike Ar364.2.1) Ar364.2.2 hin364 hat364 (g := (mkF m 12 (own_loc15 a0 a2) [.int 0, (.ref a0)])) rfl rfl (hb hby d8_12)
  have cp366 : ∀ target, own_S p e below s₁ (mkF m 20 (own_loc16 a0 a2 c0) [.int 255, (.int c0)]) target → own_S p e below s₁ (mkF m 0 #[.val (.ref a0), .val (.int 0), .val (.ref a2), .val (.int 0), .val (.int 3), .unset, .unset] []) target := by
    intro target kt
    show own_S p e below s₁ (mkF m 0 #[.val (.ref a0), .val (.int 0), .val (.ref a2), .val (.int 0), .val (.int 3), .unset, .unset] []) _
    refine XS.iconst X0.here hx rfl (hb hby d8_0) ?_
    show own_S p e below s₁ (mkF m 1 #[.val (.ref a0), .val (.int 0), .val (.ref a2), .val (.int 0), .val (.int 3), .unset, .unset] [.int 0]) _
    refine XS.istore X0.here hx rfl (hb hby d8_1) rfl (l' := (own_loc15 a0 a2)) rfl ?_
    show own_S p e below s₁ (mkF m 3 (own_loc15 a0 a2) []) _
    refine XS.iload X0.here hx rfl (hb hby d8_3) rfl ?_
    show own_S p e below s₁ (mkF m 5 (own_loc15 a0 a2) [.int 0]) _
    refine XS.iload X0.here hx rfl (hb hby d8_5) rfl ?_
    show own_S p e below s₁ (mkF m 7 (own_loc15 a0 a2) [.int 3, .int 0]) _
    refine XS.icmpNo X0.here hx rfl (hb hby d8_7) rfl (tlt (by decide : (0 : Int32) < (3 : Int32))).2.1 ?_
    show own_S p e below s₁ (mkF m 10 (own_loc15 a0 a2) []) _
    refine XS.aloadN X0.here hx rfl (hb hby d8_10) rfl rfl ?_
    show own_S p e below s₁ (mkF m 11 (own_loc15 a0 a2) [(.ref a0)]) _
    refine XS.iloadN X0.here hx rfl (hb hby d8_11) rfl ?_
    show own_S p e below s₁ (mkF m 12 (own_loc15 a0 a2) [.int 0, (.ref a0)]) _
    refine ld364 _ ?_
    show own_S p e below s₁ (mkF m 13 (own_loc15 a0 a2) [(.int c0)]) _
    refine XS.istore X0.here hx rfl (hb hby d8_13) rfl (l' := (own_loc16 a0 a2 c0)) rfl ?_
    show own_S p e below s₁ (mkF m 15 (own_loc16 a0 a2 c0) []) _
    refine XS.iload X0.here hx rfl (hb hby d8_15) rfl ?_
    show own_S p e below s₁ (mkF m 17 (own_loc16 a0 a2 c0) [(.int c0)]) _
    refine XS.sipush X0.here hx rfl (hb hby d8_17) ?_
    exact kt
  by_cases hc365 : (255 : Int32) < c0
  · obtain ⟨fs, hr, hrun, hended, hW, hsame⟩ := X0.leave (v := some (.int (0 : Int32))) (fun h => by rw [Bd.returns] at h; cases h)
    refine ⟨_, _, pre0 _ ?_, hrun, hended, _, _, rfl, ?_, ⟨_, rfl⟩, hW, hsame.mono (by decide) (by decide)⟩
    · show own_S p e below s₁ (mkF m 0 #[.val (.ref a0), .val (.int 0), .val (.ref a2), .val (.int 0), .val (.int 3), .unset, .unset] []) _
      refine cp366 _ ?_
      show own_S p e below s₁ (mkF m 20 (own_loc16 a0 a2 c0) [.int 255, (.int c0)]) _
      refine XS.icmpNo X0.here hx rfl (hb hby d8_20) rfl (tlt hc365).2.2.2 ?_
      show own_S p e below s₁ (mkF m 23 (own_loc16 a0 a2 c0) []) _
      refine XS.iload X0.here hx rfl (hb hby d8_23) rfl ?_
      show own_S p e below s₁ (mkF m 25 (own_loc16 a0 a2 c0) [.int 0]) _
      exact retI X0 hx Bd.returns (hb hby d8_25) hr
    · show Q8_s3 Z a0 a2 kc c0 c1 c2 kb h0 n0 _ s₁.heap _
      rw [e0]
      exact Or.inl ⟨rfl, N0, (Keep.refl h0 [a2]), hc365⟩
  · obtain ⟨cl367, Ar367, q367, S367, M367, H367, G367⟩ := id V_a2
    have hin367 : ¬ ((0 : Int32) < 0 ∨ cl367.slots.size ≤ ((0 : Int32)).toNatClampNeg) := inb_of S367 ⟨(by decide : ¬ (0 : Int32) < 0), (by decide : (0 : Int32) < (3 : Int32))⟩
    obtain ⟨T367, h367, X367, e367, W367, st367⟩ := stB X0 hx hZ e0 Ar367 (j := (0 : Int32)) hin367 (g := (mkF m 31 (own_loc16 a0 a2 c0) [(.int (c0.toInt8.toInt32)), .int 0, (.ref a2)])) rfl rfl (hb hby d8_31)
    have V367 : Arv Z h367 a2 kb .byte (3 : Int32) [(.int (nar .byte (c0.toInt8.toInt32))), (.int (0 : Int32)), (.int (0 : Int32))] (.int (0 : Int32)) := Arv.set Ar367 q367 S367 M367 H367 G367 (fits_nar_byte _) W367 0 rfl (Nat.le_of_ble_eq_true rfl)
    have x368 := V_a0.other W367 ne_a0_a2
    have sz369 : n0 ≤ h367.size := Nat.le_trans Z0 (Keep.of_wr W367).1
    have kp370 : Keep h0 h367 [a2] := (Keep.refl h0 [a2]).wr W367 (Or.inl (List.mem_of_getElem? (i := 0) rfl))
    have N367 := Fr.snoc X367 N0 ge_a2
    obtain ⟨cl371, Ar371, q371, S371, M371, H371, G371⟩ := id x368
    have hin371 : ¬ ((1 : Int32) < 0 ∨ cl371.slots.size ≤ ((1 : Int32)).toNatClampNeg) := inb_of S371 ⟨(by decide : ¬ (1 : Int32) < 0), (by decide : (1 : Int32) < (3 : Int32))⟩
    have hat371 : cl371.slots[((1 : Int32)).toNatClampNeg]? = some (.int c1) := Has.at H371 hin371 rfl
    have ld371 := X367.caload hx (j := (1 : Int32)) (v := (.int c1)) (by rw [e367]; exact Ar371.1) (State.isArrayOf_alike hZ.alike Ar371.2.1) Ar371.2.2 hin371 hat371 (g := (mkF m 12 (own_loc19 a0 a2 c0) [.int 1, (.ref a0)])) rfl rfl (hb hby d8_12)
    have cp373 : ∀ target, own_S p e below T367 (mkF m 20 (own_loc20 a0 a2 c1) [.int 255, (.int c1)]) target → own_S p e below s₁ (mkF m 0 #[.val (.ref a0), .val (.int 0), .val (.ref a2), .val (.int 0), .val (.int 3), .unset, .unset] []) target := by
      intro target kt
      show own_S p e below s₁ (mkF m 0 #[.val (.ref a0), .val (.int 0), .val (.ref a2), .val (.int 0), .val (.int 3), .unset, .unset] []) _
      refine cp366 _ ?_
      show own_S p e below s₁ (mkF m 20 (own_loc16 a0 a2 c0) [.int 255, (.int c0)]) _
      refine XS.icmpYes X0.here hx rfl (pc0 := 20) (pc' := 26) rfl (hb hby d8_20) rfl (flt hc365).2.2.2 (by decide) (by decide) ?_
      show own_S p e below s₁ (mkF m 26 (own_loc16 a0 a2 c0) []) _
      refine XS.aloadN X0.here hx rfl (hb hby d8_26) rfl rfl ?_
      show own_S p e below s₁ (mkF m 27 (own_loc16 a0 a2 c0) [(.ref a2)]) _
      refine XS.iloadN X0.here hx rfl (hb hby d8_27) rfl ?_
      show own_S p e below s₁ (mkF m 28 (own_loc16 a0 a2 c0) [.int 0, (.ref a2)]) _
      refine XS.iload X0.here hx rfl (hb hby d8_28) rfl ?_
      show own_S p e below s₁ (mkF m 30 (own_loc16 a0 a2 c0) [(.int c0), .int 0, (.ref a2)]) _
      refine XS.i2b X0.here hx rfl (hb hby d8_30) rfl ?_
      show own_S p e below s₁ (mkF m 31 (own_loc16 a0 a2 c0) [(.int (c0.toInt8.toInt32)), .int 0, (.ref a2)]) _
      refine st367 _ ?_
      show own_S p e below T367 (mkF m 32 (own_loc16 a0 a2 c0) []) _
      refine XS.iinc X367.here hx rfl (hb hby d8_32) rfl (l' := (own_loc17 a0 a2 c0)) rfl ?_
      show own_S p e below T367 (mkF m 35 (own_loc17 a0 a2 c0) []) _
      refine XS.iinc X367.here hx rfl (hb hby d8_35) rfl (l' := (own_loc18 a0 a2 c0)) rfl ?_
      show own_S p e below T367 (mkF m 38 (own_loc18 a0 a2 c0) []) _
      refine XS.iinc X367.here hx rfl (hb hby d8_38) rfl (l' := (own_loc19 a0 a2 c0)) rfl ?_
      show own_S p e below T367 (mkF m 41 (own_loc19 a0 a2 c0) []) _
      refine XS.goto X367.here hx rfl (pc0 := 41) (pc' := 3) rfl (hb hby d8_41) (by decide) (by decide) ?_
      show own_S p e below T367 (mkF m 3 (own_loc19 a0 a2 c0) []) _
      refine XS.iload X367.here hx rfl (hb hby d8_3) rfl ?_
      show own_S p e below T367 (mkF m 5 (own_loc19 a0 a2 c0) [.int 1]) _
      refine XS.iload X367.here hx rfl (hb hby d8_5) rfl ?_
      show own_S p e below T367 (mkF m 7 (own_loc19 a0 a2 c0) [.int 3, .int 1]) _
      refine XS.icmpNo X367.here hx rfl (hb hby d8_7) rfl (tlt (by decide : (1 : Int32) < (3 : Int32))).2.1 ?_
      show own_S p e below T367 (mkF m 10 (own_loc19 a0 a2 c0) []) _
      refine XS.aloadN X367.here hx rfl (hb hby d8_10) rfl rfl ?_
      show own_S p e below T367 (mkF m 11 (own_loc19 a0 a2 c0) [(.ref a0)]) _
      refine XS.iloadN X367.here hx rfl (hb hby d8_11) rfl ?_
      show own_S p e below T367 (mkF m 12 (own_loc19 a0 a2 c0) [.int 1, (.ref a0)]) _
      refine ld371 _ ?_
      show own_S p e below T367 (mkF m 13 (own_loc19 a0 a2 c0) [(.int c1)]) _
      refine XS.istore X367.here hx rfl (hb hby d8_13) rfl (l' := (own_loc20 a0 a2 c1)) rfl ?_
      show own_S p e below T367 (mkF m 15 (own_loc20 a0 a2 c1) []) _
      refine XS.iload X367.here hx rfl (hb hby d8_15) rfl ?_
      show own_S p e below T367 (mkF m 17 (own_loc20 a0 a2 c1) [(.int c1)]) _
      refine XS.sipush X367.here hx rfl (hb hby d8_17) ?_
      exact kt
    by_cases hc372 : (255 : Int32) < c1
    · obtain ⟨fs, hr, hrun, hended, hW, hsame⟩ := X367.leave (v := some (.int (1 : Int32))) (fun h => by rw [Bd.returns] at h; cases h)
      refine ⟨_, _, pre0 _ ?_, hrun, hended, _, _, rfl, ?_, ⟨_, rfl⟩, hW, hsame.mono (by decide) (by decide)⟩
      · show own_S p e below s₁ (mkF m 0 #[.val (.ref a0), .val (.int 0), .val (.ref a2), .val (.int 0), .val (.int 3), .unset, .unset] []) _
        refine cp373 _ ?_
        show own_S p e below T367 (mkF m 20 (own_loc20 a0 a2 c1) [.int 255, (.int c1)]) _
        refine XS.icmpNo X367.here hx rfl (hb hby d8_20) rfl (tlt hc372).2.2.2 ?_
        show own_S p e below T367 (mkF m 23 (own_loc20 a0 a2 c1) []) _
        refine XS.iload X367.here hx rfl (hb hby d8_23) rfl ?_
        show own_S p e below T367 (mkF m 25 (own_loc20 a0 a2 c1) [.int 1]) _
        exact retI X367 hx Bd.returns (hb hby d8_25) hr
      · show Q8_s3 Z a0 a2 kc c0 c1 c2 kb h0 n0 _ T367.heap _
        rw [e367]
        exact Or.inr (Or.inl ⟨rfl, N367, kp370, hc372⟩)
    · obtain ⟨cl374, Ar374, q374, S374, M374, H374, G374⟩ := id V367
      have hin374 : ¬ ((1 : Int32) < 0 ∨ cl374.slots.size ≤ ((1 : Int32)).toNatClampNeg) := inb_of S374 ⟨(by decide : ¬ (1 : Int32) < 0), (by decide : (1 : Int32) < (3 : Int32))⟩
      obtain ⟨T374, h374, X374, e374, W374, st374⟩ := stB X367 hx hZ e367 Ar374 (j := (1 : Int32)) hin374 (g := (mkF m 31 (own_loc20 a0 a2 c1) [(.int (c1.toInt8.toInt32)), .int 1, (.ref a2)])) rfl rfl (hb hby d8_31)
      have V374 : Arv Z h374 a2 kb .byte (3 : Int32) [(.int (nar .byte (c0.toInt8.toInt32))), (.int (nar .byte (c1.toInt8.toInt32))), (.int (0 : Int32))] (.int (0 : Int32)) := Arv.set Ar374 q374 S374 M374 H374 G374 (fits_nar_byte _) W374 1 rfl (Nat.le_of_ble_eq_true rfl)
      have x375 := x368.other W374 ne_a0_a2
      have sz376 : n0 ≤ h374.size := Nat.le_trans sz369 (Keep.of_wr W374).1
      have kp377 : Keep h0 h374 [a2] := kp370.wr W374 (Or.inl (List.mem_of_getElem? (i := 0) rfl))
      have N374 := Fr.snoc X374 N367 ge_a2
      obtain ⟨cl378, Ar378, q378, S378, M378, H378, G378⟩ := id x375
      have hin378 : ¬ ((2 : Int32) < 0 ∨ cl378.slots.size ≤ ((2 : Int32)).toNatClampNeg) := inb_of S378 ⟨(by decide : ¬ (2 : Int32) < 0), (by decide : (2 : Int32) < (3 : Int32))⟩
      have hat378 : cl378.slots[((2 : Int32)).toNatClampNeg]? = some (.int c2) := Has.at H378 hin378 rfl
      have ld378 := X374.caload hx (j := (2 : Int32)) (v := (.int c2)) (by rw [e374]; exact Ar378.1) (State.isArrayOf_alike hZ.alike Ar378.2.1) Ar378.2.2 hin378 hat378 (g := (mkF m 12 (own_loc23 a0 a2 c1) [.int 2, (.ref a0)])) rfl rfl (hb hby d8_12)
      have cp380 : ∀ target, own_S p e below T374 (mkF m 20 (own_loc24 a0 a2 c2) [.int 255, (.int c2)]) target → own_S p e below s₁ (mkF m 0 #[.val (.ref a0), .val (.int 0), .val (.ref a2), .val (.int 0), .val (.int 3), .unset, .unset] []) target := by
        intro target kt
        show own_S p e below s₁ (mkF m 0 #[.val (.ref a0), .val (.int 0), .val (.ref a2), .val (.int 0), .val (.int 3), .unset, .unset] []) _
        refine cp373 _ ?_
        show own_S p e below T367 (mkF m 20 (own_loc20 a0 a2 c1) [.int 255, (.int c1)]) _
        refine XS.icmpYes X367.here hx rfl (pc0 := 20) (pc' := 26) rfl (hb hby d8_20) rfl (flt hc372).2.2.2 (by decide) (by decide) ?_
        show own_S p e below T367 (mkF m 26 (own_loc20 a0 a2 c1) []) _
        refine XS.aloadN X367.here hx rfl (hb hby d8_26) rfl rfl ?_
        show own_S p e below T367 (mkF m 27 (own_loc20 a0 a2 c1) [(.ref a2)]) _
        refine XS.iloadN X367.here hx rfl (hb hby d8_27) rfl ?_
        show own_S p e below T367 (mkF m 28 (own_loc20 a0 a2 c1) [.int 1, (.ref a2)]) _
        refine XS.iload X367.here hx rfl (hb hby d8_28) rfl ?_
        show own_S p e below T367 (mkF m 30 (own_loc20 a0 a2 c1) [(.int c1), .int 1, (.ref a2)]) _
        refine XS.i2b X367.here hx rfl (hb hby d8_30) rfl ?_
        show own_S p e below T367 (mkF m 31 (own_loc20 a0 a2 c1) [(.int (c1.toInt8.toInt32)), .int 1, (.ref a2)]) _
        refine st374 _ ?_
        show own_S p e below T374 (mkF m 32 (own_loc20 a0 a2 c1) []) _
        refine XS.iinc X374.here hx rfl (hb hby d8_32) rfl (l' := (own_loc21 a0 a2 c1)) rfl ?_
        show own_S p e below T374 (mkF m 35 (own_loc21 a0 a2 c1) []) _
        refine XS.iinc X374.here hx rfl (hb hby d8_35) rfl (l' := (own_loc22 a0 a2 c1)) rfl ?_
        show own_S p e below T374 (mkF m 38 (own_loc22 a0 a2 c1) []) _
        refine XS.iinc X374.here hx rfl (hb hby d8_38) rfl (l' := (own_loc23 a0 a2 c1)) rfl ?_
        show own_S p e below T374 (mkF m 41 (own_loc23 a0 a2 c1) []) _
        refine XS.goto X374.here hx rfl (pc0 := 41) (pc' := 3) rfl (hb hby d8_41) (by decide) (by decide) ?_
        show own_S p e below T374 (mkF m 3 (own_loc23 a0 a2 c1) []) _
        refine XS.iload X374.here hx rfl (hb hby d8_3) rfl ?_
        show own_S p e below T374 (mkF m 5 (own_loc23 a0 a2 c1) [.int 2]) _
        refine XS.iload X374.here hx rfl (hb hby d8_5) rfl ?_
        show own_S p e below T374 (mkF m 7 (own_loc23 a0 a2 c1) [.int 3, .int 2]) _
        refine XS.icmpNo X374.here hx rfl (hb hby d8_7) rfl (tlt (by decide : (2 : Int32) < (3 : Int32))).2.1 ?_
        show own_S p e below T374 (mkF m 10 (own_loc23 a0 a2 c1) []) _
        refine XS.aloadN X374.here hx rfl (hb hby d8_10) rfl rfl ?_
        show own_S p e below T374 (mkF m 11 (own_loc23 a0 a2 c1) [(.ref a0)]) _
        refine XS.iloadN X374.here hx rfl (hb hby d8_11) rfl ?_
        show own_S p e below T374 (mkF m 12 (own_loc23 a0 a2 c1) [.int 2, (.ref a0)]) _
        refine ld378 _ ?_
        show own_S p e below T374 (mkF m 13 (own_loc23 a0 a2 c1) [(.int c2)]) _
        refine XS.istore X374.here hx rfl (hb hby d8_13) rfl (l' := (own_loc24 a0 a2 c2)) rfl ?_
        show own_S p e below T374 (mkF m 15 (own_loc24 a0 a2 c2) []) _
        refine XS.iload X374.here hx rfl (hb hby d8_15) rfl ?_
        show own_S p e below T374 (mkF m 17 (own_loc24 a0 a2 c2) [(.int c2)]) _
        refine XS.sipush X374.here hx rfl (hb hby d8_17) ?_
        exact kt
      by_cases hc379 : (255 : Int32) < c2
      · obtain ⟨fs, hr, hrun, hended, hW, hsame⟩ := X374.leave (v := some (.int (2 : Int32))) (fun h => by rw [Bd.returns] at h; cases h)
        refine ⟨_, _, pre0 _ ?_, hrun, hended, _, _, rfl, ?_, ⟨_, rfl⟩, hW, hsame.mono (by decide) (by decide)⟩
        · show own_S p e below s₁ (mkF m 0 #[.val (.ref a0), .val (.int 0), .val (.ref a2), .val (.int 0), .val (.int 3), .unset, .unset] []) _
          refine cp380 _ ?_
          show own_S p e below T374 (mkF m 20 (own_loc24 a0 a2 c2) [.int 255, (.int c2)]) _
          refine XS.icmpNo X374.here hx rfl (hb hby d8_20) rfl (tlt hc379).2.2.2 ?_
          show own_S p e below T374 (mkF m 23 (own_loc24 a0 a2 c2) []) _
          refine XS.iload X374.here hx rfl (hb hby d8_23) rfl ?_
          show own_S p e below T374 (mkF m 25 (own_loc24 a0 a2 c2) [.int 2]) _
          exact retI X374 hx Bd.returns (hb hby d8_25) hr
        · show Q8_s3 Z a0 a2 kc c0 c1 c2 kb h0 n0 _ T374.heap _
          rw [e374]
          exact Or.inr (Or.inr (Or.inl ⟨rfl, N374, kp377, hc379⟩))
      · obtain ⟨cl381, Ar381, q381, S381, M381, H381, G381⟩ := id V374
        have hin381 : ¬ ((2 : Int32) < 0 ∨ cl381.slots.size ≤ ((2 : Int32)).toNatClampNeg) := inb_of S381 ⟨(by decide : ¬ (2 : Int32) < 0), (by decide : (2 : Int32) < (3 : Int32))⟩
        obtain ⟨T381, h381, X381, e381, W381, st381⟩ := stB X374 hx hZ e374 Ar381 (j := (2 : Int32)) hin381 (g := (mkF m 31 (own_loc24 a0 a2 c2) [(.int (c2.toInt8.toInt32)), .int 2, (.ref a2)])) rfl rfl (hb hby d8_31)
        have V381 : Arv Z h381 a2 kb .byte (3 : Int32) [(.int (nar .byte (c0.toInt8.toInt32))), (.int (nar .byte (c1.toInt8.toInt32))), (.int (nar .byte (c2.toInt8.toInt32)))] (.int (0 : Int32)) := Arv.set Ar381 q381 S381 M381 H381 G381 (fits_nar_byte _) W381 2 rfl (Nat.le_of_ble_eq_true rfl)
        have x382 := x375.other W381 ne_a0_a2
        have sz383 : n0 ≤ h381.size := Nat.le_trans sz376 (Keep.of_wr W381).1
        have kp384 : Keep h0 h381 [a2] := kp377.wr W381 (Or.inl (List.mem_of_getElem? (i := 0) rfl))
        have N381 := Fr.snoc X381 N374 ge_a2
        obtain ⟨fs, hr, hrun, hended, hW, hsame⟩ := X381.leave (v := some (.int (3 : Int32))) (fun h => by rw [Bd.returns] at h; cases h)
        refine ⟨_, _, pre0 _ ?_, hrun, hended, _, _, rfl, ?_, ⟨_, rfl⟩, hW, hsame.mono (by decide) (by decide)⟩
        · show own_S p e below s₁ (mkF m 0 #[.val (.ref a0), .val (.int 0), .val (.ref a2), .val (.int 0), .val (.int 3), .unset, .unset] []) _
          refine cp380 _ ?_
          show own_S p e below T374 (mkF m 20 (own_loc24 a0 a2 c2) [.int 255, (.int c2)]) _
          refine XS.icmpYes X374.here hx rfl (pc0 := 20) (pc' := 26) rfl (hb hby d8_20) rfl (flt hc379).2.2.2 (by decide) (by decide) ?_
          show own_S p e below T374 (mkF m 26 (own_loc24 a0 a2 c2) []) _
          refine XS.aloadN X374.here hx rfl (hb hby d8_26) rfl rfl ?_
          show own_S p e below T374 (mkF m 27 (own_loc24 a0 a2 c2) [(.ref a2)]) _
          refine XS.iloadN X374.here hx rfl (hb hby d8_27) rfl ?_
          show own_S p e below T374 (mkF m 28 (own_loc24 a0 a2 c2) [.int 2, (.ref a2)]) _
          refine XS.iload X374.here hx rfl (hb hby d8_28) rfl ?_
          show own_S p e below T374 (mkF m 30 (own_loc24 a0 a2 c2) [(.int c2), .int 2, (.ref a2)]) _
          refine XS.i2b X374.here hx rfl (hb hby d8_30) rfl ?_
          show own_S p e below T374 (mkF m 31 (own_loc24 a0 a2 c2) [(.int (c2.toInt8.toInt32)), .int 2, (.ref a2)]) _
          refine st381 _ ?_
          show own_S p e below T381 (mkF m 32 (own_loc24 a0 a2 c2) []) _
          refine XS.iinc X381.here hx rfl (hb hby d8_32) rfl (l' := (own_loc25 a0 a2 c2)) rfl ?_
          show own_S p e below T381 (mkF m 35 (own_loc25 a0 a2 c2) []) _
          refine XS.iinc X381.here hx rfl (hb hby d8_35) rfl (l' := (own_loc26 a0 a2 c2)) rfl ?_
          show own_S p e below T381 (mkF m 38 (own_loc26 a0 a2 c2) []) _
          refine XS.iinc X381.here hx rfl (hb hby d8_38) rfl (l' := (own_loc27 a0 a2 c2)) rfl ?_
          show own_S p e below T381 (mkF m 41 (own_loc27 a0 a2 c2) []) _
          refine XS.goto X381.here hx rfl (pc0 := 41) (pc' := 3) rfl (hb hby d8_41) (by decide) (by decide) ?_
          show own_S p e below T381 (mkF m 3 (own_loc27 a0 a2 c2) []) _
          refine XS.iload X381.here hx rfl (hb hby d8_3) rfl ?_
          show own_S p e below T381 (mkF m 5 (own_loc27 a0 a2 c2) [.int 3]) _
          refine XS.iload X381.here hx rfl (hb hby d8_5) rfl ?_
          show own_S p e below T381 (mkF m 7 (own_loc27 a0 a2 c2) [.int 3, .int 3]) _
          refine XS.icmpYes X381.here hx rfl (pc0 := 7) (pc' := 44) rfl (hb hby d8_7) rfl (flt (by decide : ¬ ((3 : Int32) < (3 : Int32)))).2.1 (by decide) (by decide) ?_
          show own_S p e below T381 (mkF m 44 (own_loc27 a0 a2 c2) []) _
          refine XS.iload X381.here hx rfl (hb hby d8_44) rfl ?_
          show own_S p e below T381 (mkF m 46 (own_loc27 a0 a2 c2) [.int 3]) _
          exact retI X381 hx Bd.returns (hb hby d8_46) hr
        · show Q8_s3 Z a0 a2 kc c0 c1 c2 kb h0 n0 _ T381.heap _
          rw [e381]
          exact Or.inr (Or.inr (Or.inr (⟨rfl, N381, kp384, V381, hc365, hc372, hc379⟩)))
theorem ef_7_v03 (m : MethodId) (a0 : Addr) : entryFrame m #[(.ref a0), (.int (0 : Int32)), (.int (3 : Int32))] 6 = mkF m 0 #[.val (.ref a0), .val (.int 0), .val (.int 3), .unset, .unset, .unset] [] := by first | (simp [entryFrame, mkF, argsToLocals, Value.category]; done) | rfl
def Q7_s3 (Z : State) (a0 : Addr) (kc : ClassId) (c0 : Int32) (c1 : Int32) (c2 : Int32) (h0 : Heap) (n0 : Nat) (v : Option Value) (h : Heap) (L : List Loc) : Prop := ∃ (r : Addr) (kb : ClassId) (nb : Int32) (vs : List Value), v = some (.ref r) ∧ Fr n0 L ∧ Keep h0 h [] ∧ n0 ≤ r ∧ h0.size ≤ r ∧ Arv Z h r kb .byte nb vs (.int (0 : Int32)) ∧ ((nb = (3 : Int32) ∧ vs = [(.int (nar .byte (c0.toInt8.toInt32))), (.int (nar .byte (c1.toInt8.toInt32))), (.int (nar .byte (c2.toInt8.toInt32)))] ∧ ¬ ((255 : Int32) < c0) ∧ ¬ ((255 : Int32) < c1) ∧ ¬ ((255 : Int32) < c2)) ∨ (nb = (6 : Int32) ∧ vs = [(.int (nar .byte ((c0 >>> ((0 : Int32) &&& 31)).toInt8.toInt32))), (.int (nar .byte ((c0 >>> ((8 : Int32) &&& 31)).toInt8.toInt32))), (.int (nar .byte ((c1 >>> ((0 : Int32) &&& 31)).toInt8.toInt32))), (.int (nar .byte ((c1 >>> ((8 : Int32) &&& 31)).toInt8.toInt32))), (.int (nar .byte ((c2 >>> ((0 : Int32) &&& 31)).toInt8.toInt32))), (.int (nar .byte ((c2 >>> ((8 : Int32) &&& 31)).toInt8.toInt32)))]))
set_option maxRecDepth 65536 in
set_option maxHeartbeats 40000000 in
theorem rm7_s3 (l : Launch) (Z : State) (ag : Array Value) (hw : ∀ d ∈ tables_1, d.before ag Z = true) (ws : List Jvm.Cond) (a0 : Addr) (kc : ClassId) (c0 : Int32) (c1 : Int32) (c2 : Int32) (h0 : Heap) (n0 : Nat) (Z0 : n0 ≤ h0.size) (V_a0 : Arv Z h0 a0 kc .char (3 : Int32) [(.int c0), (.int c1), (.int c2)] (.int (0 : Int32))) (hr_c0 : 0 ≤ c0.toInt ∧ c0.toInt < 65536) (hr_c1 : 0 ≤ c1.toInt ∧ c1.toInt < 65536) (hr_c2 : 0 ≤ c2.toInt ∧ c2.toInt < 65536) (O_ : Old Z n0 h0) (S_ad : Sta Z Z.heap "java/lang/StringUTF16" "$assertionsDisabled" "Z" (.int (1 : Int32))) (S_hi : Sta Z Z.heap "java/lang/StringUTF16" "HI_BYTE_SHIFT" "I" (.int (0 : Int32))) (S_lo : Sta Z Z.heap "java/lang/StringUTF16" "LO_BYTE_SHIFT" "I" (.int (8 : Int32))) :
    MetFree l (⟨"java/lang/StringUTF16", "compress", "([CII)[B"⟩ : MethodName) (head1 (Jvm.Cond.code (⟨"java/lang/StringUTF16", "compress", "([CII)[B"⟩ : MethodName) jdk_52_method_16_code 6 (some (.array .byte)) :: ws) ({ frames := 3, cells := 2, slots := 11, locals := 40 } : Room)) (fun a U => a = #[(.ref a0), (.int (0 : Int32)), (.int (3 : Int32))] ∧ Z.Warmed39 U.vm ∧ U.heap = h0) (fun _ _ _ _ _ => True) (fun _ U o U' => ∃ v L, o = .returned v ∧ Q7_s3 Z a0 kc c0 c1 c2 h0 n0 v U'.heap L ∧ FrameEnd U o U' L ({ frames := 3, cells := 2, slots := 11, locals := 40 } : Room).cells ({ frames := 3, cells := 2, slots := 11, locals := 40 } : Room).slots) := by
  refine MetFree.of_bodySF (plainFor_of_name pn_5) hisR ?_
  intro p e s m args below meth c s₁ Bd hml0 hP hK
  obtain ⟨rfl, hZ, hh⟩ := hP
  have hx := Bd.exec
  have hby := Bd.bytes
  have hml : c.maxLocals = 6 := hml0
  have hown : s.vm.findClass "java/lang/StringUTF16" = some m.cls := findClass_of_methodNamed Bd.named
  have hnm := (name_of_methodNamed Bd.named Bd.method).1
  have X0 : Stand p l e ({ frames := 3, cells := 2, slots := 11, locals := 40 } : Room) s m #[(.ref a0), (.int (0 : Int32)), (.int (3 : Int32))] below meth c s₁ [] 0 0 := Stand.of_body Bd
  have e0 : s₁.heap = h0 := by rw [← hh, Bd.state]; rfl
  have N0 := Fr.nil n0
  have pre0 : ∀ t, Steps p.tables e below (s₁.setTop (mkF m 0 #[.val (.ref a0), .val (.int 0), .val (.int 3), .unset, .unset, .unset] [])) t → Steps p.tables e below (s₁.setTop (entryFrame m #[(.ref a0), (.int (0 : Int32)), (.int (3 : Int32))] 6)) t := fun t k => castTop (ef_7_v03 m a0) k
  obtain ⟨T385, h385, k385, X385, e385, E385, A385, st385⟩ := newP X0 hx hZ (hw _ (List.mem_of_getElem? (i := 29) rfl)) e0 (g := (mkF m 1 #[.val (.ref a0), .val (.int 0), .val (.int 3), .unset, .unset, .unset] [.int 3])) rfl (hb hby d7_1) rfl (by decide) (cap := 3) (by decide) (by decide) (by decide) (by decide)
  obtain ⟨b385, g385⟩ : ∃ z, z = h0.size := ⟨_, rfl⟩
  have ne386 : a0 ≠ b385 := Nat.ne_of_lt (Nat.lt_of_lt_of_le V_a0.lt (Nat.le_of_eq g385.symm))
  have ge_b385 : n0 ≤ b385 := Nat.le_trans Z0 (Nat.le_of_eq g385.symm)
  have gs_b385 : h0.size ≤ b385 := Nat.le_trans (Keep.refl h0 []).1 (Nat.le_of_eq g385.symm)
  rw [← g385] at A385 st385
  have x387 := V_a0.ext E385
  have x388 := O_.ext E385
  have sz389 : n0 ≤ h385.size := Nat.le_trans Z0 E385.1
  have kp390 : Keep h0 h385 [] := (Keep.refl h0 []).ext E385
  have V385 : Arv Z h385 b385 k385 .byte (3 : Int32) [(.int (0 : Int32)), (.int (0 : Int32)), (.int (0 : Int32))] (.int (0 : Int32)) := (Arv.new A385 (by decide)).pad (pad_rep [] (.int (0 : Int32)) 3)
  obtain ⟨_, _, ⟨T391, L391, k391, n391⟩, -, X391, ⟨Lc391, hQ391, l391, y391, z391⟩, st391⟩ := Jvm.LawKit.callS X385 hx (y := (⟨"java/lang/StringUTF16", "compress", "([CI[BII)I"⟩ : MethodName)) hown (mvT hZ (hw _ (List.mem_of_getElem? (i := 30) rfl))) (mvT hZ (hw _ (List.mem_of_getElem? (i := 31) rfl))) (mvT hZ (hw _ (List.mem_of_getElem? (i := 27) rfl))) (mvT hZ (hw _ (List.mem_of_getElem? (i := 32) rfl))) (by decide) (backOf (W := 0) (rm8_s3 l Z ag hw [] a0 b385 kc c0 c1 c2 k385 h385 n0 sz389 x387 hr_c0 hr_c1 hr_c2 V385 ge_b385 ne386) hZ (hw _ (List.mem_of_getElem? (i := 32) rfl)) (hw _ (List.mem_of_getElem? (i := 27) rfl)) (by decide) (by decide)) (g := (mkF m 9 #[.val (.ref a0), .val (.int 0), .val (.int 3), .val (.ref b385), .unset, .unset] [.int 3, .int 0, (.ref b385), .int 0, (.ref a0)])) rfl (by rw [hml]; rfl) (argsL := [(.ref a0), (.int (0 : Int32)), (.ref b385), (.int (0 : Int32)), (.int (3 : Int32))]) (rest := []) (lenOf pd_22 rfl) rfl (by show 2 * 0 + _ ≤ _; exact Nat.le_of_eq rfl) (hb hby d7_9) (fun _ _ => ⟨rfl, e385, (by decide : 1 + 0 ≤ _), (by decide : 3 + 0 ≤ _)⟩)
  dsimp only [Pt.U, Pt.locs, Pt.cells, Pt.slots] at X391 l391 y391 z391 st391 hQ391
  subst l391 y391 z391
  rcases hQ391 with q391 | q391 | q391 | q391
  · obtain ⟨rfl, N391q, K391, hbig391⟩ := q391
    have N391 := Fr.app N0 N391q
    have x392 := x387.keep K391 (ninS ne386 nin0)
    have x393 := x388.keep K391 (allS ge_b385 all0)
    have sz394 : n0 ≤ T391.heap.size := Nat.le_trans sz389 K391.1
    have kp395 : Keep h0 T391.heap [] := kp390.trans K391 (allS (Or.inr gs_b385) all0)
    have cp396 : ∀ target, own_S p e below T391 (mkF m 23 #[.val (.ref a0), .val (.int 0), .val (.int 3), .val (.ref b385), .val (.int 0), .unset] [.int 3, .int 0, (.ref a0)]) target → own_S p e below s₁ (mkF m 0 #[.val (.ref a0), .val (.int 0), .val (.int 3), .unset, .unset, .unset] []) target := by
      intro target kt
      show own_S p e below s₁ (mkF m 0 #[.val (.ref a0), .val (.int 0), .val (.int 3), .unset, .unset, .unset] []) _
      refine XS.iloadN X0.here hx rfl (hb hby d7_0) rfl ?_
      show own_S p e below s₁ (mkF m 1 #[.val (.ref a0), .val (.int 0), .val (.int 3), .unset, .unset, .unset] [.int 3]) _
      refine st385 _ ?_
      show own_S p e below T385 (mkF m 3 #[.val (.ref a0), .val (.int 0), .val (.int 3), .unset, .unset, .unset] [(.ref b385)]) _
      refine XS.astoreN X385.here hx rfl (hb hby d7_3) rfl rfl (l' := #[.val (.ref a0), .val (.int 0), .val (.int 3), .val (.ref b385), .unset, .unset]) rfl ?_
      show own_S p e below T385 (mkF m 4 #[.val (.ref a0), .val (.int 0), .val (.int 3), .val (.ref b385), .unset, .unset] []) _
      refine XS.aloadN X385.here hx rfl (hb hby d7_4) rfl rfl ?_
      show own_S p e below T385 (mkF m 5 #[.val (.ref a0), .val (.int 0), .val (.int 3), .val (.ref b385), .unset, .unset] [(.ref a0)]) _
      refine XS.iloadN X385.here hx rfl (hb hby d7_5) rfl ?_
      show own_S p e below T385 (mkF m 6 #[.val (.ref a0), .val (.int 0), .val (.int 3), .val (.ref b385), .unset, .unset] [.int 0, (.ref a0)]) _
      refine XS.aloadN X385.here hx rfl (hb hby d7_6) rfl rfl ?_
      show own_S p e below T385 (mkF m 7 #[.val (.ref a0), .val (.int 0), .val (.int 3), .val (.ref b385), .unset, .unset] [(.ref b385), .int 0, (.ref a0)]) _
      refine XS.iconst X385.here hx rfl (hb hby d7_7) ?_
      show own_S p e below T385 (mkF m 8 #[.val (.ref a0), .val (.int 0), .val (.int 3), .val (.ref b385), .unset, .unset] [.int 0, (.ref b385), .int 0, (.ref a0)]) _
      refine XS.iloadN X385.here hx rfl (hb hby d7_8) rfl ?_
      show own_S p e below T385 (mkF m 9 #[.val (.ref a0), .val (.int 0), .val (.int 3), .val (.ref b385), .unset, .unset] [.int 3, .int 0, (.ref b385), .int 0, (.ref a0)]) _
      refine st391 _ ?_
      show own_S p e below T391 (mkF m 12 #[.val (.ref a0), .val (.int 0), .val (.int 3), .val (.ref b385), .unset, .unset] [.int 0]) _
      refine XS.istore X391.here hx rfl (hb hby d7_12) rfl (l' := #[.val (.ref a0), .val (.int 0), .val (.int 3), .val (.ref b385), .val (.int 0), .unset]) rfl ?_
      show own_S p e below T391 (mkF m 14 #[.val (.ref a0), .val (.int 0), .val (.int 3), .val (.ref b385), .val (.int 0), .unset] []) _
      refine XS.iload X391.here hx rfl (hb hby d7_14) rfl ?_
      show own_S p e below T391 (mkF m 16 #[.val (.ref a0), .val (.int 0), .val (.int 3), .val (.ref b385), .val (.int 0), .unset] [.int 0]) _
      refine XS.iloadN X391.here hx rfl (hb hby d7_16) rfl ?_
      show own_S p e below T391 (mkF m 17 #[.val (.ref a0), .val (.int 0), .val (.int 3), .val (.ref b385), .val (.int 0), .unset] [.int 3, .int 0]) _
      refine XS.icmpNo X391.here hx rfl (hb hby d7_17) rfl (feq (by decide : ¬ ((0 : Int32) = (3 : Int32)))).1 ?_
      show own_S p e below T391 (mkF m 20 #[.val (.ref a0), .val (.int 0), .val (.int 3), .val (.ref b385), .val (.int 0), .unset] []) _
      refine XS.aloadN X391.here hx rfl (hb hby d7_20) rfl rfl ?_
      show own_S p e below T391 (mkF m 21 #[.val (.ref a0), .val (.int 0), .val (.int 3), .val (.ref b385), .val (.int 0), .unset] [(.ref a0)]) _
      refine XS.iloadN X391.here hx rfl (hb hby d7_21) rfl ?_
      show own_S p e below T391 (mkF m 22 #[.val (.ref a0), .val (.int 0), .val (.int 3), .val (.ref b385), .val (.int 0), .unset] [.int 0, (.ref a0)]) _
      refine XS.iloadN X391.here hx rfl (hb hby d7_22) rfl ?_
      exact kt
    obtain ⟨_, _, ⟨T397, L397, k397, n397⟩, -, X397, ⟨Lc397, hQ397, l397, y397, z397⟩, st397⟩ := Jvm.LawKit.callS X391 hx (y := (⟨"java/lang/StringUTF16", "toBytes", "([CII)[B"⟩ : MethodName)) hown (mvT hZ (hw _ (List.mem_of_getElem? (i := 57) rfl))) (mvT hZ (hw _ (List.mem_of_getElem? (i := 58) rfl))) (mvT hZ (hw _ (List.mem_of_getElem? (i := 27) rfl))) (mvT hZ (hw _ (List.mem_of_getElem? (i := 59) rfl))) (by decide) (backOf (W := 0) (rm13_s3 l Z ag hw [] a0 kc c0 c1 c2 T391.heap n0 sz394 x392 hr_c0 hr_c1 hr_c2 x393 S_ad S_hi S_lo) hZ (hw _ (List.mem_of_getElem? (i := 59) rfl)) (hw _ (List.mem_of_getElem? (i := 27) rfl)) (by decide) (by decide)) (g := (mkF m 23 #[.val (.ref a0), .val (.int 0), .val (.int 3), .val (.ref b385), .val (.int 0), .unset] [.int 3, .int 0, (.ref a0)])) rfl (by rw [hml]; rfl) (argsL := [(.ref a0), (.int (0 : Int32)), (.int (3 : Int32))]) (rest := []) (lenOf pd_20 rfl) rfl (by show 2 * 0 + _ ≤ _; exact Nat.le_of_eq rfl) (hb hby d7_23) (fun _ _ => ⟨rfl, rfl, (by decide : 1 + 1 ≤ _), (by decide : 3 + 8 ≤ _)⟩)
    dsimp only [Pt.U, Pt.locs, Pt.cells, Pt.slots] at X397 l397 y397 z397 st397 hQ397
    subst l397 y397 z397
    obtain ⟨r397, kr397, rfl, N397q, K397, ge_r397, gq_r397, Vr397⟩ := hQ397
    have N397 := Fr.app N391 N397q
    have ne398 : a0 ≠ r397 := Nat.ne_of_lt (Nat.lt_of_lt_of_le x392.lt gq_r397)
    have gs_r397 : h0.size ≤ r397 := Nat.le_trans kp395.1 gq_r397
    have x399 := x392.keep K397 nin0
    have x400 := x393.keep K397 all0
    have sz401 : n0 ≤ T397.heap.size := Nat.le_trans sz394 K397.1
    have kp402 : Keep h0 T397.heap [] := kp395.trans K397 all0
    obtain ⟨_, _, ⟨T403, L403, k403, n403⟩, -, X403, ⟨Lc403, hQ403, l403, y403, z403⟩, st403⟩ := Jvm.LawKit.callS X397 hx (y := (⟨"java/lang/StringUTF16", "getChar", "([BI)C"⟩ : MethodName)) hown (mvT hZ (hw _ (List.mem_of_getElem? (i := 73) rfl))) (mvT hZ (hw _ (List.mem_of_getElem? (i := 74) rfl))) (mvT hZ (hw _ (List.mem_of_getElem? (i := 27) rfl))) (mvT hZ (hw _ (List.mem_of_getElem? (i := 75) rfl))) (by decide) (backOf (W := 0) (rm17 l Z ag hw [] r397 (0 : Int32) kr397 (6 : Int32) [(.int (nar .byte ((c0 >>> ((0 : Int32) &&& 31)).toInt8.toInt32))), (.int (nar .byte ((c0 >>> ((8 : Int32) &&& 31)).toInt8.toInt32))), (.int (nar .byte ((c1 >>> ((0 : Int32) &&& 31)).toInt8.toInt32))), (.int (nar .byte ((c1 >>> ((8 : Int32) &&& 31)).toInt8.toInt32))), (.int (nar .byte ((c2 >>> ((0 : Int32) &&& 31)).toInt8.toInt32))), (.int (nar .byte ((c2 >>> ((8 : Int32) &&& 31)).toInt8.toInt32)))] (nar .byte ((c0 >>> ((0 : Int32) &&& 31)).toInt8.toInt32)) (nar .byte ((c0 >>> ((8 : Int32) &&& 31)).toInt8.toInt32)) T397.heap n0 sz401 Vr397 (by decide) (by decide) rfl rfl x400 S_ad S_hi S_lo) hZ (hw _ (List.mem_of_getElem? (i := 75) rfl)) (hw _ (List.mem_of_getElem? (i := 27) rfl)) (by decide) (by decide)) (g := (mkF m 32 #[.val (.ref a0), .val (.int 0), .val (.int 3), .val (.ref b385), .val (.int 0), .val (.ref r397)] [.int 0, (.ref r397)])) rfl (by rw [hml]; rfl) (argsL := [(.ref r397), (.int (0 : Int32))]) (rest := []) (lenOf pd_17 rfl) rfl (by show 2 * 0 + _ ≤ _; exact Nat.le_of_eq rfl) (hb hby d7_32) (fun _ _ => ⟨rfl, rfl, (by decide : 2 + 0 ≤ _), (by decide : 11 + 0 ≤ _)⟩)
    dsimp only [Pt.U, Pt.locs, Pt.cells, Pt.slots] at X403 l403 y403 z403 st403 hQ403
    subst l403 y403 z403
    obtain ⟨rfl, N403q, e403⟩ := hQ403
    have N403 := Fr.app N397 N403q
    obtain ⟨fs, hr, hrun, hended, hW, hsame⟩ := X403.leave (v := some (.ref r397)) (fun h => by rw [Bd.returns] at h; cases h)
    refine ⟨_, _, pre0 _ ?_, hrun, hended, _, _, rfl, ?_, ⟨_, rfl⟩, hW, hsame.mono (by decide) (by decide)⟩
    · show own_S p e below s₁ (mkF m 0 #[.val (.ref a0), .val (.int 0), .val (.int 3), .unset, .unset, .unset] []) _
      refine cp396 _ ?_
      show own_S p e below T391 (mkF m 23 #[.val (.ref a0), .val (.int 0), .val (.int 3), .val (.ref b385), .val (.int 0), .unset] [.int 3, .int 0, (.ref a0)]) _
      refine st397 _ ?_
      show own_S p e below T397 (mkF m 26 #[.val (.ref a0), .val (.int 0), .val (.int 3), .val (.ref b385), .val (.int 0), .unset] [(.ref r397)]) _
      refine XS.astore X397.here hx rfl (hb hby d7_26) rfl rfl (l' := #[.val (.ref a0), .val (.int 0), .val (.int 3), .val (.ref b385), .val (.int 0), .val (.ref r397)]) rfl ?_
      show own_S p e below T397 (mkF m 28 #[.val (.ref a0), .val (.int 0), .val (.int 3), .val (.ref b385), .val (.int 0), .val (.ref r397)] []) _
      refine XS.aload X397.here hx rfl (hb hby d7_28) rfl rfl ?_
      show own_S p e below T397 (mkF m 30 #[.val (.ref a0), .val (.int 0), .val (.int 3), .val (.ref b385), .val (.int 0), .val (.ref r397)] [(.ref r397)]) _
      refine XS.iload X397.here hx rfl (hb hby d7_30) rfl ?_
      show own_S p e below T397 (mkF m 32 #[.val (.ref a0), .val (.int 0), .val (.int 3), .val (.ref b385), .val (.int 0), .val (.ref r397)] [.int 0, (.ref r397)]) _
      refine st403 _ ?_
      show own_S p e below T403 (mkF m 35 #[.val (.ref a0), .val (.int 0), .val (.int 3), .val (.ref b385), .val (.int 0), .val (.ref r397)] [(.int (own_gc (nar .byte ((c0 >>> ((0 : Int32) &&& 31)).toInt8.toInt32)) (nar .byte ((c0 >>> ((8 : Int32) &&& 31)).toInt8.toInt32))))]) _
      refine XS.sipush X403.here hx rfl (hb hby d7_35) ?_
      show own_S p e below T403 (mkF m 38 #[.val (.ref a0), .val (.int 0), .val (.int 3), .val (.ref b385), .val (.int 0), .val (.ref r397)] [.int 255, (.int (own_gc (nar .byte ((c0 >>> ((0 : Int32) &&& 31)).toInt8.toInt32)) (nar .byte ((c0 >>> ((8 : Int32) &&& 31)).toInt8.toInt32))))]) _
      refine XS.icmpYes X403.here hx rfl (pc0 := 38) (pc' := 54) rfl (hb hby d7_38) rfl (tlt (show (255 : Int32) < (own_gc (nar .byte ((c0 >>> ((0 : Int32) &&& 31)).toInt8.toInt32)) (nar .byte ((c0 >>> ((8 : Int32) &&& 31)).toInt8.toInt32))) from (by rw [own_gc_back c0 hr_c0]; exact hbig391))).2.2.1 (by decide) (by decide) ?_
      show own_S p e below T403 (mkF m 54 #[.val (.ref a0), .val (.int 0), .val (.int 3), .val (.ref b385), .val (.int 0), .val (.ref r397)] []) _
      refine XS.aload X403.here hx rfl (hb hby d7_54) rfl rfl ?_
      show own_S p e below T403 (mkF m 56 #[.val (.ref a0), .val (.int 0), .val (.int 3), .val (.ref b385), .val (.int 0), .val (.ref r397)] [(.ref r397)]) _
      exact Jvm.RoadKit.retOut X403 hx Bd.returns rfl (Or.inr (Or.inr (Or.inr (Or.inr ⟨rfl, rfl, rfl⟩)))) (hb hby d7_56) hr
    · show Q7_s3 Z a0 kc c0 c1 c2 h0 n0 _ T403.heap _
      rw [e403]
      exact ⟨r397, kr397, (6 : Int32), _, rfl, N403, kp402, ge_r397, gs_r397, Vr397, Or.inr ⟨rfl, rfl⟩⟩
  · obtain ⟨rfl, N391q, K391, hbig391⟩ := q391
    have N391 := Fr.app N0 N391q
    have x404 := x387.keep K391 (ninS ne386 nin0)
    have x405 := x388.keep K391 (allS ge_b385 all0)
    have sz406 : n0 ≤ T391.heap.size := Nat.le_trans sz389 K391.1
    have kp407 : Keep h0 T391.heap [] := kp390.trans K391 (allS (Or.inr gs_b385) all0)
    have cp408 : ∀ target, own_S p e below T391 (mkF m 23 #[.val (.ref a0), .val (.int 0), .val (.int 3), .val (.ref b385), .val (.int 1), .unset] [.int 3, .int 0, (.ref a0)]) target → own_S p e below s₁ (mkF m 0 #[.val (.ref a0), .val (.int 0), .val (.int 3), .unset, .unset, .unset] []) target := by
      intro target kt
      show own_S p e below s₁ (mkF m 0 #[.val (.ref a0), .val (.int 0), .val (.int 3), .unset, .unset, .unset] []) _
      refine XS.iloadN X0.here hx rfl (hb hby d7_0) rfl ?_
      show own_S p e below s₁ (mkF m 1 #[.val (.ref a0), .val (.int 0), .val (.int 3), .unset, .unset, .unset] [.int 3]) _
      refine st385 _ ?_
      show own_S p e below T385 (mkF m 3 #[.val (.ref a0), .val (.int 0), .val (.int 3), .unset, .unset, .unset] [(.ref b385)]) _
      refine XS.astoreN X385.here hx rfl (hb hby d7_3) rfl rfl (l' := #[.val (.ref a0), .val (.int 0), .val (.int 3), .val (.ref b385), .unset, .unset]) rfl ?_
      show own_S p e below T385 (mkF m 4 #[.val (.ref a0), .val (.int 0), .val (.int 3), .val (.ref b385), .unset, .unset] []) _
      refine XS.aloadN X385.here hx rfl (hb hby d7_4) rfl rfl ?_
      show own_S p e below T385 (mkF m 5 #[.val (.ref a0), .val (.int 0), .val (.int 3), .val (.ref b385), .unset, .unset] [(.ref a0)]) _
      refine XS.iloadN X385.here hx rfl (hb hby d7_5) rfl ?_
      show own_S p e below T385 (mkF m 6 #[.val (.ref a0), .val (.int 0), .val (.int 3), .val (.ref b385), .unset, .unset] [.int 0, (.ref a0)]) _
      refine XS.aloadN X385.here hx rfl (hb hby d7_6) rfl rfl ?_
      show own_S p e below T385 (mkF m 7 #[.val (.ref a0), .val (.int 0), .val (.int 3), .val (.ref b385), .unset, .unset] [(.ref b385), .int 0, (.ref a0)]) _
      refine XS.iconst X385.here hx rfl (hb hby d7_7) ?_
      show own_S p e below T385 (mkF m 8 #[.val (.ref a0), .val (.int 0), .val (.int 3), .val (.ref b385), .unset, .unset] [.int 0, (.ref b385), .int 0, (.ref a0)]) _
      refine XS.iloadN X385.here hx rfl (hb hby d7_8) rfl ?_
      show own_S p e below T385 (mkF m 9 #[.val (.ref a0), .val (.int 0), .val (.int 3), .val (.ref b385), .unset, .unset] [.int 3, .int 0, (.ref b385), .int 0, (.ref a0)]) _
      refine st391 _ ?_
      show own_S p e below T391 (mkF m 12 #[.val (.ref a0), .val (.int 0), .val (.int 3), .val (.ref b385), .unset, .unset] [.int 1]) _
      refine XS.istore X391.here hx rfl (hb hby d7_12) rfl (l' := #[.val (.ref a0), .val (.int 0), .val (.int 3), .val (.ref b385), .val (.int 1), .unset]) rfl ?_
      show own_S p e below T391 (mkF m 14 #[.val (.ref a0), .val (.int 0), .val (.int 3), .val (.ref b385), .val (.int 1), .unset] []) _
      refine XS.iload X391.here hx rfl (hb hby d7_14) rfl ?_
      show own_S p e below T391 (mkF m 16 #[.val (.ref a0), .val (.int 0), .val (.int 3), .val (.ref b385), .val (.int 1), .unset] [.int 1]) _
      refine XS.iloadN X391.here hx rfl (hb hby d7_16) rfl ?_
      show own_S p e below T391 (mkF m 17 #[.val (.ref a0), .val (.int 0), .val (.int 3), .val (.ref b385), .val (.int 1), .unset] [.int 3, .int 1]) _
      refine XS.icmpNo X391.here hx rfl (hb hby d7_17) rfl (feq (by decide : ¬ ((1 : Int32) = (3 : Int32)))).1 ?_
      show own_S p e below T391 (mkF m 20 #[.val (.ref a0), .val (.int 0), .val (.int 3), .val (.ref b385), .val (.int 1), .unset] []) _
      refine XS.aloadN X391.here hx rfl (hb hby d7_20) rfl rfl ?_
      show own_S p e below T391 (mkF m 21 #[.val (.ref a0), .val (.int 0), .val (.int 3), .val (.ref b385), .val (.int 1), .unset] [(.ref a0)]) _
      refine XS.iloadN X391.here hx rfl (hb hby d7_21) rfl ?_
      show own_S p e below T391 (mkF m 22 #[.val (.ref a0), .val (.int 0), .val (.int 3), .val (.ref b385), .val (.int 1), .unset] [.int 0, (.ref a0)]) _
      refine XS.iloadN X391.here hx rfl (hb hby d7_22) rfl ?_
      exact kt
    obtain ⟨_, _, ⟨T409, L409, k409, n409⟩, -, X409, ⟨Lc409, hQ409, l409, y409, z409⟩, st409⟩ := Jvm.LawKit.callS X391 hx (y := (⟨"java/lang/StringUTF16", "toBytes", "([CII)[B"⟩ : MethodName)) hown (mvT hZ (hw _ (List.mem_of_getElem? (i := 57) rfl))) (mvT hZ (hw _ (List.mem_of_getElem? (i := 58) rfl))) (mvT hZ (hw _ (List.mem_of_getElem? (i := 27) rfl))) (mvT hZ (hw _ (List.mem_of_getElem? (i := 59) rfl))) (by decide) (backOf (W := 0) (rm13_s3 l Z ag hw [] a0 kc c0 c1 c2 T391.heap n0 sz406 x404 hr_c0 hr_c1 hr_c2 x405 S_ad S_hi S_lo) hZ (hw _ (List.mem_of_getElem? (i := 59) rfl)) (hw _ (List.mem_of_getElem? (i := 27) rfl)) (by decide) (by decide)) (g := (mkF m 23 #[.val (.ref a0), .val (.int 0), .val (.int 3), .val (.ref b385), .val (.int 1), .unset] [.int 3, .int 0, (.ref a0)])) rfl (by rw [hml]; rfl) (argsL := [(.ref a0), (.int (0 : Int32)), (.int (3 : Int32))]) (rest := []) (lenOf pd_20 rfl) rfl (by show 2 * 0 + _ ≤ _; exact Nat.le_of_eq rfl) (hb hby d7_23) (fun _ _ => ⟨rfl, rfl, (by decide : 1 + 1 ≤ _), (by decide : 3 + 8 ≤ _)⟩)
    dsimp only [Pt.U, Pt.locs, Pt.cells, Pt.slots] at X409 l409 y409 z409 st409 hQ409
    subst l409 y409 z409
    obtain ⟨r409, kr409, rfl, N409q, K409, ge_r409, gq_r409, Vr409⟩ := hQ409
    have N409 := Fr.app N391 N409q
    have ne410 : a0 ≠ r409 := Nat.ne_of_lt (Nat.lt_of_lt_of_le x404.lt gq_r409)
    have gs_r409 : h0.size ≤ r409 := Nat.le_trans kp407.1 gq_r409
    have x411 := x404.keep K409 nin0
    have x412 := x405.keep K409 all0
    have sz413 : n0 ≤ T409.heap.size := Nat.le_trans sz406 K409.1
    have kp414 : Keep h0 T409.heap [] := kp407.trans K409 all0
    obtain ⟨_, _, ⟨T415, L415, k415, n415⟩, -, X415, ⟨Lc415, hQ415, l415, y415, z415⟩, st415⟩ := Jvm.LawKit.callS X409 hx (y := (⟨"java/lang/StringUTF16", "getChar", "([BI)C"⟩ : MethodName)) hown (mvT hZ (hw _ (List.mem_of_getElem? (i := 73) rfl))) (mvT hZ (hw _ (List.mem_of_getElem? (i := 74) rfl))) (mvT hZ (hw _ (List.mem_of_getElem? (i := 27) rfl))) (mvT hZ (hw _ (List.mem_of_getElem? (i := 75) rfl))) (by decide) (backOf (W := 0) (rm17 l Z ag hw [] r409 (1 : Int32) kr409 (6 : Int32) [(.int (nar .byte ((c0 >>> ((0 : Int32) &&& 31)).toInt8.toInt32))), (.int (nar .byte ((c0 >>> ((8 : Int32) &&& 31)).toInt8.toInt32))), (.int (nar .byte ((c1 >>> ((0 : Int32) &&& 31)).toInt8.toInt32))), (.int (nar .byte ((c1 >>> ((8 : Int32) &&& 31)).toInt8.toInt32))), (.int (nar .byte ((c2 >>> ((0 : Int32) &&& 31)).toInt8.toInt32))), (.int (nar .byte ((c2 >>> ((8 : Int32) &&& 31)).toInt8.toInt32)))] (nar .byte ((c1 >>> ((0 : Int32) &&& 31)).toInt8.toInt32)) (nar .byte ((c1 >>> ((8 : Int32) &&& 31)).toInt8.toInt32)) T409.heap n0 sz413 Vr409 (by decide) (by decide) rfl rfl x412 S_ad S_hi S_lo) hZ (hw _ (List.mem_of_getElem? (i := 75) rfl)) (hw _ (List.mem_of_getElem? (i := 27) rfl)) (by decide) (by decide)) (g := (mkF m 32 #[.val (.ref a0), .val (.int 0), .val (.int 3), .val (.ref b385), .val (.int 1), .val (.ref r409)] [.int 1, (.ref r409)])) rfl (by rw [hml]; rfl) (argsL := [(.ref r409), (.int (1 : Int32))]) (rest := []) (lenOf pd_17 rfl) rfl (by show 2 * 0 + _ ≤ _; exact Nat.le_of_eq rfl) (hb hby d7_32) (fun _ _ => ⟨rfl, rfl, (by decide : 2 + 0 ≤ _), (by decide : 11 + 0 ≤ _)⟩)
    dsimp only [Pt.U, Pt.locs, Pt.cells, Pt.slots] at X415 l415 y415 z415 st415 hQ415
    subst l415 y415 z415
    obtain ⟨rfl, N415q, e415⟩ := hQ415
    have N415 := Fr.app N409 N415q
    obtain ⟨fs, hr, hrun, hended, hW, hsame⟩ := X415.leave (v := some (.ref r409)) (fun h => by rw [Bd.returns] at h; cases h)
    refine ⟨_, _, pre0 _ ?_, hrun, hended, _, _, rfl, ?_, ⟨_, rfl⟩, hW, hsame.mono (by decide) (by decide)⟩
    · show own_S p e below s₁ (mkF m 0 #[.val (.ref a0), .val (.int 0), .val (.int 3), .unset, .unset, .unset] []) _
      refine cp408 _ ?_
      show own_S p e below T391 (mkF m 23 #[.val (.ref a0), .val (.int 0), .val (.int 3), .val (.ref b385), .val (.int 1), .unset] [.int 3, .int 0, (.ref a0)]) _
      refine st409 _ ?_
      show own_S p e below T409 (mkF m 26 #[.val (.ref a0), .val (.int 0), .val (.int 3), .val (.ref b385), .val (.int 1), .unset] [(.ref r409)]) _
      refine XS.astore X409.here hx rfl (hb hby d7_26) rfl rfl (l' := #[.val (.ref a0), .val (.int 0), .val (.int 3), .val (.ref b385), .val (.int 1), .val (.ref r409)]) rfl ?_
      show own_S p e below T409 (mkF m 28 #[.val (.ref a0), .val (.int 0), .val (.int 3), .val (.ref b385), .val (.int 1), .val (.ref r409)] []) _
      refine XS.aload X409.here hx rfl (hb hby d7_28) rfl rfl ?_
      show own_S p e below T409 (mkF m 30 #[.val (.ref a0), .val (.int 0), .val (.int 3), .val (.ref b385), .val (.int 1), .val (.ref r409)] [(.ref r409)]) _
      refine XS.iload X409.here hx rfl (hb hby d7_30) rfl ?_
      show own_S p e below T409 (mkF m 32 #[.val (.ref a0), .val (.int 0), .val (.int 3), .val (.ref b385), .val (.int 1), .val (.ref r409)] [.int 1, (.ref r409)]) _
      refine st415 _ ?_
      show own_S p e below T415 (mkF m 35 #[.val (.ref a0), .val (.int 0), .val (.int 3), .val (.ref b385), .val (.int 1), .val (.ref r409)] [(.int (own_gc (nar .byte ((c1 >>> ((0 : Int32) &&& 31)).toInt8.toInt32)) (nar .byte ((c1 >>> ((8 : Int32) &&& 31)).toInt8.toInt32))))]) _
      refine XS.sipush X415.here hx rfl (hb hby d7_35) ?_
      show own_S p e below T415 (mkF m 38 #[.val (.ref a0), .val (.int 0), .val (.int 3), .val (.ref b385), .val (.int 1), .val (.ref r409)] [.int 255, (.int (own_gc (nar .byte ((c1 >>> ((0 : Int32) &&& 31)).toInt8.toInt32)) (nar .byte ((c1 >>> ((8 : Int32) &&& 31)).toInt8.toInt32))))]) _
      refine XS.icmpYes X415.here hx rfl (pc0 := 38) (pc' := 54) rfl (hb hby d7_38) rfl (tlt (show (255 : Int32) < (own_gc (nar .byte ((c1 >>> ((0 : Int32) &&& 31)).toInt8.toInt32)) (nar .byte ((c1 >>> ((8 : Int32) &&& 31)).toInt8.toInt32))) from (by rw [own_gc_back c1 hr_c1]; exact hbig391))).2.2.1 (by decide) (by decide) ?_
      show own_S p e below T415 (mkF m 54 #[.val (.ref a0), .val (.int 0), .val (.int 3), .val (.ref b385), .val (.int 1), .val (.ref r409)] []) _
      refine XS.aload X415.here hx rfl (hb hby d7_54) rfl rfl ?_
      show own_S p e below T415 (mkF m 56 #[.val (.ref a0), .val (.int 0), .val (.int 3), .val (.ref b385), .val (.int 1), .val (.ref r409)] [(.ref r409)]) _
      exact Jvm.RoadKit.retOut X415 hx Bd.returns rfl (Or.inr (Or.inr (Or.inr (Or.inr ⟨rfl, rfl, rfl⟩)))) (hb hby d7_56) hr
    · show Q7_s3 Z a0 kc c0 c1 c2 h0 n0 _ T415.heap _
      rw [e415]
      exact ⟨r409, kr409, (6 : Int32), _, rfl, N415, kp414, ge_r409, gs_r409, Vr409, Or.inr ⟨rfl, rfl⟩⟩
  · obtain ⟨rfl, N391q, K391, hbig391⟩ := q391
    have N391 := Fr.app N0 N391q
    have x416 := x387.keep K391 (ninS ne386 nin0)
    have x417 := x388.keep K391 (allS ge_b385 all0)
    have sz418 : n0 ≤ T391.heap.size := Nat.le_trans sz389 K391.1
    have kp419 : Keep h0 T391.heap [] := kp390.trans K391 (allS (Or.inr gs_b385) all0)
    have cp420 : ∀ target, own_S p e below T391 (mkF m 23 #[.val (.ref a0), .val (.int 0), .val (.int 3), .val (.ref b385), .val (.int 2), .unset] [.int 3, .int 0, (.ref a0)]) target → own_S p e below s₁ (mkF m 0 #[.val (.ref a0), .val (.int 0), .val (.int 3), .unset, .unset, .unset] []) target := by
      intro target kt
      show own_S p e below s₁ (mkF m 0 #[.val (.ref a0), .val (.int 0), .val (.int 3), .unset, .unset, .unset] []) _
      refine XS.iloadN X0.here hx rfl (hb hby d7_0) rfl ?_
      show own_S p e below s₁ (mkF m 1 #[.val (.ref a0), .val (.int 0), .val (.int 3), .unset, .unset, .unset] [.int 3]) _
      refine st385 _ ?_
      show own_S p e below T385 (mkF m 3 #[.val (.ref a0), .val (.int 0), .val (.int 3), .unset, .unset, .unset] [(.ref b385)]) _
      refine XS.astoreN X385.here hx rfl (hb hby d7_3) rfl rfl (l' := #[.val (.ref a0), .val (.int 0), .val (.int 3), .val (.ref b385), .unset, .unset]) rfl ?_
      show own_S p e below T385 (mkF m 4 #[.val (.ref a0), .val (.int 0), .val (.int 3), .val (.ref b385), .unset, .unset] []) _
      refine XS.aloadN X385.here hx rfl (hb hby d7_4) rfl rfl ?_
      show own_S p e below T385 (mkF m 5 #[.val (.ref a0), .val (.int 0), .val (.int 3), .val (.ref b385), .unset, .unset] [(.ref a0)]) _
      refine XS.iloadN X385.here hx rfl (hb hby d7_5) rfl ?_
      show own_S p e below T385 (mkF m 6 #[.val (.ref a0), .val (.int 0), .val (.int 3), .val (.ref b385), .unset, .unset] [.int 0, (.ref a0)]) _
      refine XS.aloadN X385.here hx rfl (hb hby d7_6) rfl rfl ?_
      show own_S p e below T385 (mkF m 7 #[.val (.ref a0), .val (.int 0), .val (.int 3), .val (.ref b385), .unset, .unset] [(.ref b385), .int 0, (.ref a0)]) _
      refine XS.iconst X385.here hx rfl (hb hby d7_7) ?_
      show own_S p e below T385 (mkF m 8 #[.val (.ref a0), .val (.int 0), .val (.int 3), .val (.ref b385), .unset, .unset] [.int 0, (.ref b385), .int 0, (.ref a0)]) _
      refine XS.iloadN X385.here hx rfl (hb hby d7_8) rfl ?_
      show own_S p e below T385 (mkF m 9 #[.val (.ref a0), .val (.int 0), .val (.int 3), .val (.ref b385), .unset, .unset] [.int 3, .int 0, (.ref b385), .int 0, (.ref a0)]) _
      refine st391 _ ?_
      show own_S p e below T391 (mkF m 12 #[.val (.ref a0), .val (.int 0), .val (.int 3), .val (.ref b385), .unset, .unset] [.int 2]) _
      refine XS.istore X391.here hx rfl (hb hby d7_12) rfl (l' := #[.val (.ref a0), .val (.int 0), .val (.int 3), .val (.ref b385), .val (.int 2), .unset]) rfl ?_
      show own_S p e below T391 (mkF m 14 #[.val (.ref a0), .val (.int 0), .val (.int 3), .val (.ref b385), .val (.int 2), .unset] []) _
      refine XS.iload X391.here hx rfl (hb hby d7_14) rfl ?_
      show own_S p e below T391 (mkF m 16 #[.val (.ref a0), .val (.int 0), .val (.int 3), .val (.ref b385), .val (.int 2), .unset] [.int 2]) _
      refine XS.iloadN X391.here hx rfl (hb hby d7_16) rfl ?_
      show own_S p e below T391 (mkF m 17 #[.val (.ref a0), .val (.int 0), .val (.int 3), .val (.ref b385), .val (.int 2), .unset] [.int 3, .int 2]) _
      refine XS.icmpNo X391.here hx rfl (hb hby d7_17) rfl (feq (by decide : ¬ ((2 : Int32) = (3 : Int32)))).1 ?_
      show own_S p e below T391 (mkF m 20 #[.val (.ref a0), .val (.int 0), .val (.int 3), .val (.ref b385), .val (.int 2), .unset] []) _
      refine XS.aloadN X391.here hx rfl (hb hby d7_20) rfl rfl ?_
      show own_S p e below T391 (mkF m 21 #[.val (.ref a0), .val (.int 0), .val (.int 3), .val (.ref b385), .val (.int 2), .unset] [(.ref a0)]) _
      refine XS.iloadN X391.here hx rfl (hb hby d7_21) rfl ?_
      show own_S p e below T391 (mkF m 22 #[.val (.ref a0), .val (.int 0), .val (.int 3), .val (.ref b385), .val (.int 2), .unset] [.int 0, (.ref a0)]) _
      refine XS.iloadN X391.here hx rfl (hb hby d7_22) rfl ?_
      exact kt
    obtain ⟨_, _, ⟨T421, L421, k421, n421⟩, -, X421, ⟨Lc421, hQ421, l421, y421, z421⟩, st421⟩ := Jvm.LawKit.callS X391 hx (y := (⟨"java/lang/StringUTF16", "toBytes", "([CII)[B"⟩ : MethodName)) hown (mvT hZ (hw _ (List.mem_of_getElem? (i := 57) rfl))) (mvT hZ (hw _ (List.mem_of_getElem? (i := 58) rfl))) (mvT hZ (hw _ (List.mem_of_getElem? (i := 27) rfl))) (mvT hZ (hw _ (List.mem_of_getElem? (i := 59) rfl))) (by decide) (backOf (W := 0) (rm13_s3 l Z ag hw [] a0 kc c0 c1 c2 T391.heap n0 sz418 x416 hr_c0 hr_c1 hr_c2 x417 S_ad S_hi S_lo) hZ (hw _ (List.mem_of_getElem? (i := 59) rfl)) (hw _ (List.mem_of_getElem? (i := 27) rfl)) (by decide) (by decide)) (g := (mkF m 23 #[.val (.ref a0), .val (.int 0), .val (.int 3), .val (.ref b385), .val (.int 2), .unset] [.int 3, .int 0, (.ref a0)])) rfl (by rw [hml]; rfl) (argsL := [(.ref a0), (.int (0 : Int32)), (.int (3 : Int32))]) (rest := []) (lenOf pd_20 rfl) rfl (by show 2 * 0 + _ ≤ _; exact Nat.le_of_eq rfl) (hb hby d7_23) (fun _ _ => ⟨rfl, rfl, (by decide : 1 + 1 ≤ _), (by decide : 3 + 8 ≤ _)⟩)
    dsimp only [Pt.U, Pt.locs, Pt.cells, Pt.slots] at X421 l421 y421 z421 st421 hQ421
    subst l421 y421 z421
    obtain ⟨r421, kr421, rfl, N421q, K421, ge_r421, gq_r421, Vr421⟩ := hQ421
    have N421 := Fr.app N391 N421q
    have ne422 : a0 ≠ r421 := Nat.ne_of_lt (Nat.lt_of_lt_of_le x416.lt gq_r421)
    have gs_r421 : h0.size ≤ r421 := Nat.le_trans kp419.1 gq_r421
    have x423 := x416.keep K421 nin0
    have x424 := x417.keep K421 all0
    have sz425 : n0 ≤ T421.heap.size := Nat.le_trans sz418 K421.1
    have kp426 : Keep h0 T421.heap [] := kp419.trans K421 all0
    obtain ⟨_, _, ⟨T427, L427, k427, n427⟩, -, X427, ⟨Lc427, hQ427, l427, y427, z427⟩, st427⟩ := Jvm.LawKit.callS X421 hx (y := (⟨"java/lang/StringUTF16", "getChar", "([BI)C"⟩ : MethodName)) hown (mvT hZ (hw _ (List.mem_of_getElem? (i := 73) rfl))) (mvT hZ (hw _ (List.mem_of_getElem? (i := 74) rfl))) (mvT hZ (hw _ (List.mem_of_getElem? (i := 27) rfl))) (mvT hZ (hw _ (List.mem_of_getElem? (i := 75) rfl))) (by decide) (backOf (W := 0) (rm17 l Z ag hw [] r421 (2 : Int32) kr421 (6 : Int32) [(.int (nar .byte ((c0 >>> ((0 : Int32) &&& 31)).toInt8.toInt32))), (.int (nar .byte ((c0 >>> ((8 : Int32) &&& 31)).toInt8.toInt32))), (.int (nar .byte ((c1 >>> ((0 : Int32) &&& 31)).toInt8.toInt32))), (.int (nar .byte ((c1 >>> ((8 : Int32) &&& 31)).toInt8.toInt32))), (.int (nar .byte ((c2 >>> ((0 : Int32) &&& 31)).toInt8.toInt32))), (.int (nar .byte ((c2 >>> ((8 : Int32) &&& 31)).toInt8.toInt32)))] (nar .byte ((c2 >>> ((0 : Int32) &&& 31)).toInt8.toInt32)) (nar .byte ((c2 >>> ((8 : Int32) &&& 31)).toInt8.toInt32)) T421.heap n0 sz425 Vr421 (by decide) (by decide) rfl rfl x424 S_ad S_hi S_lo) hZ (hw _ (List.mem_of_getElem? (i := 75) rfl)) (hw _ (List.mem_of_getElem? (i := 27) rfl)) (by decide) (by decide)) (g := (mkF m 32 #[.val (.ref a0), .val (.int 0), .val (.int 3), .val (.ref b385), .val (.int 2), .val (.ref r421)] [.int 2, (.ref r421)])) rfl (by rw [hml]; rfl) (argsL := [(.ref r421), (.int (2 : Int32))]) (rest := []) (lenOf pd_17 rfl) rfl (by show 2 * 0 + _ ≤ _; exact Nat.le_of_eq rfl) (hb hby d7_32) (fun _ _ => ⟨rfl, rfl, (by decide : 2 + 0 ≤ _), (by decide : 11 + 0 ≤ _)⟩)
    dsimp only [Pt.U, Pt.locs, Pt.cells, Pt.slots] at X427 l427 y427 z427 st427 hQ427
    subst l427 y427 z427
    obtain ⟨rfl, N427q, e427⟩ := hQ427
    have N427 := Fr.app N421 N427q
    obtain ⟨fs, hr, hrun, hended, hW, hsame⟩ := X427.leave (v := some (.ref r421)) (fun h => by rw [Bd.returns] at h; cases h)
    refine ⟨_, _, pre0 _ ?_, hrun, hended, _, _, rfl, ?_, ⟨_, rfl⟩, hW, hsame.mono (by decide) (by decide)⟩
    · show own_S p e below s₁ (mkF m 0 #[.val (.ref a0), .val (.int 0), .val (.int 3), .unset, .unset, .unset] []) _
      refine cp420 _ ?_
      show own_S p e below T391 (mkF m 23 #[.val (.ref a0), .val (.int 0), .val (.int 3), .val (.ref b385), .val (.int 2), .unset] [.int 3, .int 0, (.ref a0)]) _
      refine st421 _ ?_
      show own_S p e below T421 (mkF m 26 #[.val (.ref a0), .val (.int 0), .val (.int 3), .val (.ref b385), .val (.int 2), .unset] [(.ref r421)]) _
      refine XS.astore X421.here hx rfl (hb hby d7_26) rfl rfl (l' := #[.val (.ref a0), .val (.int 0), .val (.int 3), .val (.ref b385), .val (.int 2), .val (.ref r421)]) rfl ?_
      show own_S p e below T421 (mkF m 28 #[.val (.ref a0), .val (.int 0), .val (.int 3), .val (.ref b385), .val (.int 2), .val (.ref r421)] []) _
      refine XS.aload X421.here hx rfl (hb hby d7_28) rfl rfl ?_
      show own_S p e below T421 (mkF m 30 #[.val (.ref a0), .val (.int 0), .val (.int 3), .val (.ref b385), .val (.int 2), .val (.ref r421)] [(.ref r421)]) _
      refine XS.iload X421.here hx rfl (hb hby d7_30) rfl ?_
      show own_S p e below T421 (mkF m 32 #[.val (.ref a0), .val (.int 0), .val (.int 3), .val (.ref b385), .val (.int 2), .val (.ref r421)] [.int 2, (.ref r421)]) _
      refine st427 _ ?_
      show own_S p e below T427 (mkF m 35 #[.val (.ref a0), .val (.int 0), .val (.int 3), .val (.ref b385), .val (.int 2), .val (.ref r421)] [(.int (own_gc (nar .byte ((c2 >>> ((0 : Int32) &&& 31)).toInt8.toInt32)) (nar .byte ((c2 >>> ((8 : Int32) &&& 31)).toInt8.toInt32))))]) _
      refine XS.sipush X427.here hx rfl (hb hby d7_35) ?_
      show own_S p e below T427 (mkF m 38 #[.val (.ref a0), .val (.int 0), .val (.int 3), .val (.ref b385), .val (.int 2), .val (.ref r421)] [.int 255, (.int (own_gc (nar .byte ((c2 >>> ((0 : Int32) &&& 31)).toInt8.toInt32)) (nar .byte ((c2 >>> ((8 : Int32) &&& 31)).toInt8.toInt32))))]) _
      refine XS.icmpYes X427.here hx rfl (pc0 := 38) (pc' := 54) rfl (hb hby d7_38) rfl (tlt (show (255 : Int32) < (own_gc (nar .byte ((c2 >>> ((0 : Int32) &&& 31)).toInt8.toInt32)) (nar .byte ((c2 >>> ((8 : Int32) &&& 31)).toInt8.toInt32))) from (by rw [own_gc_back c2 hr_c2]; exact hbig391))).2.2.1 (by decide) (by decide) ?_
      show own_S p e below T427 (mkF m 54 #[.val (.ref a0), .val (.int 0), .val (.int 3), .val (.ref b385), .val (.int 2), .val (.ref r421)] []) _
      refine XS.aload X427.here hx rfl (hb hby d7_54) rfl rfl ?_
      show own_S p e below T427 (mkF m 56 #[.val (.ref a0), .val (.int 0), .val (.int 3), .val (.ref b385), .val (.int 2), .val (.ref r421)] [(.ref r421)]) _
      exact Jvm.RoadKit.retOut X427 hx Bd.returns rfl (Or.inr (Or.inr (Or.inr (Or.inr ⟨rfl, rfl, rfl⟩)))) (hb hby d7_56) hr
    · show Q7_s3 Z a0 kc c0 c1 c2 h0 n0 _ T427.heap _
      rw [e427]
      exact ⟨r421, kr421, (6 : Int32), _, rfl, N427, kp426, ge_r421, gs_r421, Vr421, Or.inr ⟨rfl, rfl⟩⟩
  · obtain ⟨rfl, N391q, K391, Vb391, hl391_0, hl391_1, hl391_2⟩ := q391
    have N391 := Fr.app N0 N391q
    have x428 := x387.keep K391 (ninS ne386 nin0)
    have x429 := x388.keep K391 (allS ge_b385 all0)
    have sz430 : n0 ≤ T391.heap.size := Nat.le_trans sz389 K391.1
    have kp431 : Keep h0 T391.heap [] := kp390.trans K391 (allS (Or.inr gs_b385) all0)
    obtain ⟨fs, hr, hrun, hended, hW, hsame⟩ := X391.leave (v := some (.ref b385)) (fun h => by rw [Bd.returns] at h; cases h)
    refine ⟨_, _, pre0 _ ?_, hrun, hended, _, _, rfl, ?_, ⟨_, rfl⟩, hW, hsame.mono (by decide) (by decide)⟩
    · show own_S p e below s₁ (mkF m 0 #[.val (.ref a0), .val (.int 0), .val (.int 3), .unset, .unset, .unset] []) _
      refine XS.iloadN X0.here hx rfl (hb hby d7_0) rfl ?_
      show own_S p e below s₁ (mkF m 1 #[.val (.ref a0), .val (.int 0), .val (.int 3), .unset, .unset, .unset] [.int 3]) _
      refine st385 _ ?_
      show own_S p e below T385 (mkF m 3 #[.val (.ref a0), .val (.int 0), .val (.int 3), .unset, .unset, .unset] [(.ref b385)]) _
      refine XS.astoreN X385.here hx rfl (hb hby d7_3) rfl rfl (l' := #[.val (.ref a0), .val (.int 0), .val (.int 3), .val (.ref b385), .unset, .unset]) rfl ?_
      show own_S p e below T385 (mkF m 4 #[.val (.ref a0), .val (.int 0), .val (.int 3), .val (.ref b385), .unset, .unset] []) _
      refine XS.aloadN X385.here hx rfl (hb hby d7_4) rfl rfl ?_
      show own_S p e below T385 (mkF m 5 #[.val (.ref a0), .val (.int 0), .val (.int 3), .val (.ref b385), .unset, .unset] [(.ref a0)]) _
      refine XS.iloadN X385.here hx rfl (hb hby d7_5) rfl ?_
      show own_S p e below T385 (mkF m 6 #[.val (.ref a0), .val (.int 0), .val (.int 3), .val (.ref b385), .unset, .unset] [.int 0, (.ref a0)]) _
      refine XS.aloadN X385.here hx rfl (hb hby d7_6) rfl rfl ?_
      show own_S p e below T385 (mkF m 7 #[.val (.ref a0), .val (.int 0), .val (.int 3), .val (.ref b385), .unset, .unset] [(.ref b385), .int 0, (.ref a0)]) _
      refine XS.iconst X385.here hx rfl (hb hby d7_7) ?_
      show own_S p e below T385 (mkF m 8 #[.val (.ref a0), .val (.int 0), .val (.int 3), .val (.ref b385), .unset, .unset] [.int 0, (.ref b385), .int 0, (.ref a0)]) _
      refine XS.iloadN X385.here hx rfl (hb hby d7_8) rfl ?_
      show own_S p e below T385 (mkF m 9 #[.val (.ref a0), .val (.int 0), .val (.int 3), .val (.ref b385), .unset, .unset] [.int 3, .int 0, (.ref b385), .int 0, (.ref a0)]) _
      refine st391 _ ?_
      show own_S p e below T391 (mkF m 12 #[.val (.ref a0), .val (.int 0), .val (.int 3), .val (.ref b385), .unset, .unset] [.int 3]) _
      refine XS.istore X391.here hx rfl (hb hby d7_12) rfl (l' := #[.val (.ref a0), .val (.int 0), .val (.int 3), .val (.ref b385), .val (.int 3), .unset]) rfl ?_
      show own_S p e below T391 (mkF m 14 #[.val (.ref a0), .val (.int 0), .val (.int 3), .val (.ref b385), .val (.int 3), .unset] []) _
      refine XS.iload X391.here hx rfl (hb hby d7_14) rfl ?_
      show own_S p e below T391 (mkF m 16 #[.val (.ref a0), .val (.int 0), .val (.int 3), .val (.ref b385), .val (.int 3), .unset] [.int 3]) _
      refine XS.iloadN X391.here hx rfl (hb hby d7_16) rfl ?_
      show own_S p e below T391 (mkF m 17 #[.val (.ref a0), .val (.int 0), .val (.int 3), .val (.ref b385), .val (.int 3), .unset] [.int 3, .int 3]) _
      refine XS.icmpYes X391.here hx rfl (pc0 := 17) (pc' := 57) rfl (hb hby d7_17) rfl (teq (by decide : (3 : Int32) = (3 : Int32))).1 (by decide) (by decide) ?_
      show own_S p e below T391 (mkF m 57 #[.val (.ref a0), .val (.int 0), .val (.int 3), .val (.ref b385), .val (.int 3), .unset] []) _
      refine XS.aloadN X391.here hx rfl (hb hby d7_57) rfl rfl ?_
      show own_S p e below T391 (mkF m 58 #[.val (.ref a0), .val (.int 0), .val (.int 3), .val (.ref b385), .val (.int 3), .unset] [(.ref b385)]) _
      exact Jvm.RoadKit.retOut X391 hx Bd.returns rfl (Or.inr (Or.inr (Or.inr (Or.inr ⟨rfl, rfl, rfl⟩)))) (hb hby d7_58) hr
    · show Q7_s3 Z a0 kc c0 c1 c2 h0 n0 _ T391.heap _
      exact ⟨b385, k385, (3 : Int32), _, rfl, N391, kp431, ge_b385, gs_b385, Vb391, Or.inl ⟨rfl, rfl, hl391_0, hl391_1, hl391_2⟩⟩
theorem ef_5_vv03n (m : MethodId) (a0 : Addr) (a1 : Addr) : entryFrame m #[(.ref a0), (.ref a1), (.int (0 : Int32)), (.int (3 : Int32)), .null] 6 = mkF m 0 #[.val (.ref a0), .val (.ref a1), .val (.int 0), .val (.int 3), .val .null, .unset] [] := by first | (simp [entryFrame, mkF, argsToLocals, Value.category]; done) | rfl
def Q5_s3 (Z : State) (a0 : Addr) (a1 : Addr) (kc : ClassId) (c0 : Int32) (c1 : Int32) (c2 : Int32) (cs : Int32) (h0 : Heap) (n0 : Nat) (v : Option Value) (h : Heap) (L : List Loc) : Prop := v = none ∧ Fr n0 L ∧ Keep h0 h [a0] ∧ own_str Z h a0 [c0, c1, c2]
set_option maxRecDepth 65536 in
set_option maxHeartbeats 40000000 in
theorem rm5_s3 (l : Launch) (Z : State) (ag : Array Value) (hw : ∀ d ∈ tables_1, d.before ag Z = true) (ws : List Jvm.Cond) (a0 : Addr) (a1 : Addr) (kc : ClassId) (c0 : Int32) (c1 : Int32) (c2 : Int32) (cs : Int32) (h0 : Heap) (n0 : Nat) (Z0 : n0 ≤ h0.size) (E_a0 : Exa Z h0 a0 "java/lang/String") (F_value_a0 : Fld Z h0 a0 "java/lang/String" "value" "[B" .null) (F_coder_a0 : Fld Z h0 a0 "java/lang/String" "coder" "B" (.int (0 : Int32))) (ge_a0 : n0 ≤ a0) (ne_a0_a1 : a0 ≠ a1) (O_ : Old Z n0 h0) (S_cs : Sta Z Z.heap "java/lang/String" "COMPACT_STRINGS" "Z" (.int cs)) (hcs : ¬ cs = (0 : Int32)) (S_ad : Sta Z Z.heap "java/lang/StringUTF16" "$assertionsDisabled" "Z" (.int (1 : Int32))) (S_hi : Sta Z Z.heap "java/lang/StringUTF16" "HI_BYTE_SHIFT" "I" (.int (0 : Int32))) (S_lo : Sta Z Z.heap "java/lang/StringUTF16" "LO_BYTE_SHIFT" "I" (.int (8 : Int32))) (V_a1 : Arv Z h0 a1 kc .char (3 : Int32) [(.int c0), (.int c1), (.int c2)] (.int (0 : Int32))) (hr_c0 : 0 ≤ c0.toInt ∧ c0.toInt < 65536) (hr_c1 : 0 ≤ c1.toInt ∧ c1.toInt < 65536) (hr_c2 : 0 ≤ c2.toInt ∧ c2.toInt < 65536) :
    MetFree l (⟨"java/lang/String", "<init>", "([CIILjava/lang/Void;)V"⟩ : MethodName) (head1 (Jvm.Cond.code (⟨"java/lang/String", "<init>", "([CIILjava/lang/Void;)V"⟩ : MethodName) jdk_42_method_149_code 6 none :: ws) ({ frames := 4, cells := 2, slots := 11, locals := 57 } : Room)) (fun a U => a = #[(.ref a0), (.ref a1), (.int (0 : Int32)), (.int (3 : Int32)), .null] ∧ Z.Warmed39 U.vm ∧ U.heap = h0) (fun _ _ _ _ _ => True) (fun _ U o U' => ∃ v L, o = .returned v ∧ Q5_s3 Z a0 a1 kc c0 c1 c2 cs h0 n0 v U'.heap L ∧ FrameEnd U o U' L ({ frames := 4, cells := 2, slots := 11, locals := 57 } : Room).cells ({ frames := 4, cells := 2, slots := 11, locals := 57 } : Room).slots) := by
  refine MetFree.of_bodySF (plainFor_of_name pn_3) hisR ?_
  intro p e s m args below meth c s₁ Bd hml0 hP hK
  obtain ⟨rfl, hZ, hh⟩ := hP
  have hx := Bd.exec
  have hby := Bd.bytes
  have hml : c.maxLocals = 6 := hml0
  have hown : s.vm.findClass "java/lang/String" = some m.cls := findClass_of_methodNamed Bd.named
  have hnm := (name_of_methodNamed Bd.named Bd.method).1
  have X0 : Stand p l e ({ frames := 4, cells := 2, slots := 11, locals := 57 } : Room) s m #[(.ref a0), (.ref a1), (.int (0 : Int32)), (.int (3 : Int32)), .null] below meth c s₁ [] 0 0 := Stand.of_body Bd
  have e0 : s₁.heap = h0 := by rw [← hh, Bd.state]; rfl
  have N0 := Fr.nil n0
  have pre0 : ∀ t, Steps p.tables e below (s₁.setTop (mkF m 0 #[.val (.ref a0), .val (.ref a1), .val (.int 0), .val (.int 3), .val .null, .unset] [])) t → Steps p.tables e below (s₁.setTop (entryFrame m #[(.ref a0), (.ref a1), (.int (0 : Int32)), (.int (3 : Int32)), .null] 6)) t := fun t k => castTop (ef_5_vv03n m a0 a1) k
  obtain ⟨T432, X432, e432, st432⟩ := initO X0 hx hZ hown (hw _ (List.mem_of_getElem? (i := 21) rfl)) (hw _ (List.mem_of_getElem? (i := 22) rfl)) (hw _ (List.mem_of_getElem? (i := 23) rfl)) e0 (g := (mkF m 1 #[.val (.ref a0), .val (.ref a1), .val (.int 0), .val (.int 3), .val .null, .unset] [(.ref a0)])) rfl (by rw [hml]; rfl) rfl (hb hby d5_1) (by decide) (W := 0) (by show 2 * 0 + _ ≤ _; exact Nat.le_of_eq rfl) (by decide)
  obtain ⟨T433, X433, e433, st433⟩ := getS2 X432 hx hZ hown (host := "") (Or.inl (hw _ (List.mem_of_getElem? (i := 24) rfl))) Via.refl e432 (Sta.ext O_.2 S_cs) (g := (mkF m 27 #[.val (.ref a0), .val (.ref a1), .val (.int 0), .val (.int 3), .val .null, .unset] [])) rfl (hb hby d5_27)
  obtain ⟨_, _, ⟨T434, L434, k434, n434⟩, -, X434, ⟨Lc434, hQ434, l434, y434, z434⟩, st434⟩ := Jvm.LawKit.callS X433 hx (y := (⟨"java/lang/StringUTF16", "compress", "([CII)[B"⟩ : MethodName)) hown (mvT hZ (hw _ (List.mem_of_getElem? (i := 25) rfl))) (mvT hZ (hw _ (List.mem_of_getElem? (i := 26) rfl))) (mvT hZ (hw _ (List.mem_of_getElem? (i := 27) rfl))) (mvT hZ (hw _ (List.mem_of_getElem? (i := 28) rfl))) (by decide) (backOf (W := 0) (rm7_s3 l Z ag hw [] a1 kc c0 c1 c2 h0 n0 Z0 V_a1 hr_c0 hr_c1 hr_c2 O_ S_ad S_hi S_lo) hZ (hw _ (List.mem_of_getElem? (i := 28) rfl)) (hw _ (List.mem_of_getElem? (i := 27) rfl)) (by decide) (by decide)) (g := (mkF m 36 #[.val (.ref a0), .val (.ref a1), .val (.int 0), .val (.int 3), .val .null, .unset] [.int 3, .int 0, (.ref a1)])) rfl (by rw [hml]; rfl) (argsL := [(.ref a1), (.int (0 : Int32)), (.int (3 : Int32))]) (rest := []) (lenOf pd_20 rfl) rfl (by show 2 * 0 + _ ≤ _; exact Nat.le_of_eq rfl) (hb hby d5_36) (fun _ _ => ⟨rfl, e433, (by decide : 0 + 2 ≤ _), (by decide : 0 + 11 ≤ _)⟩)
  dsimp only [Pt.U, Pt.locs, Pt.cells, Pt.slots] at X434 l434 y434 z434 st434 hQ434
  subst l434 y434 z434
  obtain ⟨r434, kr434, nb434, vs434, rfl, N434q, K434, ge_r434, gq_r434, Vr434, hQ434⟩ := hQ434
  rcases hQ434 with q434 | q434
  · obtain ⟨rfl, rfl, hl434_0, hl434_1, hl434_2⟩ := q434
    have N434 := Fr.app N0 N434q
    have ne435 : a0 ≠ r434 := Nat.ne_of_lt (Nat.lt_of_lt_of_le E_a0.lt gq_r434)
    have ne436 : a1 ≠ r434 := Nat.ne_of_lt (Nat.lt_of_lt_of_le V_a1.lt gq_r434)
    have gs_r434 : h0.size ≤ r434 := Nat.le_trans (Keep.refl h0 [a0]).1 gq_r434
    have x437 := E_a0.keep K434
    have x438 := F_value_a0.keep K434 nin0
    have x439 := F_coder_a0.keep K434 nin0
    have x440 := O_.keep K434 all0
    have x441 := V_a1.keep K434 nin0
    have sz442 : n0 ≤ T434.heap.size := Nat.le_trans Z0 K434.1
    have kp443 : Keep h0 T434.heap [a0] := (Keep.refl h0 [a0]).trans K434 all0
    have cp444 : ∀ target, own_S p e below T434 (mkF m 45 #[.val (.ref a0), .val (.ref a1), .val (.int 0), .val (.int 3), .val .null, .val (.ref r434)] [.int 3, (.ref r434), (.ref a0)]) target → own_S p e below s₁ (mkF m 0 #[.val (.ref a0), .val (.ref a1), .val (.int 0), .val (.int 3), .val .null, .unset] []) target := by
      intro target kt
      show own_S p e below s₁ (mkF m 0 #[.val (.ref a0), .val (.ref a1), .val (.int 0), .val (.int 3), .val .null, .unset] []) _
      refine XS.aloadN X0.here hx rfl (hb hby d5_0) rfl rfl ?_
      show own_S p e below s₁ (mkF m 1 #[.val (.ref a0), .val (.ref a1), .val (.int 0), .val (.int 3), .val .null, .unset] [(.ref a0)]) _
      refine st432 _ ?_
      show own_S p e below T432 (mkF m 4 #[.val (.ref a0), .val (.ref a1), .val (.int 0), .val (.int 3), .val .null, .unset] []) _
      refine XS.iloadN X432.here hx rfl (hb hby d5_4) rfl ?_
      show own_S p e below T432 (mkF m 5 #[.val (.ref a0), .val (.ref a1), .val (.int 0), .val (.int 3), .val .null, .unset] [.int 3]) _
      refine XS.ifYes X432.here hx rfl (pc0 := 5) (pc' := 27) rfl (hb hby d5_5) rfl ((if0 _ _).trans (feq (by decide : ¬ ((3 : Int32) = (0 : Int32)))).2) (by decide) (by decide) ?_
      show own_S p e below T432 (mkF m 27 #[.val (.ref a0), .val (.ref a1), .val (.int 0), .val (.int 3), .val .null, .unset] []) _
      refine st433 _ ?_
      show own_S p e below T433 (mkF m 30 #[.val (.ref a0), .val (.ref a1), .val (.int 0), .val (.int 3), .val .null, .unset] [(.int cs)]) _
      refine XS.ifNo X433.here hx rfl (hb hby d5_30) rfl ((if0 _ _).trans (feq (show ¬ (cs = (0 : Int32)) from hcs)).1) ?_
      show own_S p e below T433 (mkF m 33 #[.val (.ref a0), .val (.ref a1), .val (.int 0), .val (.int 3), .val .null, .unset] []) _
      refine XS.aloadN X433.here hx rfl (hb hby d5_33) rfl rfl ?_
      show own_S p e below T433 (mkF m 34 #[.val (.ref a0), .val (.ref a1), .val (.int 0), .val (.int 3), .val .null, .unset] [(.ref a1)]) _
      refine XS.iloadN X433.here hx rfl (hb hby d5_34) rfl ?_
      show own_S p e below T433 (mkF m 35 #[.val (.ref a0), .val (.ref a1), .val (.int 0), .val (.int 3), .val .null, .unset] [.int 0, (.ref a1)]) _
      refine XS.iloadN X433.here hx rfl (hb hby d5_35) rfl ?_
      show own_S p e below T433 (mkF m 36 #[.val (.ref a0), .val (.ref a1), .val (.int 0), .val (.int 3), .val .null, .unset] [.int 3, .int 0, (.ref a1)]) _
      refine st434 _ ?_
      show own_S p e below T434 (mkF m 39 #[.val (.ref a0), .val (.ref a1), .val (.int 0), .val (.int 3), .val .null, .unset] [(.ref r434)]) _
      refine XS.astore X434.here hx rfl (hb hby d5_39) rfl rfl (l' := #[.val (.ref a0), .val (.ref a1), .val (.int 0), .val (.int 3), .val .null, .val (.ref r434)]) rfl ?_
      show own_S p e below T434 (mkF m 41 #[.val (.ref a0), .val (.ref a1), .val (.int 0), .val (.int 3), .val .null, .val (.ref r434)] []) _
      refine XS.aloadN X434.here hx rfl (hb hby d5_41) rfl rfl ?_
      show own_S p e below T434 (mkF m 42 #[.val (.ref a0), .val (.ref a1), .val (.int 0), .val (.int 3), .val .null, .val (.ref r434)] [(.ref a0)]) _
      refine XS.aload X434.here hx rfl (hb hby d5_42) rfl rfl ?_
      show own_S p e below T434 (mkF m 44 #[.val (.ref a0), .val (.ref a1), .val (.int 0), .val (.int 3), .val .null, .val (.ref r434)] [(.ref r434), (.ref a0)]) _
      refine XS.iloadN X434.here hx rfl (hb hby d5_44) rfl ?_
      exact kt
    obtain ⟨_, _, ⟨T445, L445, k445, n445⟩, -, X445, ⟨Lc445, hQ445, l445, y445, z445⟩, st445⟩ := Jvm.LawKit.callS X434 hx (y := (⟨"java/lang/StringUTF16", "coderFromArrayLen", "([BI)B"⟩ : MethodName)) hown (mvT hZ (hw _ (List.mem_of_getElem? (i := 33) rfl))) (mvT hZ (hw _ (List.mem_of_getElem? (i := 34) rfl))) (mvT hZ (hw _ (List.mem_of_getElem? (i := 27) rfl))) (mvT hZ (hw _ (List.mem_of_getElem? (i := 35) rfl))) (by decide) (backOf (W := 1) (rm9 l Z ag hw [] r434 (3 : Int32) kr434 (3 : Int32) [(.int (nar .byte (c0.toInt8.toInt32))), (.int (nar .byte (c1.toInt8.toInt32))), (.int (nar .byte (c2.toInt8.toInt32)))] (0 : Int32) T434.heap n0 sz442 Vr434 (by decide)) hZ (hw _ (List.mem_of_getElem? (i := 35) rfl)) (hw _ (List.mem_of_getElem? (i := 27) rfl)) (by decide) (by decide)) (g := (mkF m 45 #[.val (.ref a0), .val (.ref a1), .val (.int 0), .val (.int 3), .val .null, .val (.ref r434)] [.int 3, (.ref r434), (.ref a0)])) rfl (by rw [hml]; rfl) (argsL := [(.ref r434), (.int (3 : Int32))]) (rest := [(.ref a0)]) (lenOf pd_16 rfl) rfl (by show 2 * 0 + _ ≤ _; exact Nat.le_of_eq rfl) (hb hby d5_45) (fun _ _ => ⟨rfl, rfl, (by decide : 2 + 0 ≤ _), (by decide : 11 + 0 ≤ _)⟩)
    dsimp only [Pt.U, Pt.locs, Pt.cells, Pt.slots] at X445 l445 y445 z445 st445 hQ445
    subst l445 y445 z445
    obtain ⟨rfl, N445q, e445⟩ := hQ445
    have N445 := Fr.app N434 N445q
    obtain ⟨T446, h446, X446, e446, W446, st446⟩ := putFN X445 hx hZ hown (hw _ (List.mem_of_getElem? (i := 36) rfl)) Via.refl e445 x439 x437 (Or.inr ⟨(hw _ (List.mem_of_getElem? (i := 37) rfl)), rfl, hnm⟩) (hw _ (List.mem_of_getElem? (i := 11) rfl)) (ty := .byte) (v' := (.int (0 : Int32))) (by decide) rfl (fits_nar_byte (0 : Int32)) (g := (mkF m 48 #[.val (.ref a0), .val (.ref a1), .val (.int 0), .val (.int 3), .val .null, .val (.ref r434)] [.int 0, (.ref a0)])) rfl rfl (hb hby d5_48)
    have Fw446 := x439.same W446
    have x447 := x437.wr W446
    have x448 := x438.other W446 (Or.inr (slot_ne (Or.inr (hw _ (List.mem_of_getElem? (i := 39) rfl))) (Or.inr (hw _ (List.mem_of_getElem? (i := 37) rfl))) (by decide) (t := (.array .byte)) (t' := .byte) (by decide) (by decide)))
    have x449 := x440.wr W446 ge_a0
    have x450 := x441.other W446 (Ne.symm ne_a0_a1)
    have x451 := Vr434.other W446 (Ne.symm ne435)
    have sz452 : n0 ≤ h446.size := Nat.le_trans sz442 (Keep.of_wr W446).1
    have kp453 : Keep h0 h446 [a0] := kp443.wr W446 (Or.inl (List.mem_of_getElem? (i := 0) rfl))
    have N446 := Fr.snoc X446 N445 ge_a0
    obtain ⟨T454, h454, X454, e454, W454, st454⟩ := putF X446 hx hZ hown (host := "") (Or.inl (hw _ (List.mem_of_getElem? (i := 38) rfl))) Via.refl e446 x448 x447 (Or.inr ⟨(hw _ (List.mem_of_getElem? (i := 39) rfl)), rfl, hnm⟩) (hw _ (List.mem_of_getElem? (i := 11) rfl)) (ty := (.array .byte)) (by decide) rfl rfl (g := (mkF m 54 #[.val (.ref a0), .val (.ref a1), .val (.int 0), .val (.int 3), .val .null, .val (.ref r434)] [(.ref r434), (.ref a0)])) rfl rfl (hb hby d5_54)
    have Fw454 := x448.same W454
    have x455 := x447.wr W454
    have x456 := x449.wr W454 ge_a0
    have x457 := x450.other W454 (Ne.symm ne_a0_a1)
    have x458 := x451.other W454 (Ne.symm ne435)
    have x459 := Fw446.other W454 (Or.inr (slot_ne (Or.inr (hw _ (List.mem_of_getElem? (i := 37) rfl))) (Or.inr (hw _ (List.mem_of_getElem? (i := 39) rfl))) (by decide) (t := .byte) (t' := (.array .byte)) (by decide) (by decide)))
    have sz460 : n0 ≤ h454.size := Nat.le_trans sz452 (Keep.of_wr W454).1
    have kp461 : Keep h0 h454 [a0] := kp453.wr W454 (Or.inl (List.mem_of_getElem? (i := 0) rfl))
    have N454 := Fr.snoc X454 N446 ge_a0
    obtain ⟨fs, hr, hrun, hended, hW, hsame⟩ := X454.leave (v := none) (fun _ => rfl)
    refine ⟨_, _, pre0 _ ?_, hrun, hended, _, _, rfl, ?_, ⟨_, rfl⟩, hW, hsame.mono (by decide) (by decide)⟩
    · show own_S p e below s₁ (mkF m 0 #[.val (.ref a0), .val (.ref a1), .val (.int 0), .val (.int 3), .val .null, .unset] []) _
      refine cp444 _ ?_
      show own_S p e below T434 (mkF m 45 #[.val (.ref a0), .val (.ref a1), .val (.int 0), .val (.int 3), .val .null, .val (.ref r434)] [.int 3, (.ref r434), (.ref a0)]) _
      refine st445 _ ?_
      show own_S p e below T445 (mkF m 48 #[.val (.ref a0), .val (.ref a1), .val (.int 0), .val (.int 3), .val .null, .val (.ref r434)] [.int 0, (.ref a0)]) _
      refine st446 _ ?_
      show own_S p e below T446 (mkF m 51 #[.val (.ref a0), .val (.ref a1), .val (.int 0), .val (.int 3), .val .null, .val (.ref r434)] []) _
      refine XS.aloadN X446.here hx rfl (hb hby d5_51) rfl rfl ?_
      show own_S p e below T446 (mkF m 52 #[.val (.ref a0), .val (.ref a1), .val (.int 0), .val (.int 3), .val .null, .val (.ref r434)] [(.ref a0)]) _
      refine XS.aload X446.here hx rfl (hb hby d5_52) rfl rfl ?_
      show own_S p e below T446 (mkF m 54 #[.val (.ref a0), .val (.ref a1), .val (.int 0), .val (.int 3), .val .null, .val (.ref r434)] [(.ref r434), (.ref a0)]) _
      refine st454 _ ?_
      show own_S p e below T454 (mkF m 57 #[.val (.ref a0), .val (.ref a1), .val (.int 0), .val (.int 3), .val .null, .val (.ref r434)] []) _
      exact X454.returnOut hx Bd.returns (hb hby d5_57) hr
    · show Q5_s3 Z a0 a1 kc c0 c1 c2 cs h0 n0 _ T454.heap _
      rw [e454]
      exact ⟨rfl, N454, kp461, ⟨x455, (by decide : 3 ≤ 4), r434, kr434, (3 : Int32), (0 : Int32), _, Fw454, x459, x458, Or.inl ⟨rfl, rfl, own_lat_of3 hr_c0 hr_c1 hr_c2 hl434_0 hl434_1 hl434_2⟩⟩⟩
  · obtain ⟨rfl, rfl⟩ := q434
    have N434 := Fr.app N0 N434q
    have ne462 : a0 ≠ r434 := Nat.ne_of_lt (Nat.lt_of_lt_of_le E_a0.lt gq_r434)
    have ne463 : a1 ≠ r434 := Nat.ne_of_lt (Nat.lt_of_lt_of_le V_a1.lt gq_r434)
    have gs_r434 : h0.size ≤ r434 := Nat.le_trans (Keep.refl h0 [a0]).1 gq_r434
    have x464 := E_a0.keep K434
    have x465 := F_value_a0.keep K434 nin0
    have x466 := F_coder_a0.keep K434 nin0
    have x467 := O_.keep K434 all0
    have x468 := V_a1.keep K434 nin0
    have sz469 : n0 ≤ T434.heap.size := Nat.le_trans Z0 K434.1
    have kp470 : Keep h0 T434.heap [a0] := (Keep.refl h0 [a0]).trans K434 all0
    have cp471 : ∀ target, own_S p e below T434 (mkF m 45 #[.val (.ref a0), .val (.ref a1), .val (.int 0), .val (.int 3), .val .null, .val (.ref r434)] [.int 3, (.ref r434), (.ref a0)]) target → own_S p e below s₁ (mkF m 0 #[.val (.ref a0), .val (.ref a1), .val (.int 0), .val (.int 3), .val .null, .unset] []) target := by
      intro target kt
      show own_S p e below s₁ (mkF m 0 #[.val (.ref a0), .val (.ref a1), .val (.int 0), .val (.int 3), .val .null, .unset] []) _
      refine XS.aloadN X0.here hx rfl (hb hby d5_0) rfl rfl ?_
      show own_S p e below s₁ (mkF m 1 #[.val (.ref a0), .val (.ref a1), .val (.int 0), .val (.int 3), .val .null, .unset] [(.ref a0)]) _
      refine st432 _ ?_
      show own_S p e below T432 (mkF m 4 #[.val (.ref a0), .val (.ref a1), .val (.int 0), .val (.int 3), .val .null, .unset] []) _
      refine XS.iloadN X432.here hx rfl (hb hby d5_4) rfl ?_
      show own_S p e below T432 (mkF m 5 #[.val (.ref a0), .val (.ref a1), .val (.int 0), .val (.int 3), .val .null, .unset] [.int 3]) _
      refine XS.ifYes X432.here hx rfl (pc0 := 5) (pc' := 27) rfl (hb hby d5_5) rfl ((if0 _ _).trans (feq (by decide : ¬ ((3 : Int32) = (0 : Int32)))).2) (by decide) (by decide) ?_
      show own_S p e below T432 (mkF m 27 #[.val (.ref a0), .val (.ref a1), .val (.int 0), .val (.int 3), .val .null, .unset] []) _
      refine st433 _ ?_
      show own_S p e below T433 (mkF m 30 #[.val (.ref a0), .val (.ref a1), .val (.int 0), .val (.int 3), .val .null, .unset] [(.int cs)]) _
      refine XS.ifNo X433.here hx rfl (hb hby d5_30) rfl ((if0 _ _).trans (feq (show ¬ (cs = (0 : Int32)) from hcs)).1) ?_
      show own_S p e below T433 (mkF m 33 #[.val (.ref a0), .val (.ref a1), .val (.int 0), .val (.int 3), .val .null, .unset] []) _
      refine XS.aloadN X433.here hx rfl (hb hby d5_33) rfl rfl ?_
      show own_S p e below T433 (mkF m 34 #[.val (.ref a0), .val (.ref a1), .val (.int 0), .val (.int 3), .val .null, .unset] [(.ref a1)]) _
      refine XS.iloadN X433.here hx rfl (hb hby d5_34) rfl ?_
      show own_S p e below T433 (mkF m 35 #[.val (.ref a0), .val (.ref a1), .val (.int 0), .val (.int 3), .val .null, .unset] [.int 0, (.ref a1)]) _
      refine XS.iloadN X433.here hx rfl (hb hby d5_35) rfl ?_
      show own_S p e below T433 (mkF m 36 #[.val (.ref a0), .val (.ref a1), .val (.int 0), .val (.int 3), .val .null, .unset] [.int 3, .int 0, (.ref a1)]) _
      refine st434 _ ?_
      show own_S p e below T434 (mkF m 39 #[.val (.ref a0), .val (.ref a1), .val (.int 0), .val (.int 3), .val .null, .unset] [(.ref r434)]) _
      refine XS.astore X434.here hx rfl (hb hby d5_39) rfl rfl (l' := #[.val (.ref a0), .val (.ref a1), .val (.int 0), .val (.int 3), .val .null, .val (.ref r434)]) rfl ?_
      show own_S p e below T434 (mkF m 41 #[.val (.ref a0), .val (.ref a1), .val (.int 0), .val (.int 3), .val .null, .val (.ref r434)] []) _
      refine XS.aloadN X434.here hx rfl (hb hby d5_41) rfl rfl ?_
      show own_S p e below T434 (mkF m 42 #[.val (.ref a0), .val (.ref a1), .val (.int 0), .val (.int 3), .val .null, .val (.ref r434)] [(.ref a0)]) _
      refine XS.aload X434.here hx rfl (hb hby d5_42) rfl rfl ?_
      show own_S p e below T434 (mkF m 44 #[.val (.ref a0), .val (.ref a1), .val (.int 0), .val (.int 3), .val .null, .val (.ref r434)] [(.ref r434), (.ref a0)]) _
      refine XS.iloadN X434.here hx rfl (hb hby d5_44) rfl ?_
      exact kt
    obtain ⟨_, _, ⟨T472, L472, k472, n472⟩, -, X472, ⟨Lc472, hQ472, l472, y472, z472⟩, st472⟩ := Jvm.LawKit.callS X434 hx (y := (⟨"java/lang/StringUTF16", "coderFromArrayLen", "([BI)B"⟩ : MethodName)) hown (mvT hZ (hw _ (List.mem_of_getElem? (i := 33) rfl))) (mvT hZ (hw _ (List.mem_of_getElem? (i := 34) rfl))) (mvT hZ (hw _ (List.mem_of_getElem? (i := 27) rfl))) (mvT hZ (hw _ (List.mem_of_getElem? (i := 35) rfl))) (by decide) (backOf (W := 1) (rm9 l Z ag hw [] r434 (3 : Int32) kr434 (6 : Int32) [(.int (nar .byte ((c0 >>> ((0 : Int32) &&& 31)).toInt8.toInt32))), (.int (nar .byte ((c0 >>> ((8 : Int32) &&& 31)).toInt8.toInt32))), (.int (nar .byte ((c1 >>> ((0 : Int32) &&& 31)).toInt8.toInt32))), (.int (nar .byte ((c1 >>> ((8 : Int32) &&& 31)).toInt8.toInt32))), (.int (nar .byte ((c2 >>> ((0 : Int32) &&& 31)).toInt8.toInt32))), (.int (nar .byte ((c2 >>> ((8 : Int32) &&& 31)).toInt8.toInt32)))] (1 : Int32) T434.heap n0 sz469 Vr434 (by decide)) hZ (hw _ (List.mem_of_getElem? (i := 35) rfl)) (hw _ (List.mem_of_getElem? (i := 27) rfl)) (by decide) (by decide)) (g := (mkF m 45 #[.val (.ref a0), .val (.ref a1), .val (.int 0), .val (.int 3), .val .null, .val (.ref r434)] [.int 3, (.ref r434), (.ref a0)])) rfl (by rw [hml]; rfl) (argsL := [(.ref r434), (.int (3 : Int32))]) (rest := [(.ref a0)]) (lenOf pd_16 rfl) rfl (by show 2 * 0 + _ ≤ _; exact Nat.le_of_eq rfl) (hb hby d5_45) (fun _ _ => ⟨rfl, rfl, (by decide : 2 + 0 ≤ _), (by decide : 11 + 0 ≤ _)⟩)
    dsimp only [Pt.U, Pt.locs, Pt.cells, Pt.slots] at X472 l472 y472 z472 st472 hQ472
    subst l472 y472 z472
    obtain ⟨rfl, N472q, e472⟩ := hQ472
    have N472 := Fr.app N434 N472q
    obtain ⟨T473, h473, X473, e473, W473, st473⟩ := putFN X472 hx hZ hown (hw _ (List.mem_of_getElem? (i := 36) rfl)) Via.refl e472 x466 x464 (Or.inr ⟨(hw _ (List.mem_of_getElem? (i := 37) rfl)), rfl, hnm⟩) (hw _ (List.mem_of_getElem? (i := 11) rfl)) (ty := .byte) (v' := (.int (1 : Int32))) (by decide) rfl (fits_nar_byte (1 : Int32)) (g := (mkF m 48 #[.val (.ref a0), .val (.ref a1), .val (.int 0), .val (.int 3), .val .null, .val (.ref r434)] [.int 1, (.ref a0)])) rfl rfl (hb hby d5_48)
    have Fw473 := x466.same W473
    have x474 := x464.wr W473
    have x475 := x465.other W473 (Or.inr (slot_ne (Or.inr (hw _ (List.mem_of_getElem? (i := 39) rfl))) (Or.inr (hw _ (List.mem_of_getElem? (i := 37) rfl))) (by decide) (t := (.array .byte)) (t' := .byte) (by decide) (by decide)))
    have x476 := x467.wr W473 ge_a0
    have x477 := x468.other W473 (Ne.symm ne_a0_a1)
    have x478 := Vr434.other W473 (Ne.symm ne462)
    have sz479 : n0 ≤ h473.size := Nat.le_trans sz469 (Keep.of_wr W473).1
    have kp480 : Keep h0 h473 [a0] := kp470.wr W473 (Or.inl (List.mem_of_getElem? (i := 0) rfl))
    have N473 := Fr.snoc X473 N472 ge_a0
    obtain ⟨T481, h481, X481, e481, W481, st481⟩ := putF X473 hx hZ hown (host := "") (Or.inl (hw _ (List.mem_of_getElem? (i := 38) rfl))) Via.refl e473 x475 x474 (Or.inr ⟨(hw _ (List.mem_of_getElem? (i := 39) rfl)), rfl, hnm⟩) (hw _ (List.mem_of_getElem? (i := 11) rfl)) (ty := (.array .byte)) (by decide) rfl rfl (g := (mkF m 54 #[.val (.ref a0), .val (.ref a1), .val (.int 0), .val (.int 3), .val .null, .val (.ref r434)] [(.ref r434), (.ref a0)])) rfl rfl (hb hby d5_54)
    have Fw481 := x475.same W481
    have x482 := x474.wr W481
    have x483 := x476.wr W481 ge_a0
    have x484 := x477.other W481 (Ne.symm ne_a0_a1)
    have x485 := x478.other W481 (Ne.symm ne462)
    have x486 := Fw473.other W481 (Or.inr (slot_ne (Or.inr (hw _ (List.mem_of_getElem? (i := 37) rfl))) (Or.inr (hw _ (List.mem_of_getElem? (i := 39) rfl))) (by decide) (t := .byte) (t' := (.array .byte)) (by decide) (by decide)))
    have sz487 : n0 ≤ h481.size := Nat.le_trans sz479 (Keep.of_wr W481).1
    have kp488 : Keep h0 h481 [a0] := kp480.wr W481 (Or.inl (List.mem_of_getElem? (i := 0) rfl))
    have N481 := Fr.snoc X481 N473 ge_a0
    obtain ⟨fs, hr, hrun, hended, hW, hsame⟩ := X481.leave (v := none) (fun _ => rfl)
    refine ⟨_, _, pre0 _ ?_, hrun, hended, _, _, rfl, ?_, ⟨_, rfl⟩, hW, hsame.mono (by decide) (by decide)⟩
    · show own_S p e below s₁ (mkF m 0 #[.val (.ref a0), .val (.ref a1), .val (.int 0), .val (.int 3), .val .null, .unset] []) _
      refine cp471 _ ?_
      show own_S p e below T434 (mkF m 45 #[.val (.ref a0), .val (.ref a1), .val (.int 0), .val (.int 3), .val .null, .val (.ref r434)] [.int 3, (.ref r434), (.ref a0)]) _
      refine st472 _ ?_
      show own_S p e below T472 (mkF m 48 #[.val (.ref a0), .val (.ref a1), .val (.int 0), .val (.int 3), .val .null, .val (.ref r434)] [.int 1, (.ref a0)]) _
      refine st473 _ ?_
      show own_S p e below T473 (mkF m 51 #[.val (.ref a0), .val (.ref a1), .val (.int 0), .val (.int 3), .val .null, .val (.ref r434)] []) _
      refine XS.aloadN X473.here hx rfl (hb hby d5_51) rfl rfl ?_
      show own_S p e below T473 (mkF m 52 #[.val (.ref a0), .val (.ref a1), .val (.int 0), .val (.int 3), .val .null, .val (.ref r434)] [(.ref a0)]) _
      refine XS.aload X473.here hx rfl (hb hby d5_52) rfl rfl ?_
      show own_S p e below T473 (mkF m 54 #[.val (.ref a0), .val (.ref a1), .val (.int 0), .val (.int 3), .val .null, .val (.ref r434)] [(.ref r434), (.ref a0)]) _
      refine st481 _ ?_
      show own_S p e below T481 (mkF m 57 #[.val (.ref a0), .val (.ref a1), .val (.int 0), .val (.int 3), .val .null, .val (.ref r434)] []) _
      exact X481.returnOut hx Bd.returns (hb hby d5_57) hr
    · show Q5_s3 Z a0 a1 kc c0 c1 c2 cs h0 n0 _ T481.heap _
      rw [e481]
      exact ⟨rfl, N481, kp488, ⟨x482, (by decide : 3 ≤ 4), r434, kr434, (6 : Int32), (1 : Int32), _, Fw481, x486, x485, Or.inr ⟨rfl, rfl, own_u16_of3 hr_c0 hr_c1 hr_c2⟩⟩⟩
def Q4_s3 (Z : State) (a0 : Addr) (a1 : Addr) (kc : ClassId) (c0 : Int32) (c1 : Int32) (c2 : Int32) (cs : Int32) (h0 : Heap) (n0 : Nat) (v : Option Value) (h : Heap) (L : List Loc) : Prop := v = none ∧ Fr n0 L ∧ Keep h0 h [a0] ∧ own_str Z h a0 [c0, c1, c2]
set_option maxRecDepth 65536 in
set_option maxHeartbeats 40000000 in
theorem rm4_s3 (l : Launch) (Z : State) (ag : Array Value) (hw : ∀ d ∈ tables_1, d.before ag Z = true) (ws : List Jvm.Cond) (a0 : Addr) (a1 : Addr) (kc : ClassId) (c0 : Int32) (c1 : Int32) (c2 : Int32) (cs : Int32) (h0 : Heap) (n0 : Nat) (Z0 : n0 ≤ h0.size) (E_a0 : Exa Z h0 a0 "java/lang/String") (F_value_a0 : Fld Z h0 a0 "java/lang/String" "value" "[B" .null) (F_coder_a0 : Fld Z h0 a0 "java/lang/String" "coder" "B" (.int (0 : Int32))) (ge_a0 : n0 ≤ a0) (ne_a0_a1 : a0 ≠ a1) (O_ : Old Z n0 h0) (S_cs : Sta Z Z.heap "java/lang/String" "COMPACT_STRINGS" "Z" (.int cs)) (hcs : ¬ cs = (0 : Int32)) (S_ad : Sta Z Z.heap "java/lang/StringUTF16" "$assertionsDisabled" "Z" (.int (1 : Int32))) (S_hi : Sta Z Z.heap "java/lang/StringUTF16" "HI_BYTE_SHIFT" "I" (.int (0 : Int32))) (S_lo : Sta Z Z.heap "java/lang/StringUTF16" "LO_BYTE_SHIFT" "I" (.int (8 : Int32))) (V_a1 : Arv Z h0 a1 kc .char (3 : Int32) [(.int c0), (.int c1), (.int c2)] (.int (0 : Int32))) (hr_c0 : 0 ≤ c0.toInt ∧ c0.toInt < 65536) (hr_c1 : 0 ≤ c1.toInt ∧ c1.toInt < 65536) (hr_c2 : 0 ≤ c2.toInt ∧ c2.toInt < 65536) :
    MetFree l (⟨"java/lang/String", "<init>", "([C)V"⟩ : MethodName) (head1 (Jvm.Cond.code (⟨"java/lang/String", "<init>", "([C)V"⟩ : MethodName) jdk_42_method_3_code 2 none :: ws) ({ frames := 5, cells := 2, slots := 11, locals := 74 } : Room)) (fun a U => a = #[(.ref a0), (.ref a1)] ∧ Z.Warmed39 U.vm ∧ U.heap = h0) (fun _ _ _ _ _ => True) (fun _ U o U' => ∃ v L, o = .returned v ∧ Q4_s3 Z a0 a1 kc c0 c1 c2 cs h0 n0 v U'.heap L ∧ FrameEnd U o U' L ({ frames := 5, cells := 2, slots := 11, locals := 74 } : Room).cells ({ frames := 5, cells := 2, slots := 11, locals := 74 } : Room).slots) := by
  refine MetFree.of_bodySF (plainFor_of_name pn_3) hisR ?_
  intro p e s m args below meth c s₁ Bd hml0 hP hK
  obtain ⟨rfl, hZ, hh⟩ := hP
  have hx := Bd.exec
  have hby := Bd.bytes
  have hml : c.maxLocals = 2 := hml0
  have hown : s.vm.findClass "java/lang/String" = some m.cls := findClass_of_methodNamed Bd.named
  have hnm := (name_of_methodNamed Bd.named Bd.method).1
  have X0 : Stand p l e ({ frames := 5, cells := 2, slots := 11, locals := 74 } : Room) s m #[(.ref a0), (.ref a1)] below meth c s₁ [] 0 0 := Stand.of_body Bd
  have e0 : s₁.heap = h0 := by rw [← hh, Bd.state]; rfl
  have N0 := Fr.nil n0
  have pre0 : ∀ t, Steps p.tables e below (s₁.setTop (mkF m 0 #[.val (.ref a0), .val (.ref a1)] [])) t → Steps p.tables e below (s₁.setTop (entryFrame m #[(.ref a0), (.ref a1)] 2)) t := fun t k => castTop (ef_4 m a0 a1) k
  obtain ⟨cl489, Ar489, -, S489, M489, -, -⟩ := id V_a1
  have ld489 := X0.arraylength hx (by rw [e0]; exact Ar489.1) (State.isArrayOf_alike hZ.alike Ar489.2.1) (g := (mkF m 4 #[.val (.ref a0), .val (.ref a1)] [(.ref a1), .int 0, (.ref a1), (.ref a0)])) rfl rfl (hb hby d4_4)
  obtain ⟨_, _, ⟨T490, L490, k490, n490⟩, -, X490, ⟨Lc490, hQ490, l490, y490, z490⟩, st490⟩ := X0.specialBack hx (y := (⟨"java/lang/String", "<init>", "([CIILjava/lang/Void;)V"⟩ : MethodName)) rfl hown (mvT hZ (hw _ (List.mem_of_getElem? (i := 17) rfl))) (mvT hZ (hw _ (List.mem_of_getElem? (i := 18) rfl))) (mvT hZ (hw _ (List.mem_of_getElem? (i := 20) rfl))) (by decide) (backOf (W := 0) (rm5_s3 l Z ag hw [] a0 a1 kc c0 c1 c2 cs h0 n0 Z0 E_a0 F_value_a0 F_coder_a0 ge_a0 ne_a0_a1 O_ S_cs hcs S_ad S_hi S_lo V_a1 hr_c0 hr_c1 hr_c2) hZ (hw _ (List.mem_of_getElem? (i := 20) rfl)) (hw _ (List.mem_of_getElem? (i := 12) rfl)) (by decide) (by decide)) (g := (mkF m 6 #[.val (.ref a0), .val (.ref a1)] [.null, .int 3, .int 0, (.ref a1), (.ref a0)])) rfl (by rw [hml]; rfl) (Steps.refl _) (a := a0) (argsL := [(.ref a1), (.int (0 : Int32)), (.int (3 : Int32)), .null]) (rest := []) (lenOf pd_21 rfl) rfl (by show 2 * 0 + _ ≤ _; exact Nat.le_of_eq rfl) (hb hby d4_6) (fun _ _ => ⟨rfl, e0, (by decide : 0 + 2 ≤ _), (by decide : 0 + 11 ≤ _)⟩)
  dsimp only [Pt.U, Pt.locs, Pt.cells, Pt.slots] at X490 l490 y490 z490 st490 hQ490
  subst l490 y490 z490
  obtain ⟨rfl, N490q, K490, Ss490⟩ := hQ490
  have N490 := Fr.app N0 N490q
  have x491 := E_a0.keep K490
  have x492 := O_.keep K490 (allS ge_a0 all0)
  have x493 := V_a1.keep K490 (ninS (Ne.symm ne_a0_a1) nin0)
  have sz494 : n0 ≤ T490.heap.size := Nat.le_trans Z0 K490.1
  have kp495 : Keep h0 T490.heap [a0] := (Keep.refl h0 [a0]).trans K490 (allS (Or.inl (List.mem_of_getElem? (i := 0) rfl)) all0)
  obtain ⟨fs, hr, hrun, hended, hW, hsame⟩ := X490.leave (v := none) (fun _ => rfl)
  refine ⟨_, _, pre0 _ ?_, hrun, hended, _, _, rfl, ?_, ⟨_, rfl⟩, hW, hsame.mono (by decide) (by decide)⟩
  · show own_S p e below s₁ (mkF m 0 #[.val (.ref a0), .val (.ref a1)] []) _
    refine XS.aloadN X0.here hx rfl (hb hby d4_0) rfl rfl ?_
    show own_S p e below s₁ (mkF m 1 #[.val (.ref a0), .val (.ref a1)] [(.ref a0)]) _
    refine XS.aloadN X0.here hx rfl (hb hby d4_1) rfl rfl ?_
    show own_S p e below s₁ (mkF m 2 #[.val (.ref a0), .val (.ref a1)] [(.ref a1), (.ref a0)]) _
    refine XS.iconst X0.here hx rfl (hb hby d4_2) ?_
    show own_S p e below s₁ (mkF m 3 #[.val (.ref a0), .val (.ref a1)] [.int 0, (.ref a1), (.ref a0)]) _
    refine XS.aloadN X0.here hx rfl (hb hby d4_3) rfl rfl ?_
    show own_S p e below s₁ (mkF m 4 #[.val (.ref a0), .val (.ref a1)] [(.ref a1), .int 0, (.ref a1), (.ref a0)]) _
    refine ld489 _ ?_
    rw [len_of S489 M489]
    show own_S p e below s₁ (mkF m 5 #[.val (.ref a0), .val (.ref a1)] [.int 3, .int 0, (.ref a1), (.ref a0)]) _
    refine XS.aconstNull X0.here hx rfl (hb hby d4_5) ?_
    show own_S p e below s₁ (mkF m 6 #[.val (.ref a0), .val (.ref a1)] [.null, .int 3, .int 0, (.ref a1), (.ref a0)]) _
    refine st490.trans ?_
    show own_S p e below T490 (mkF m 9 #[.val (.ref a0), .val (.ref a1)] []) _
    exact X490.returnOut hx Bd.returns (hb hby d4_9) hr
  · show Q4_s3 Z a0 a1 kc c0 c1 c2 cs h0 n0 _ T490.heap _
    exact ⟨rfl, N490, kp495, Ss490⟩
theorem pn_1 : plainName "com/example/tenpoint/tenpoint/AsciiCaseStartsWithPinLaw" = true := by first | (simp [plainName, overriddenIn]; done) | decide +kernel
theorem ef_1 (m : MethodId) (p0 : Int32) : entryFrame m #[(.int p0)] 1 = mkF m 0 #[.val (.int p0)] [] := by first | (simp [entryFrame, mkF, argsToLocals, Value.category]; done) | rfl
theorem d1_0 : decode method_2_code 0 = .ok (.iload_n 0, 1) := by decide +kernel
theorem d1_1 : decode method_2_code 1 = .ok (.iconst 1, 1) := by decide +kernel
theorem d1_2 : decode method_2_code 2 = .ok (.iand, 1) := by decide +kernel
theorem d1_3 : decode method_2_code 3 = .ok (.ifCond .ne 9, 3) := by decide +kernel
theorem d1_6 : decode method_2_code 6 = .ok (.iload_n 0, 1) := by decide +kernel
theorem d1_7 : decode method_2_code 7 = .ok (.bipush 16, 2) := by decide +kernel
theorem d1_9 : decode method_2_code 9 = .ok (.iushr, 1) := by decide +kernel
theorem d1_10 : decode method_2_code 10 = .ok (.i2c, 1) := by decide +kernel
theorem d1_12 : decode method_2_code 12 = .ok (.bipush 64, 2) := by decide +kernel
theorem d1_14 : decode method_2_code 14 = .ok (.iload_n 0, 1) := by decide +kernel
theorem d1_15 : decode method_2_code 15 = .ok (.iconst 1, 1) := by decide +kernel
theorem d1_16 : decode method_2_code 16 = .ok (.iushr, 1) := by decide +kernel
theorem d1_17 : decode method_2_code 17 = .ok (.bipush 63, 2) := by decide +kernel
theorem d1_19 : decode method_2_code 19 = .ok (.iand, 1) := by decide +kernel
theorem d1_20 : decode method_2_code 20 = .ok (.iadd, 1) := by decide +kernel
theorem d1_21 : decode method_2_code 21 = .ok (.i2c, 1) := by decide +kernel
def own_pick (p0 : Int32) : Int32 := (if (p0 &&& (1 : Int32)) = (0 : Int32) then (nar .char ((own_ushr p0 (16 : Int32)).toUInt32.toUInt16.toUInt32.toInt32)) else (nar .char (((64 : Int32) + ((own_ushr p0 (1 : Int32)) &&& (63 : Int32))).toUInt32.toUInt16.toUInt32.toInt32)))
def Q1 (Z : State) (p0 : Int32) (h0 : Heap) (n0 : Nat) (v : Option Value) (h : Heap) (L : List Loc) : Prop := v = some (.int (own_pick p0)) ∧ Fr n0 L ∧ h = h0
theorem d1_11 : decode method_2_code 11 = .ok (.ireturn, 1) := by decide +kernel
theorem d1_22 : decode method_2_code 22 = .ok (.ireturn, 1) := by decide +kernel
set_option maxRecDepth 65536 in
set_option maxHeartbeats 40000000 in
theorem rm1 (l : Launch) (Z : State) (ag : Array Value) (hw : ∀ d ∈ tables_1, d.before ag Z = true) (ws : List Jvm.Cond) (p0 : Int32) (h0 : Heap) (n0 : Nat) (Z0 : n0 ≤ h0.size) :
    MetFree l (⟨"com/example/tenpoint/tenpoint/AsciiCaseStartsWithPinLaw", "pick", "(I)C"⟩ : MethodName) (head1 (Jvm.Cond.code (⟨"com/example/tenpoint/tenpoint/AsciiCaseStartsWithPinLaw", "pick", "(I)C"⟩ : MethodName) method_2_code 1 (some .char) :: ws) ({ frames := 0, cells := 0, slots := 0, locals := 0 } : Room)) (fun a U => a = #[(.int p0)] ∧ Z.Warmed39 U.vm ∧ U.heap = h0) (fun _ _ _ _ _ => True) (fun _ U o U' => ∃ v L, o = .returned v ∧ Q1 Z p0 h0 n0 v U'.heap L ∧ FrameEnd U o U' L ({ frames := 0, cells := 0, slots := 0, locals := 0 } : Room).cells ({ frames := 0, cells := 0, slots := 0, locals := 0 } : Room).slots) := by
  refine MetFree.of_bodySF (plainFor_of_name pn_1) hisR ?_
  intro p e s m args below meth c s₁ Bd hml0 hP hK
  obtain ⟨rfl, hZ, hh⟩ := hP
  have hx := Bd.exec
  have hby := Bd.bytes
  have hml : c.maxLocals = 1 := hml0
  have hown : s.vm.findClass "com/example/tenpoint/tenpoint/AsciiCaseStartsWithPinLaw" = some m.cls := findClass_of_methodNamed Bd.named
  have hnm := (name_of_methodNamed Bd.named Bd.method).1
  have X0 : Stand p l e ({ frames := 0, cells := 0, slots := 0, locals := 0 } : Room) s m #[(.int p0)] below meth c s₁ [] 0 0 := Stand.of_body Bd
  have e0 : s₁.heap = h0 := by rw [← hh, Bd.state]; rfl
  have N0 := Fr.nil n0
  have pre0 : ∀ t, Steps p.tables e below (s₁.setTop (mkF m 0 #[.val (.int p0)] [])) t → Steps p.tables e below (s₁.setTop (entryFrame m #[(.int p0)] 1)) t := fun t k => castTop (ef_1 m p0) k
  obtain ⟨fs, hr, hrun, hended, hW, hsame⟩ := X0.leave (v := some (.int (own_pick p0))) (fun h => by rw [Bd.returns] at h; cases h)
  refine ⟨_, _, pre0 _ ?_, hrun, hended, _, _, rfl, ?_, ⟨_, rfl⟩, hW, hsame.mono (by decide) (by decide)⟩
  · show own_S p e below s₁ (mkF m 0 #[.val (.int p0)] []) _
    refine XS.iloadN X0.here hx rfl (hb hby d1_0) rfl ?_
    show own_S p e below s₁ (mkF m 1 #[.val (.int p0)] [(.int p0)]) _
    refine XS.iconst X0.here hx rfl (hb hby d1_1) ?_
    show own_S p e below s₁ (mkF m 2 #[.val (.int p0)] [.int 1, (.int p0)]) _
    refine XS.iand X0.here hx rfl (hb hby d1_2) rfl ?_
    by_cases hc496 : (p0 &&& (1 : Int32)) = (0 : Int32)
    · show own_S p e below s₁ (mkF m 3 #[.val (.int p0)] [(.int (p0 &&& (1 : Int32)))]) _
      refine XS.ifNo X0.here hx rfl (hb hby d1_3) rfl ((if0 _ _).trans (teq hc496).2) ?_
      show own_S p e below s₁ (mkF m 6 #[.val (.int p0)] []) _
      refine XS.iloadN X0.here hx rfl (hb hby d1_6) rfl ?_
      show own_S p e below s₁ (mkF m 7 #[.val (.int p0)] [(.int p0)]) _
      refine XS.bipush X0.here hx rfl (hb hby d1_7) ?_
      show own_S p e below s₁ (mkF m 9 #[.val (.int p0)] [.int 16, (.int p0)]) _
      refine XS.iushr X0.here hx rfl (hb hby d1_9) rfl ?_
      show own_S p e below s₁ (mkF m 10 #[.val (.int p0)] [(.int (own_ushr p0 (16 : Int32)))]) _
      refine XS.i2c X0.here hx rfl (hb hby d1_10) rfl ?_
      show own_S p e below s₁ (mkF m 11 #[.val (.int p0)] [(.int ((own_ushr p0 (16 : Int32)).toUInt32.toUInt16.toUInt32.toInt32))]) _
      have q : (own_pick p0) = (nar .char ((own_ushr p0 (16 : Int32)).toUInt32.toUInt16.toUInt32.toInt32)) := by unfold own_pick; rw [if_pos hc496]
      have hr := own_cast (P := fun z => ∀ (f : JFrame) (acts : List Action), f.method = m → f.locked = none → f.entered = [] → (doReturn e (s₁.setTop f) acts (some (.int z))).1 = s₁.setFrames fs) q hr
      exact retN X0 hx (t := .char) Bd.returns (by simp) (hb hby d1_11) hr
    · show own_S p e below s₁ (mkF m 3 #[.val (.int p0)] [(.int (p0 &&& (1 : Int32)))]) _
      refine XS.ifYes X0.here hx rfl (pc0 := 3) (pc' := 12) rfl (hb hby d1_3) rfl ((if0 _ _).trans (feq hc496).2) (by decide) (by decide) ?_
      show own_S p e below s₁ (mkF m 12 #[.val (.int p0)] []) _
      refine XS.bipush X0.here hx rfl (hb hby d1_12) ?_
      show own_S p e below s₁ (mkF m 14 #[.val (.int p0)] [.int 64]) _
      refine XS.iloadN X0.here hx rfl (hb hby d1_14) rfl ?_
      show own_S p e below s₁ (mkF m 15 #[.val (.int p0)] [(.int p0), .int 64]) _
      refine XS.iconst X0.here hx rfl (hb hby d1_15) ?_
      show own_S p e below s₁ (mkF m 16 #[.val (.int p0)] [.int 1, (.int p0), .int 64]) _
      refine XS.iushr X0.here hx rfl (hb hby d1_16) rfl ?_
      show own_S p e below s₁ (mkF m 17 #[.val (.int p0)] [(.int (own_ushr p0 (1 : Int32))), .int 64]) _
      refine XS.bipush X0.here hx rfl (hb hby d1_17) ?_
      show own_S p e below s₁ (mkF m 19 #[.val (.int p0)] [.int 63, (.int (own_ushr p0 (1 : Int32))), .int 64]) _
      refine XS.iand X0.here hx rfl (hb hby d1_19) rfl ?_
      show own_S p e below s₁ (mkF m 20 #[.val (.int p0)] [(.int ((own_ushr p0 (1 : Int32)) &&& (63 : Int32))), .int 64]) _
      refine XS.iadd X0.here hx rfl (hb hby d1_20) rfl ?_
      show own_S p e below s₁ (mkF m 21 #[.val (.int p0)] [(.int ((64 : Int32) + ((own_ushr p0 (1 : Int32)) &&& (63 : Int32))))]) _
      refine XS.i2c X0.here hx rfl (hb hby d1_21) rfl ?_
      show own_S p e below s₁ (mkF m 22 #[.val (.int p0)] [(.int (((64 : Int32) + ((own_ushr p0 (1 : Int32)) &&& (63 : Int32))).toUInt32.toUInt16.toUInt32.toInt32))]) _
      have q : (own_pick p0) = (nar .char (((64 : Int32) + ((own_ushr p0 (1 : Int32)) &&& (63 : Int32))).toUInt32.toUInt16.toUInt32.toInt32)) := by unfold own_pick; rw [if_neg hc496]
      have hr := own_cast (P := fun z => ∀ (f : JFrame) (acts : List Action), f.method = m → f.locked = none → f.entered = [] → (doReturn e (s₁.setTop f) acts (some (.int z))).1 = s₁.setFrames fs) q hr
      exact retN X0 hx (t := .char) Bd.returns (by simp) (hb hby d1_22) hr
  · show Q1 Z p0 h0 n0 _ s₁.heap _
    rw [e0]
    exact ⟨rfl, N0, rfl⟩
theorem ef_2 (m : MethodId) (p0 : Int32) (p1 : Int32) : entryFrame m #[(.int p0), (.int p1)] 4 = mkF m 0 #[.val (.int p0), .val (.int p1), .unset, .unset] [] := by first | (simp [entryFrame, mkF, argsToLocals, Value.category]; done) | rfl
theorem d2_0 : decode method_3_code 0 = .ok (.iload_n 1, 1) := by decide +kernel
theorem d2_1 : decode method_3_code 1 = .ok (.iconst 3, 1) := by decide +kernel
theorem d2_2 : decode method_3_code 2 = .ok (.iand, 1) := by decide +kernel
theorem d2_3 : decode method_3_code 3 = .ok (.istore_n 2, 1) := by decide +kernel
theorem d2_4 : decode method_3_code 4 = .ok (.iload_n 2, 1) := by decide +kernel
theorem d2_5 : decode method_3_code 5 = .ok (.ifCond .ne 8, 3) := by decide +kernel
theorem d2_8 : decode method_3_code 8 = .ok (.iload_n 0, 1) := by decide +kernel
theorem d2_9 : decode method_3_code 9 = .ok (.istore_n 3, 1) := by decide +kernel
theorem d2_10 : decode method_3_code 10 = .ok (.goto 36, 3) := by decide +kernel
theorem d2_46 : decode method_3_code 46 = .ok (.iload_n 3, 1) := by decide +kernel
theorem d2_47 : decode method_3_code 47 = .ok (.bipush 65, 2) := by decide +kernel
theorem d2_49 : decode method_3_code 49 = .ok (.if_icmp .lt 15, 3) := by decide +kernel
theorem d2_64 : decode method_3_code 64 = .ok (.iload_n 3, 1) := by decide +kernel
theorem d2_52 : decode method_3_code 52 = .ok (.iload_n 3, 1) := by decide +kernel
theorem d2_53 : decode method_3_code 53 = .ok (.bipush 90, 2) := by decide +kernel
theorem d2_55 : decode method_3_code 55 = .ok (.if_icmp .gt 9, 3) := by decide +kernel
theorem d2_58 : decode method_3_code 58 = .ok (.iload_n 3, 1) := by decide +kernel
theorem d2_59 : decode method_3_code 59 = .ok (.bipush 32, 2) := by decide +kernel
theorem d2_61 : decode method_3_code 61 = .ok (.iadd, 1) := by decide +kernel
theorem d2_62 : decode method_3_code 62 = .ok (.i2c, 1) := by decide +kernel
theorem d2_63 : decode method_3_code 63 = .ok (.istore_n 3, 1) := by decide +kernel
abbrev own_loc28 (p0 : Int32) (p1 : Int32) : Array Slot := #[.val (.int p0), .val (.int p1), .val (.int (p1 &&& (3 : Int32))), .val (.int ((p0 + (32 : Int32)).toUInt32.toUInt16.toUInt32.toInt32))]
theorem d2_13 : decode method_3_code 13 = .ok (.iload_n 2, 1) := by decide +kernel
theorem d2_14 : decode method_3_code 14 = .ok (.iconst 1, 1) := by decide +kernel
theorem d2_15 : decode method_3_code 15 = .ok (.if_icmp .ne 12, 3) := by decide +kernel
theorem d2_18 : decode method_3_code 18 = .ok (.iload_n 0, 1) := by decide +kernel
theorem d2_19 : decode method_3_code 19 = .ok (.bipush 32, 2) := by decide +kernel
theorem d2_21 : decode method_3_code 21 = .ok (.iadd, 1) := by decide +kernel
theorem d2_22 : decode method_3_code 22 = .ok (.i2c, 1) := by decide +kernel
theorem d2_23 : decode method_3_code 23 = .ok (.istore_n 3, 1) := by decide +kernel
theorem d2_24 : decode method_3_code 24 = .ok (.goto 22, 3) := by decide +kernel
abbrev own_loc29 (p0 : Int32) (p1 : Int32) : Array Slot := #[.val (.int p0), .val (.int p1), .val (.int (p1 &&& (3 : Int32))), .val (.int ((((p0 + (32 : Int32)).toUInt32.toUInt16.toUInt32.toInt32) + (32 : Int32)).toUInt32.toUInt16.toUInt32.toInt32))]
theorem d2_27 : decode method_3_code 27 = .ok (.iload_n 2, 1) := by decide +kernel
theorem d2_28 : decode method_3_code 28 = .ok (.iconst 2, 1) := by decide +kernel
theorem d2_29 : decode method_3_code 29 = .ok (.if_icmp .ne 11, 3) := by decide +kernel
theorem d2_32 : decode method_3_code 32 = .ok (.iload_n 0, 1) := by decide +kernel
theorem d2_33 : decode method_3_code 33 = .ok (.iconst 1, 1) := by decide +kernel
theorem d2_34 : decode method_3_code 34 = .ok (.iadd, 1) := by decide +kernel
theorem d2_35 : decode method_3_code 35 = .ok (.i2c, 1) := by decide +kernel
theorem d2_36 : decode method_3_code 36 = .ok (.istore_n 3, 1) := by decide +kernel
abbrev own_loc30 (p0 : Int32) (p1 : Int32) : Array Slot := #[.val (.int p0), .val (.int p1), .val (.int (p1 &&& (3 : Int32))), .val (.int ((p0 + (1 : Int32)).toUInt32.toUInt16.toUInt32.toInt32))]
theorem d2_37 : decode method_3_code 37 = .ok (.goto 9, 3) := by decide +kernel
abbrev own_loc31 (p0 : Int32) (p1 : Int32) : Array Slot := #[.val (.int p0), .val (.int p1), .val (.int (p1 &&& (3 : Int32))), .val (.int ((((p0 + (1 : Int32)).toUInt32.toUInt16.toUInt32.toInt32) + (32 : Int32)).toUInt32.toUInt16.toUInt32.toInt32))]
theorem d2_40 : decode method_3_code 40 = .ok (.iload_n 1, 1) := by decide +kernel
theorem d2_41 : decode method_3_code 41 = .ok (.bipush 16, 2) := by decide +kernel
theorem d2_43 : decode method_3_code 43 = .ok (.iushr, 1) := by decide +kernel
theorem d2_44 : decode method_3_code 44 = .ok (.i2c, 1) := by decide +kernel
theorem d2_45 : decode method_3_code 45 = .ok (.istore_n 3, 1) := by decide +kernel
abbrev own_loc32 (p0 : Int32) (p1 : Int32) : Array Slot := #[.val (.int p0), .val (.int p1), .val (.int (p1 &&& (3 : Int32))), .val (.int ((own_ushr p1 (16 : Int32)).toUInt32.toUInt16.toUInt32.toInt32))]
abbrev own_loc33 (p0 : Int32) (p1 : Int32) : Array Slot := #[.val (.int p0), .val (.int p1), .val (.int (p1 &&& (3 : Int32))), .val (.int ((((own_ushr p1 (16 : Int32)).toUInt32.toUInt16.toUInt32.toInt32) + (32 : Int32)).toUInt32.toUInt16.toUInt32.toInt32))]
def own_der (p0 : Int32) (p1 : Int32) : Int32 := (if (p1 &&& (3 : Int32)) = (0 : Int32) then (if p0 < (65 : Int32) then (nar .char p0) else (if (90 : Int32) < p0 then (nar .char p0) else (nar .char ((p0 + (32 : Int32)).toUInt32.toUInt16.toUInt32.toInt32)))) else (if (p1 &&& (3 : Int32)) = (1 : Int32) then (if ((p0 + (32 : Int32)).toUInt32.toUInt16.toUInt32.toInt32) < (65 : Int32) then (nar .char ((p0 + (32 : Int32)).toUInt32.toUInt16.toUInt32.toInt32)) else (if (90 : Int32) < ((p0 + (32 : Int32)).toUInt32.toUInt16.toUInt32.toInt32) then (nar .char ((p0 + (32 : Int32)).toUInt32.toUInt16.toUInt32.toInt32)) else (nar .char ((((p0 + (32 : Int32)).toUInt32.toUInt16.toUInt32.toInt32) + (32 : Int32)).toUInt32.toUInt16.toUInt32.toInt32)))) else (if (p1 &&& (3 : Int32)) = (2 : Int32) then (if ((p0 + (1 : Int32)).toUInt32.toUInt16.toUInt32.toInt32) < (65 : Int32) then (nar .char ((p0 + (1 : Int32)).toUInt32.toUInt16.toUInt32.toInt32)) else (if (90 : Int32) < ((p0 + (1 : Int32)).toUInt32.toUInt16.toUInt32.toInt32) then (nar .char ((p0 + (1 : Int32)).toUInt32.toUInt16.toUInt32.toInt32)) else (nar .char ((((p0 + (1 : Int32)).toUInt32.toUInt16.toUInt32.toInt32) + (32 : Int32)).toUInt32.toUInt16.toUInt32.toInt32)))) else (if ((own_ushr p1 (16 : Int32)).toUInt32.toUInt16.toUInt32.toInt32) < (65 : Int32) then (nar .char ((own_ushr p1 (16 : Int32)).toUInt32.toUInt16.toUInt32.toInt32)) else (if (90 : Int32) < ((own_ushr p1 (16 : Int32)).toUInt32.toUInt16.toUInt32.toInt32) then (nar .char ((own_ushr p1 (16 : Int32)).toUInt32.toUInt16.toUInt32.toInt32)) else (nar .char ((((own_ushr p1 (16 : Int32)).toUInt32.toUInt16.toUInt32.toInt32) + (32 : Int32)).toUInt32.toUInt16.toUInt32.toInt32)))))))
def Q2 (Z : State) (p0 : Int32) (p1 : Int32) (h0 : Heap) (n0 : Nat) (v : Option Value) (h : Heap) (L : List Loc) : Prop := v = some (.int (own_der p0 p1)) ∧ Fr n0 L ∧ h = h0
theorem d2_65 : decode method_3_code 65 = .ok (.ireturn, 1) := by decide +kernel
set_option maxRecDepth 65536 in
set_option maxHeartbeats 40000000 in
theorem rm2 (l : Launch) (Z : State) (ag : Array Value) (hw : ∀ d ∈ tables_1, d.before ag Z = true) (ws : List Jvm.Cond) (p0 : Int32) (p1 : Int32) (h0 : Heap) (n0 : Nat) (Z0 : n0 ≤ h0.size) :
    MetFree l (⟨"com/example/tenpoint/tenpoint/AsciiCaseStartsWithPinLaw", "derive", "(CI)C"⟩ : MethodName) (head1 (Jvm.Cond.code (⟨"com/example/tenpoint/tenpoint/AsciiCaseStartsWithPinLaw", "derive", "(CI)C"⟩ : MethodName) method_3_code 4 (some .char) :: ws) ({ frames := 0, cells := 0, slots := 0, locals := 0 } : Room)) (fun a U => a = #[(.int p0), (.int p1)] ∧ Z.Warmed39 U.vm ∧ U.heap = h0) (fun _ _ _ _ _ => True) (fun _ U o U' => ∃ v L, o = .returned v ∧ Q2 Z p0 p1 h0 n0 v U'.heap L ∧ FrameEnd U o U' L ({ frames := 0, cells := 0, slots := 0, locals := 0 } : Room).cells ({ frames := 0, cells := 0, slots := 0, locals := 0 } : Room).slots) := by
  refine MetFree.of_bodySF (plainFor_of_name pn_1) hisR ?_
  intro p e s m args below meth c s₁ Bd hml0 hP hK
  obtain ⟨rfl, hZ, hh⟩ := hP
  have hx := Bd.exec
  have hby := Bd.bytes
  have hml : c.maxLocals = 4 := hml0
  have hown : s.vm.findClass "com/example/tenpoint/tenpoint/AsciiCaseStartsWithPinLaw" = some m.cls := findClass_of_methodNamed Bd.named
  have hnm := (name_of_methodNamed Bd.named Bd.method).1
  have X0 : Stand p l e ({ frames := 0, cells := 0, slots := 0, locals := 0 } : Room) s m #[(.int p0), (.int p1)] below meth c s₁ [] 0 0 := Stand.of_body Bd
  have e0 : s₁.heap = h0 := by rw [← hh, Bd.state]; rfl
  have N0 := Fr.nil n0
  have pre0 : ∀ t, Steps p.tables e below (s₁.setTop (mkF m 0 #[.val (.int p0), .val (.int p1), .unset, .unset] [])) t → Steps p.tables e below (s₁.setTop (entryFrame m #[(.int p0), (.int p1)] 4)) t := fun t k => castTop (ef_2 m p0 p1) k
  obtain ⟨fs, hr, hrun, hended, hW, hsame⟩ := X0.leave (v := some (.int (own_der p0 p1))) (fun h => by rw [Bd.returns] at h; cases h)
  refine ⟨_, _, pre0 _ ?_, hrun, hended, _, _, rfl, ?_, ⟨_, rfl⟩, hW, hsame.mono (by decide) (by decide)⟩
  · show own_S p e below s₁ (mkF m 0 #[.val (.int p0), .val (.int p1), .unset, .unset] []) _
    refine XS.iloadN X0.here hx rfl (hb hby d2_0) rfl ?_
    show own_S p e below s₁ (mkF m 1 #[.val (.int p0), .val (.int p1), .unset, .unset] [(.int p1)]) _
    refine XS.iconst X0.here hx rfl (hb hby d2_1) ?_
    show own_S p e below s₁ (mkF m 2 #[.val (.int p0), .val (.int p1), .unset, .unset] [.int 3, (.int p1)]) _
    refine XS.iand X0.here hx rfl (hb hby d2_2) rfl ?_
    show own_S p e below s₁ (mkF m 3 #[.val (.int p0), .val (.int p1), .unset, .unset] [(.int (p1 &&& (3 : Int32)))]) _
    refine XS.istoreN X0.here hx rfl (hb hby d2_3) rfl (l' := #[.val (.int p0), .val (.int p1), .val (.int (p1 &&& (3 : Int32))), .unset]) rfl ?_
    show own_S p e below s₁ (mkF m 4 #[.val (.int p0), .val (.int p1), .val (.int (p1 &&& (3 : Int32))), .unset] []) _
    refine XS.iloadN X0.here hx rfl (hb hby d2_4) rfl ?_
    by_cases hc497 : (p1 &&& (3 : Int32)) = (0 : Int32)
    · show own_S p e below s₁ (mkF m 5 #[.val (.int p0), .val (.int p1), .val (.int (p1 &&& (3 : Int32))), .unset] [(.int (p1 &&& (3 : Int32)))]) _
      refine XS.ifNo X0.here hx rfl (hb hby d2_5) rfl ((if0 _ _).trans (teq hc497).2) ?_
      show own_S p e below s₁ (mkF m 8 #[.val (.int p0), .val (.int p1), .val (.int (p1 &&& (3 : Int32))), .unset] []) _
      refine XS.iloadN X0.here hx rfl (hb hby d2_8) rfl ?_
      show own_S p e below s₁ (mkF m 9 #[.val (.int p0), .val (.int p1), .val (.int (p1 &&& (3 : Int32))), .unset] [(.int p0)]) _
      refine XS.istoreN X0.here hx rfl (hb hby d2_9) rfl (l' := #[.val (.int p0), .val (.int p1), .val (.int (p1 &&& (3 : Int32))), .val (.int p0)]) rfl ?_
      show own_S p e below s₁ (mkF m 10 #[.val (.int p0), .val (.int p1), .val (.int (p1 &&& (3 : Int32))), .val (.int p0)] []) _
      refine XS.goto X0.here hx rfl (pc0 := 10) (pc' := 46) rfl (hb hby d2_10) (by decide) (by decide) ?_
      show own_S p e below s₁ (mkF m 46 #[.val (.int p0), .val (.int p1), .val (.int (p1 &&& (3 : Int32))), .val (.int p0)] []) _
      refine XS.iloadN X0.here hx rfl (hb hby d2_46) rfl ?_
      show own_S p e below s₁ (mkF m 47 #[.val (.int p0), .val (.int p1), .val (.int (p1 &&& (3 : Int32))), .val (.int p0)] [(.int p0)]) _
      refine XS.bipush X0.here hx rfl (hb hby d2_47) ?_
      by_cases hc498 : p0 < (65 : Int32)
      · show own_S p e below s₁ (mkF m 49 #[.val (.int p0), .val (.int p1), .val (.int (p1 &&& (3 : Int32))), .val (.int p0)] [.int 65, (.int p0)]) _
        refine XS.icmpYes X0.here hx rfl (pc0 := 49) (pc' := 64) rfl (hb hby d2_49) rfl (tlt hc498).1 (by decide) (by decide) ?_
        show own_S p e below s₁ (mkF m 64 #[.val (.int p0), .val (.int p1), .val (.int (p1 &&& (3 : Int32))), .val (.int p0)] []) _
        refine XS.iloadN X0.here hx rfl (hb hby d2_64) rfl ?_
        show own_S p e below s₁ (mkF m 65 #[.val (.int p0), .val (.int p1), .val (.int (p1 &&& (3 : Int32))), .val (.int p0)] [(.int p0)]) _
        have q : (own_der p0 p1) = (nar .char p0) := by unfold own_der; rw [if_pos hc497, if_pos hc498]
        have hr := own_cast (P := fun z => ∀ (f : JFrame) (acts : List Action), f.method = m → f.locked = none → f.entered = [] → (doReturn e (s₁.setTop f) acts (some (.int z))).1 = s₁.setFrames fs) q hr
        exact retN X0 hx (t := .char) Bd.returns (by simp) (hb hby d2_65) hr
      · show own_S p e below s₁ (mkF m 49 #[.val (.int p0), .val (.int p1), .val (.int (p1 &&& (3 : Int32))), .val (.int p0)] [.int 65, (.int p0)]) _
        refine XS.icmpNo X0.here hx rfl (hb hby d2_49) rfl (flt hc498).1 ?_
        show own_S p e below s₁ (mkF m 52 #[.val (.int p0), .val (.int p1), .val (.int (p1 &&& (3 : Int32))), .val (.int p0)] []) _
        refine XS.iloadN X0.here hx rfl (hb hby d2_52) rfl ?_
        show own_S p e below s₁ (mkF m 53 #[.val (.int p0), .val (.int p1), .val (.int (p1 &&& (3 : Int32))), .val (.int p0)] [(.int p0)]) _
        refine XS.bipush X0.here hx rfl (hb hby d2_53) ?_
        by_cases hc499 : (90 : Int32) < p0
        · show own_S p e below s₁ (mkF m 55 #[.val (.int p0), .val (.int p1), .val (.int (p1 &&& (3 : Int32))), .val (.int p0)] [.int 90, (.int p0)]) _
          refine XS.icmpYes X0.here hx rfl (pc0 := 55) (pc' := 64) rfl (hb hby d2_55) rfl (tlt hc499).2.2.1 (by decide) (by decide) ?_
          show own_S p e below s₁ (mkF m 64 #[.val (.int p0), .val (.int p1), .val (.int (p1 &&& (3 : Int32))), .val (.int p0)] []) _
          refine XS.iloadN X0.here hx rfl (hb hby d2_64) rfl ?_
          show own_S p e below s₁ (mkF m 65 #[.val (.int p0), .val (.int p1), .val (.int (p1 &&& (3 : Int32))), .val (.int p0)] [(.int p0)]) _
          have q : (own_der p0 p1) = (nar .char p0) := by unfold own_der; rw [if_pos hc497, if_neg hc498, if_pos hc499]
          have hr := own_cast (P := fun z => ∀ (f : JFrame) (acts : List Action), f.method = m → f.locked = none → f.entered = [] → (doReturn e (s₁.setTop f) acts (some (.int z))).1 = s₁.setFrames fs) q hr
          exact retN X0 hx (t := .char) Bd.returns (by simp) (hb hby d2_65) hr
        · show own_S p e below s₁ (mkF m 55 #[.val (.int p0), .val (.int p1), .val (.int (p1 &&& (3 : Int32))), .val (.int p0)] [.int 90, (.int p0)]) _
          refine XS.icmpNo X0.here hx rfl (hb hby d2_55) rfl (flt hc499).2.2.1 ?_
          show own_S p e below s₁ (mkF m 58 #[.val (.int p0), .val (.int p1), .val (.int (p1 &&& (3 : Int32))), .val (.int p0)] []) _
          refine XS.iloadN X0.here hx rfl (hb hby d2_58) rfl ?_
          show own_S p e below s₁ (mkF m 59 #[.val (.int p0), .val (.int p1), .val (.int (p1 &&& (3 : Int32))), .val (.int p0)] [(.int p0)]) _
          refine XS.bipush X0.here hx rfl (hb hby d2_59) ?_
          show own_S p e below s₁ (mkF m 61 #[.val (.int p0), .val (.int p1), .val (.int (p1 &&& (3 : Int32))), .val (.int p0)] [.int 32, (.int p0)]) _
          refine XS.iadd X0.here hx rfl (hb hby d2_61) rfl ?_
          show own_S p e below s₁ (mkF m 62 #[.val (.int p0), .val (.int p1), .val (.int (p1 &&& (3 : Int32))), .val (.int p0)] [(.int (p0 + (32 : Int32)))]) _
          refine XS.i2c X0.here hx rfl (hb hby d2_62) rfl ?_
          show own_S p e below s₁ (mkF m 63 #[.val (.int p0), .val (.int p1), .val (.int (p1 &&& (3 : Int32))), .val (.int p0)] [(.int ((p0 + (32 : Int32)).toUInt32.toUInt16.toUInt32.toInt32))]) _
          refine XS.istoreN X0.here hx rfl (hb hby d2_63) rfl (l' := (own_loc28 p0 p1)) rfl ?_
          show own_S p e below s₁ (mkF m 64 (own_loc28 p0 p1) []) _
          refine XS.iloadN X0.here hx rfl (hb hby d2_64) rfl ?_
          show own_S p e below s₁ (mkF m 65 (own_loc28 p0 p1) [(.int ((p0 + (32 : Int32)).toUInt32.toUInt16.toUInt32.toInt32))]) _
          have q : (own_der p0 p1) = (nar .char ((p0 + (32 : Int32)).toUInt32.toUInt16.toUInt32.toInt32)) := by unfold own_der; rw [if_pos hc497, if_neg hc498, if_neg hc499]
          have hr := own_cast (P := fun z => ∀ (f : JFrame) (acts : List Action), f.method = m → f.locked = none → f.entered = [] → (doReturn e (s₁.setTop f) acts (some (.int z))).1 = s₁.setFrames fs) q hr
          exact retN X0 hx (t := .char) Bd.returns (by simp) (hb hby d2_65) hr
    · show own_S p e below s₁ (mkF m 5 #[.val (.int p0), .val (.int p1), .val (.int (p1 &&& (3 : Int32))), .unset] [(.int (p1 &&& (3 : Int32)))]) _
      refine XS.ifYes X0.here hx rfl (pc0 := 5) (pc' := 13) rfl (hb hby d2_5) rfl ((if0 _ _).trans (feq hc497).2) (by decide) (by decide) ?_
      show own_S p e below s₁ (mkF m 13 #[.val (.int p0), .val (.int p1), .val (.int (p1 &&& (3 : Int32))), .unset] []) _
      refine XS.iloadN X0.here hx rfl (hb hby d2_13) rfl ?_
      show own_S p e below s₁ (mkF m 14 #[.val (.int p0), .val (.int p1), .val (.int (p1 &&& (3 : Int32))), .unset] [(.int (p1 &&& (3 : Int32)))]) _
      refine XS.iconst X0.here hx rfl (hb hby d2_14) ?_
      by_cases hc500 : (p1 &&& (3 : Int32)) = (1 : Int32)
      · show own_S p e below s₁ (mkF m 15 #[.val (.int p0), .val (.int p1), .val (.int (p1 &&& (3 : Int32))), .unset] [.int 1, (.int (p1 &&& (3 : Int32)))]) _
        refine XS.icmpNo X0.here hx rfl (hb hby d2_15) rfl (teq hc500).2 ?_
        show own_S p e below s₁ (mkF m 18 #[.val (.int p0), .val (.int p1), .val (.int (p1 &&& (3 : Int32))), .unset] []) _
        refine XS.iloadN X0.here hx rfl (hb hby d2_18) rfl ?_
        show own_S p e below s₁ (mkF m 19 #[.val (.int p0), .val (.int p1), .val (.int (p1 &&& (3 : Int32))), .unset] [(.int p0)]) _
        refine XS.bipush X0.here hx rfl (hb hby d2_19) ?_
        show own_S p e below s₁ (mkF m 21 #[.val (.int p0), .val (.int p1), .val (.int (p1 &&& (3 : Int32))), .unset] [.int 32, (.int p0)]) _
        refine XS.iadd X0.here hx rfl (hb hby d2_21) rfl ?_
        show own_S p e below s₁ (mkF m 22 #[.val (.int p0), .val (.int p1), .val (.int (p1 &&& (3 : Int32))), .unset] [(.int (p0 + (32 : Int32)))]) _
        refine XS.i2c X0.here hx rfl (hb hby d2_22) rfl ?_
        show own_S p e below s₁ (mkF m 23 #[.val (.int p0), .val (.int p1), .val (.int (p1 &&& (3 : Int32))), .unset] [(.int ((p0 + (32 : Int32)).toUInt32.toUInt16.toUInt32.toInt32))]) _
        refine XS.istoreN X0.here hx rfl (hb hby d2_23) rfl (l' := (own_loc28 p0 p1)) rfl ?_
        show own_S p e below s₁ (mkF m 24 (own_loc28 p0 p1) []) _
        refine XS.goto X0.here hx rfl (pc0 := 24) (pc' := 46) rfl (hb hby d2_24) (by decide) (by decide) ?_
        show own_S p e below s₁ (mkF m 46 (own_loc28 p0 p1) []) _
        refine XS.iloadN X0.here hx rfl (hb hby d2_46) rfl ?_
        show own_S p e below s₁ (mkF m 47 (own_loc28 p0 p1) [(.int ((p0 + (32 : Int32)).toUInt32.toUInt16.toUInt32.toInt32))]) _
        refine XS.bipush X0.here hx rfl (hb hby d2_47) ?_
        by_cases hc501 : ((p0 + (32 : Int32)).toUInt32.toUInt16.toUInt32.toInt32) < (65 : Int32)
        · show own_S p e below s₁ (mkF m 49 (own_loc28 p0 p1) [.int 65, (.int ((p0 + (32 : Int32)).toUInt32.toUInt16.toUInt32.toInt32))]) _
          refine XS.icmpYes X0.here hx rfl (pc0 := 49) (pc' := 64) rfl (hb hby d2_49) rfl (tlt hc501).1 (by decide) (by decide) ?_
          show own_S p e below s₁ (mkF m 64 (own_loc28 p0 p1) []) _
          refine XS.iloadN X0.here hx rfl (hb hby d2_64) rfl ?_
          show own_S p e below s₁ (mkF m 65 (own_loc28 p0 p1) [(.int ((p0 + (32 : Int32)).toUInt32.toUInt16.toUInt32.toInt32))]) _
          have q : (own_der p0 p1) = (nar .char ((p0 + (32 : Int32)).toUInt32.toUInt16.toUInt32.toInt32)) := by unfold own_der; rw [if_neg hc497, if_pos hc500, if_pos hc501]
          have hr := own_cast (P := fun z => ∀ (f : JFrame) (acts : List Action), f.method = m → f.locked = none → f.entered = [] → (doReturn e (s₁.setTop f) acts (some (.int z))).1 = s₁.setFrames fs) q hr
          exact retN X0 hx (t := .char) Bd.returns (by simp) (hb hby d2_65) hr
        · show own_S p e below s₁ (mkF m 49 (own_loc28 p0 p1) [.int 65, (.int ((p0 + (32 : Int32)).toUInt32.toUInt16.toUInt32.toInt32))]) _
          refine XS.icmpNo X0.here hx rfl (hb hby d2_49) rfl (flt hc501).1 ?_
          show own_S p e below s₁ (mkF m 52 (own_loc28 p0 p1) []) _
          refine XS.iloadN X0.here hx rfl (hb hby d2_52) rfl ?_
          show own_S p e below s₁ (mkF m 53 (own_loc28 p0 p1) [(.int ((p0 + (32 : Int32)).toUInt32.toUInt16.toUInt32.toInt32))]) _
          refine XS.bipush X0.here hx rfl (hb hby d2_53) ?_
          by_cases hc502 : (90 : Int32) < ((p0 + (32 : Int32)).toUInt32.toUInt16.toUInt32.toInt32)
          · show own_S p e below s₁ (mkF m 55 (own_loc28 p0 p1) [.int 90, (.int ((p0 + (32 : Int32)).toUInt32.toUInt16.toUInt32.toInt32))]) _
            refine XS.icmpYes X0.here hx rfl (pc0 := 55) (pc' := 64) rfl (hb hby d2_55) rfl (tlt hc502).2.2.1 (by decide) (by decide) ?_
            show own_S p e below s₁ (mkF m 64 (own_loc28 p0 p1) []) _
            refine XS.iloadN X0.here hx rfl (hb hby d2_64) rfl ?_
            show own_S p e below s₁ (mkF m 65 (own_loc28 p0 p1) [(.int ((p0 + (32 : Int32)).toUInt32.toUInt16.toUInt32.toInt32))]) _
            have q : (own_der p0 p1) = (nar .char ((p0 + (32 : Int32)).toUInt32.toUInt16.toUInt32.toInt32)) := by unfold own_der; rw [if_neg hc497, if_pos hc500, if_neg hc501, if_pos hc502]
            have hr := own_cast (P := fun z => ∀ (f : JFrame) (acts : List Action), f.method = m → f.locked = none → f.entered = [] → (doReturn e (s₁.setTop f) acts (some (.int z))).1 = s₁.setFrames fs) q hr
            exact retN X0 hx (t := .char) Bd.returns (by simp) (hb hby d2_65) hr
          · show own_S p e below s₁ (mkF m 55 (own_loc28 p0 p1) [.int 90, (.int ((p0 + (32 : Int32)).toUInt32.toUInt16.toUInt32.toInt32))]) _
            refine XS.icmpNo X0.here hx rfl (hb hby d2_55) rfl (flt hc502).2.2.1 ?_
            show own_S p e below s₁ (mkF m 58 (own_loc28 p0 p1) []) _
            refine XS.iloadN X0.here hx rfl (hb hby d2_58) rfl ?_
            show own_S p e below s₁ (mkF m 59 (own_loc28 p0 p1) [(.int ((p0 + (32 : Int32)).toUInt32.toUInt16.toUInt32.toInt32))]) _
            refine XS.bipush X0.here hx rfl (hb hby d2_59) ?_
            show own_S p e below s₁ (mkF m 61 (own_loc28 p0 p1) [.int 32, (.int ((p0 + (32 : Int32)).toUInt32.toUInt16.toUInt32.toInt32))]) _
            refine XS.iadd X0.here hx rfl (hb hby d2_61) rfl ?_
            show own_S p e below s₁ (mkF m 62 (own_loc28 p0 p1) [(.int (((p0 + (32 : Int32)).toUInt32.toUInt16.toUInt32.toInt32) + (32 : Int32)))]) _
            refine XS.i2c X0.here hx rfl (hb hby d2_62) rfl ?_
            show own_S p e below s₁ (mkF m 63 (own_loc28 p0 p1) [(.int ((((p0 + (32 : Int32)).toUInt32.toUInt16.toUInt32.toInt32) + (32 : Int32)).toUInt32.toUInt16.toUInt32.toInt32))]) _
            refine XS.istoreN X0.here hx rfl (hb hby d2_63) rfl (l' := (own_loc29 p0 p1)) rfl ?_
            show own_S p e below s₁ (mkF m 64 (own_loc29 p0 p1) []) _
            refine XS.iloadN X0.here hx rfl (hb hby d2_64) rfl ?_
            show own_S p e below s₁ (mkF m 65 (own_loc29 p0 p1) [(.int ((((p0 + (32 : Int32)).toUInt32.toUInt16.toUInt32.toInt32) + (32 : Int32)).toUInt32.toUInt16.toUInt32.toInt32))]) _
            have q : (own_der p0 p1) = (nar .char ((((p0 + (32 : Int32)).toUInt32.toUInt16.toUInt32.toInt32) + (32 : Int32)).toUInt32.toUInt16.toUInt32.toInt32)) := by unfold own_der; rw [if_neg hc497, if_pos hc500, if_neg hc501, if_neg hc502]
            have hr := own_cast (P := fun z => ∀ (f : JFrame) (acts : List Action), f.method = m → f.locked = none → f.entered = [] → (doReturn e (s₁.setTop f) acts (some (.int z))).1 = s₁.setFrames fs) q hr
            exact retN X0 hx (t := .char) Bd.returns (by simp) (hb hby d2_65) hr
      · show own_S p e below s₁ (mkF m 15 #[.val (.int p0), .val (.int p1), .val (.int (p1 &&& (3 : Int32))), .unset] [.int 1, (.int (p1 &&& (3 : Int32)))]) _
        refine XS.icmpYes X0.here hx rfl (pc0 := 15) (pc' := 27) rfl (hb hby d2_15) rfl (feq hc500).2 (by decide) (by decide) ?_
        show own_S p e below s₁ (mkF m 27 #[.val (.int p0), .val (.int p1), .val (.int (p1 &&& (3 : Int32))), .unset] []) _
        refine XS.iloadN X0.here hx rfl (hb hby d2_27) rfl ?_
        show own_S p e below s₁ (mkF m 28 #[.val (.int p0), .val (.int p1), .val (.int (p1 &&& (3 : Int32))), .unset] [(.int (p1 &&& (3 : Int32)))]) _
        refine XS.iconst X0.here hx rfl (hb hby d2_28) ?_
        by_cases hc503 : (p1 &&& (3 : Int32)) = (2 : Int32)
        · show own_S p e below s₁ (mkF m 29 #[.val (.int p0), .val (.int p1), .val (.int (p1 &&& (3 : Int32))), .unset] [.int 2, (.int (p1 &&& (3 : Int32)))]) _
          refine XS.icmpNo X0.here hx rfl (hb hby d2_29) rfl (teq hc503).2 ?_
          show own_S p e below s₁ (mkF m 32 #[.val (.int p0), .val (.int p1), .val (.int (p1 &&& (3 : Int32))), .unset] []) _
          refine XS.iloadN X0.here hx rfl (hb hby d2_32) rfl ?_
          show own_S p e below s₁ (mkF m 33 #[.val (.int p0), .val (.int p1), .val (.int (p1 &&& (3 : Int32))), .unset] [(.int p0)]) _
          refine XS.iconst X0.here hx rfl (hb hby d2_33) ?_
          show own_S p e below s₁ (mkF m 34 #[.val (.int p0), .val (.int p1), .val (.int (p1 &&& (3 : Int32))), .unset] [.int 1, (.int p0)]) _
          refine XS.iadd X0.here hx rfl (hb hby d2_34) rfl ?_
          show own_S p e below s₁ (mkF m 35 #[.val (.int p0), .val (.int p1), .val (.int (p1 &&& (3 : Int32))), .unset] [(.int (p0 + (1 : Int32)))]) _
          refine XS.i2c X0.here hx rfl (hb hby d2_35) rfl ?_
          show own_S p e below s₁ (mkF m 36 #[.val (.int p0), .val (.int p1), .val (.int (p1 &&& (3 : Int32))), .unset] [(.int ((p0 + (1 : Int32)).toUInt32.toUInt16.toUInt32.toInt32))]) _
          refine XS.istoreN X0.here hx rfl (hb hby d2_36) rfl (l' := (own_loc30 p0 p1)) rfl ?_
          show own_S p e below s₁ (mkF m 37 (own_loc30 p0 p1) []) _
          refine XS.goto X0.here hx rfl (pc0 := 37) (pc' := 46) rfl (hb hby d2_37) (by decide) (by decide) ?_
          show own_S p e below s₁ (mkF m 46 (own_loc30 p0 p1) []) _
          refine XS.iloadN X0.here hx rfl (hb hby d2_46) rfl ?_
          show own_S p e below s₁ (mkF m 47 (own_loc30 p0 p1) [(.int ((p0 + (1 : Int32)).toUInt32.toUInt16.toUInt32.toInt32))]) _
          refine XS.bipush X0.here hx rfl (hb hby d2_47) ?_
          by_cases hc504 : ((p0 + (1 : Int32)).toUInt32.toUInt16.toUInt32.toInt32) < (65 : Int32)
          · show own_S p e below s₁ (mkF m 49 (own_loc30 p0 p1) [.int 65, (.int ((p0 + (1 : Int32)).toUInt32.toUInt16.toUInt32.toInt32))]) _
            refine XS.icmpYes X0.here hx rfl (pc0 := 49) (pc' := 64) rfl (hb hby d2_49) rfl (tlt hc504).1 (by decide) (by decide) ?_
            show own_S p e below s₁ (mkF m 64 (own_loc30 p0 p1) []) _
            refine XS.iloadN X0.here hx rfl (hb hby d2_64) rfl ?_
            show own_S p e below s₁ (mkF m 65 (own_loc30 p0 p1) [(.int ((p0 + (1 : Int32)).toUInt32.toUInt16.toUInt32.toInt32))]) _
            have q : (own_der p0 p1) = (nar .char ((p0 + (1 : Int32)).toUInt32.toUInt16.toUInt32.toInt32)) := by unfold own_der; rw [if_neg hc497, if_neg hc500, if_pos hc503, if_pos hc504]
            have hr := own_cast (P := fun z => ∀ (f : JFrame) (acts : List Action), f.method = m → f.locked = none → f.entered = [] → (doReturn e (s₁.setTop f) acts (some (.int z))).1 = s₁.setFrames fs) q hr
            exact retN X0 hx (t := .char) Bd.returns (by simp) (hb hby d2_65) hr
          · show own_S p e below s₁ (mkF m 49 (own_loc30 p0 p1) [.int 65, (.int ((p0 + (1 : Int32)).toUInt32.toUInt16.toUInt32.toInt32))]) _
            refine XS.icmpNo X0.here hx rfl (hb hby d2_49) rfl (flt hc504).1 ?_
            show own_S p e below s₁ (mkF m 52 (own_loc30 p0 p1) []) _
            refine XS.iloadN X0.here hx rfl (hb hby d2_52) rfl ?_
            show own_S p e below s₁ (mkF m 53 (own_loc30 p0 p1) [(.int ((p0 + (1 : Int32)).toUInt32.toUInt16.toUInt32.toInt32))]) _
            refine XS.bipush X0.here hx rfl (hb hby d2_53) ?_
            by_cases hc505 : (90 : Int32) < ((p0 + (1 : Int32)).toUInt32.toUInt16.toUInt32.toInt32)
            · show own_S p e below s₁ (mkF m 55 (own_loc30 p0 p1) [.int 90, (.int ((p0 + (1 : Int32)).toUInt32.toUInt16.toUInt32.toInt32))]) _
              refine XS.icmpYes X0.here hx rfl (pc0 := 55) (pc' := 64) rfl (hb hby d2_55) rfl (tlt hc505).2.2.1 (by decide) (by decide) ?_
              show own_S p e below s₁ (mkF m 64 (own_loc30 p0 p1) []) _
              refine XS.iloadN X0.here hx rfl (hb hby d2_64) rfl ?_
              show own_S p e below s₁ (mkF m 65 (own_loc30 p0 p1) [(.int ((p0 + (1 : Int32)).toUInt32.toUInt16.toUInt32.toInt32))]) _
              have q : (own_der p0 p1) = (nar .char ((p0 + (1 : Int32)).toUInt32.toUInt16.toUInt32.toInt32)) := by unfold own_der; rw [if_neg hc497, if_neg hc500, if_pos hc503, if_neg hc504, if_pos hc505]
              have hr := own_cast (P := fun z => ∀ (f : JFrame) (acts : List Action), f.method = m → f.locked = none → f.entered = [] → (doReturn e (s₁.setTop f) acts (some (.int z))).1 = s₁.setFrames fs) q hr
              exact retN X0 hx (t := .char) Bd.returns (by simp) (hb hby d2_65) hr
            · show own_S p e below s₁ (mkF m 55 (own_loc30 p0 p1) [.int 90, (.int ((p0 + (1 : Int32)).toUInt32.toUInt16.toUInt32.toInt32))]) _
              refine XS.icmpNo X0.here hx rfl (hb hby d2_55) rfl (flt hc505).2.2.1 ?_
              show own_S p e below s₁ (mkF m 58 (own_loc30 p0 p1) []) _
              refine XS.iloadN X0.here hx rfl (hb hby d2_58) rfl ?_
              show own_S p e below s₁ (mkF m 59 (own_loc30 p0 p1) [(.int ((p0 + (1 : Int32)).toUInt32.toUInt16.toUInt32.toInt32))]) _
              refine XS.bipush X0.here hx rfl (hb hby d2_59) ?_
              show own_S p e below s₁ (mkF m 61 (own_loc30 p0 p1) [.int 32, (.int ((p0 + (1 : Int32)).toUInt32.toUInt16.toUInt32.toInt32))]) _
              refine XS.iadd X0.here hx rfl (hb hby d2_61) rfl ?_
              show own_S p e below s₁ (mkF m 62 (own_loc30 p0 p1) [(.int (((p0 + (1 : Int32)).toUInt32.toUInt16.toUInt32.toInt32) + (32 : Int32)))]) _
              refine XS.i2c X0.here hx rfl (hb hby d2_62) rfl ?_
              show own_S p e below s₁ (mkF m 63 (own_loc30 p0 p1) [(.int ((((p0 + (1 : Int32)).toUInt32.toUInt16.toUInt32.toInt32) + (32 : Int32)).toUInt32.toUInt16.toUInt32.toInt32))]) _
              refine XS.istoreN X0.here hx rfl (hb hby d2_63) rfl (l' := (own_loc31 p0 p1)) rfl ?_
              show own_S p e below s₁ (mkF m 64 (own_loc31 p0 p1) []) _
              refine XS.iloadN X0.here hx rfl (hb hby d2_64) rfl ?_
              show own_S p e below s₁ (mkF m 65 (own_loc31 p0 p1) [(.int ((((p0 + (1 : Int32)).toUInt32.toUInt16.toUInt32.toInt32) + (32 : Int32)).toUInt32.toUInt16.toUInt32.toInt32))]) _
              have q : (own_der p0 p1) = (nar .char ((((p0 + (1 : Int32)).toUInt32.toUInt16.toUInt32.toInt32) + (32 : Int32)).toUInt32.toUInt16.toUInt32.toInt32)) := by unfold own_der; rw [if_neg hc497, if_neg hc500, if_pos hc503, if_neg hc504, if_neg hc505]
              have hr := own_cast (P := fun z => ∀ (f : JFrame) (acts : List Action), f.method = m → f.locked = none → f.entered = [] → (doReturn e (s₁.setTop f) acts (some (.int z))).1 = s₁.setFrames fs) q hr
              exact retN X0 hx (t := .char) Bd.returns (by simp) (hb hby d2_65) hr
        · show own_S p e below s₁ (mkF m 29 #[.val (.int p0), .val (.int p1), .val (.int (p1 &&& (3 : Int32))), .unset] [.int 2, (.int (p1 &&& (3 : Int32)))]) _
          refine XS.icmpYes X0.here hx rfl (pc0 := 29) (pc' := 40) rfl (hb hby d2_29) rfl (feq hc503).2 (by decide) (by decide) ?_
          show own_S p e below s₁ (mkF m 40 #[.val (.int p0), .val (.int p1), .val (.int (p1 &&& (3 : Int32))), .unset] []) _
          refine XS.iloadN X0.here hx rfl (hb hby d2_40) rfl ?_
          show own_S p e below s₁ (mkF m 41 #[.val (.int p0), .val (.int p1), .val (.int (p1 &&& (3 : Int32))), .unset] [(.int p1)]) _
          refine XS.bipush X0.here hx rfl (hb hby d2_41) ?_
          show own_S p e below s₁ (mkF m 43 #[.val (.int p0), .val (.int p1), .val (.int (p1 &&& (3 : Int32))), .unset] [.int 16, (.int p1)]) _
          refine XS.iushr X0.here hx rfl (hb hby d2_43) rfl ?_
          show own_S p e below s₁ (mkF m 44 #[.val (.int p0), .val (.int p1), .val (.int (p1 &&& (3 : Int32))), .unset] [(.int (own_ushr p1 (16 : Int32)))]) _
          refine XS.i2c X0.here hx rfl (hb hby d2_44) rfl ?_
          show own_S p e below s₁ (mkF m 45 #[.val (.int p0), .val (.int p1), .val (.int (p1 &&& (3 : Int32))), .unset] [(.int ((own_ushr p1 (16 : Int32)).toUInt32.toUInt16.toUInt32.toInt32))]) _
          refine XS.istoreN X0.here hx rfl (hb hby d2_45) rfl (l' := (own_loc32 p0 p1)) rfl ?_
          show own_S p e below s₁ (mkF m 46 (own_loc32 p0 p1) []) _
          refine XS.iloadN X0.here hx rfl (hb hby d2_46) rfl ?_
          show own_S p e below s₁ (mkF m 47 (own_loc32 p0 p1) [(.int ((own_ushr p1 (16 : Int32)).toUInt32.toUInt16.toUInt32.toInt32))]) _
          refine XS.bipush X0.here hx rfl (hb hby d2_47) ?_
          by_cases hc506 : ((own_ushr p1 (16 : Int32)).toUInt32.toUInt16.toUInt32.toInt32) < (65 : Int32)
          · show own_S p e below s₁ (mkF m 49 (own_loc32 p0 p1) [.int 65, (.int ((own_ushr p1 (16 : Int32)).toUInt32.toUInt16.toUInt32.toInt32))]) _
            refine XS.icmpYes X0.here hx rfl (pc0 := 49) (pc' := 64) rfl (hb hby d2_49) rfl (tlt hc506).1 (by decide) (by decide) ?_
            show own_S p e below s₁ (mkF m 64 (own_loc32 p0 p1) []) _
            refine XS.iloadN X0.here hx rfl (hb hby d2_64) rfl ?_
            show own_S p e below s₁ (mkF m 65 (own_loc32 p0 p1) [(.int ((own_ushr p1 (16 : Int32)).toUInt32.toUInt16.toUInt32.toInt32))]) _
            have q : (own_der p0 p1) = (nar .char ((own_ushr p1 (16 : Int32)).toUInt32.toUInt16.toUInt32.toInt32)) := by unfold own_der; rw [if_neg hc497, if_neg hc500, if_neg hc503, if_pos hc506]
            have hr := own_cast (P := fun z => ∀ (f : JFrame) (acts : List Action), f.method = m → f.locked = none → f.entered = [] → (doReturn e (s₁.setTop f) acts (some (.int z))).1 = s₁.setFrames fs) q hr
            exact retN X0 hx (t := .char) Bd.returns (by simp) (hb hby d2_65) hr
          · show own_S p e below s₁ (mkF m 49 (own_loc32 p0 p1) [.int 65, (.int ((own_ushr p1 (16 : Int32)).toUInt32.toUInt16.toUInt32.toInt32))]) _
            refine XS.icmpNo X0.here hx rfl (hb hby d2_49) rfl (flt hc506).1 ?_
            show own_S p e below s₁ (mkF m 52 (own_loc32 p0 p1) []) _
            refine XS.iloadN X0.here hx rfl (hb hby d2_52) rfl ?_
            show own_S p e below s₁ (mkF m 53 (own_loc32 p0 p1) [(.int ((own_ushr p1 (16 : Int32)).toUInt32.toUInt16.toUInt32.toInt32))]) _
            refine XS.bipush X0.here hx rfl (hb hby d2_53) ?_
            by_cases hc507 : (90 : Int32) < ((own_ushr p1 (16 : Int32)).toUInt32.toUInt16.toUInt32.toInt32)
            · show own_S p e below s₁ (mkF m 55 (own_loc32 p0 p1) [.int 90, (.int ((own_ushr p1 (16 : Int32)).toUInt32.toUInt16.toUInt32.toInt32))]) _
              refine XS.icmpYes X0.here hx rfl (pc0 := 55) (pc' := 64) rfl (hb hby d2_55) rfl (tlt hc507).2.2.1 (by decide) (by decide) ?_
              show own_S p e below s₁ (mkF m 64 (own_loc32 p0 p1) []) _
              refine XS.iloadN X0.here hx rfl (hb hby d2_64) rfl ?_
              show own_S p e below s₁ (mkF m 65 (own_loc32 p0 p1) [(.int ((own_ushr p1 (16 : Int32)).toUInt32.toUInt16.toUInt32.toInt32))]) _
              have q : (own_der p0 p1) = (nar .char ((own_ushr p1 (16 : Int32)).toUInt32.toUInt16.toUInt32.toInt32)) := by unfold own_der; rw [if_neg hc497, if_neg hc500, if_neg hc503, if_neg hc506, if_pos hc507]
              have hr := own_cast (P := fun z => ∀ (f : JFrame) (acts : List Action), f.method = m → f.locked = none → f.entered = [] → (doReturn e (s₁.setTop f) acts (some (.int z))).1 = s₁.setFrames fs) q hr
              exact retN X0 hx (t := .char) Bd.returns (by simp) (hb hby d2_65) hr
            · show own_S p e below s₁ (mkF m 55 (own_loc32 p0 p1) [.int 90, (.int ((own_ushr p1 (16 : Int32)).toUInt32.toUInt16.toUInt32.toInt32))]) _
              refine XS.icmpNo X0.here hx rfl (hb hby d2_55) rfl (flt hc507).2.2.1 ?_
              show own_S p e below s₁ (mkF m 58 (own_loc32 p0 p1) []) _
              refine XS.iloadN X0.here hx rfl (hb hby d2_58) rfl ?_
              show own_S p e below s₁ (mkF m 59 (own_loc32 p0 p1) [(.int ((own_ushr p1 (16 : Int32)).toUInt32.toUInt16.toUInt32.toInt32))]) _
              refine XS.bipush X0.here hx rfl (hb hby d2_59) ?_
              show own_S p e below s₁ (mkF m 61 (own_loc32 p0 p1) [.int 32, (.int ((own_ushr p1 (16 : Int32)).toUInt32.toUInt16.toUInt32.toInt32))]) _
              refine XS.iadd X0.here hx rfl (hb hby d2_61) rfl ?_
              show own_S p e below s₁ (mkF m 62 (own_loc32 p0 p1) [(.int (((own_ushr p1 (16 : Int32)).toUInt32.toUInt16.toUInt32.toInt32) + (32 : Int32)))]) _
              refine XS.i2c X0.here hx rfl (hb hby d2_62) rfl ?_
              show own_S p e below s₁ (mkF m 63 (own_loc32 p0 p1) [(.int ((((own_ushr p1 (16 : Int32)).toUInt32.toUInt16.toUInt32.toInt32) + (32 : Int32)).toUInt32.toUInt16.toUInt32.toInt32))]) _
              refine XS.istoreN X0.here hx rfl (hb hby d2_63) rfl (l' := (own_loc33 p0 p1)) rfl ?_
              show own_S p e below s₁ (mkF m 64 (own_loc33 p0 p1) []) _
              refine XS.iloadN X0.here hx rfl (hb hby d2_64) rfl ?_
              show own_S p e below s₁ (mkF m 65 (own_loc33 p0 p1) [(.int ((((own_ushr p1 (16 : Int32)).toUInt32.toUInt16.toUInt32.toInt32) + (32 : Int32)).toUInt32.toUInt16.toUInt32.toInt32))]) _
              have q : (own_der p0 p1) = (nar .char ((((own_ushr p1 (16 : Int32)).toUInt32.toUInt16.toUInt32.toInt32) + (32 : Int32)).toUInt32.toUInt16.toUInt32.toInt32)) := by unfold own_der; rw [if_neg hc497, if_neg hc500, if_neg hc503, if_neg hc506, if_neg hc507]
              have hr := own_cast (P := fun z => ∀ (f : JFrame) (acts : List Action), f.method = m → f.locked = none → f.entered = [] → (doReturn e (s₁.setTop f) acts (some (.int z))).1 = s₁.setFrames fs) q hr
              exact retN X0 hx (t := .char) Bd.returns (by simp) (hb hby d2_65) hr
  · show Q2 Z p0 p1 h0 n0 _ s₁.heap _
    rw [e0]
    exact ⟨rfl, N0, rfl⟩
theorem ef_18 (m : MethodId) (p0 : Int32) (p1 : Int32) : entryFrame m #[(.int p0), (.int p1)] 2 = mkF m 0 #[.val (.int p0), .val (.int p1)] [] := by first | (simp [entryFrame, mkF, argsToLocals, Value.category]; done) | rfl
theorem d18_0 : decode method_4_code 0 = .ok (.iload_n 0, 1) := by decide +kernel
theorem d18_1 : decode method_4_code 1 = .ok (.iload_n 1, 1) := by decide +kernel
theorem d18_2 : decode method_4_code 2 = .ok (.if_icmp .ne 5, 3) := by decide +kernel
theorem d18_5 : decode method_4_code 5 = .ok (.iconst 1, 1) := by decide +kernel
theorem d18_7 : decode method_4_code 7 = .ok (.iload_n 0, 1) := by decide +kernel
theorem d18_8 : decode method_4_code 8 = .ok (.bipush 65, 2) := by decide +kernel
theorem d18_10 : decode method_4_code 10 = .ok (.if_icmp .lt 22, 3) := by decide +kernel
theorem d18_32 : decode method_4_code 32 = .ok (.iconst 0, 1) := by decide +kernel
theorem d18_13 : decode method_4_code 13 = .ok (.iload_n 0, 1) := by decide +kernel
theorem d18_14 : decode method_4_code 14 = .ok (.bipush 90, 2) := by decide +kernel
theorem d18_16 : decode method_4_code 16 = .ok (.if_icmp .gt 16, 3) := by decide +kernel
theorem d18_19 : decode method_4_code 19 = .ok (.iload_n 0, 1) := by decide +kernel
theorem d18_20 : decode method_4_code 20 = .ok (.bipush 32, 2) := by decide +kernel
theorem d18_22 : decode method_4_code 22 = .ok (.iadd, 1) := by decide +kernel
theorem d18_23 : decode method_4_code 23 = .ok (.i2c, 1) := by decide +kernel
theorem d18_24 : decode method_4_code 24 = .ok (.iload_n 1, 1) := by decide +kernel
theorem d18_25 : decode method_4_code 25 = .ok (.if_icmp .ne 7, 3) := by decide +kernel
theorem d18_28 : decode method_4_code 28 = .ok (.iconst 1, 1) := by decide +kernel
theorem d18_29 : decode method_4_code 29 = .ok (.goto 4, 3) := by decide +kernel
def own_m (p0 : Int32) (p1 : Int32) : Int32 := (if p0 = p1 then (1 : Int32) else (if p0 < (65 : Int32) then (0 : Int32) else (if (90 : Int32) < p0 then (0 : Int32) else (if ((p0 + (32 : Int32)).toUInt32.toUInt16.toUInt32.toInt32) = p1 then (1 : Int32) else (0 : Int32)))))
def Q18 (Z : State) (p0 : Int32) (p1 : Int32) (h0 : Heap) (n0 : Nat) (v : Option Value) (h : Heap) (L : List Loc) : Prop := v = some (.int (own_m p0 p1)) ∧ Fr n0 L ∧ h = h0
theorem d18_6 : decode method_4_code 6 = .ok (.ireturn, 1) := by decide +kernel
theorem d18_33 : decode method_4_code 33 = .ok (.ireturn, 1) := by decide +kernel
set_option maxRecDepth 65536 in
set_option maxHeartbeats 40000000 in
theorem rm18 (l : Launch) (Z : State) (ag : Array Value) (hw : ∀ d ∈ tables_1, d.before ag Z = true) (ws : List Jvm.Cond) (p0 : Int32) (p1 : Int32) (h0 : Heap) (n0 : Nat) (Z0 : n0 ≤ h0.size) :
    MetFree l (⟨"com/example/tenpoint/tenpoint/AsciiCaseStartsWithPinLaw", "m", "(CC)Z"⟩ : MethodName) (head1 (Jvm.Cond.code (⟨"com/example/tenpoint/tenpoint/AsciiCaseStartsWithPinLaw", "m", "(CC)Z"⟩ : MethodName) method_4_code 2 (some .boolean) :: ws) ({ frames := 0, cells := 0, slots := 0, locals := 0 } : Room)) (fun a U => a = #[(.int p0), (.int p1)] ∧ Z.Warmed39 U.vm ∧ U.heap = h0) (fun _ _ _ _ _ => True) (fun _ U o U' => ∃ v L, o = .returned v ∧ Q18 Z p0 p1 h0 n0 v U'.heap L ∧ FrameEnd U o U' L ({ frames := 0, cells := 0, slots := 0, locals := 0 } : Room).cells ({ frames := 0, cells := 0, slots := 0, locals := 0 } : Room).slots) := by
  refine MetFree.of_bodySF (plainFor_of_name pn_1) hisR ?_
  intro p e s m args below meth c s₁ Bd hml0 hP hK
  obtain ⟨rfl, hZ, hh⟩ := hP
  have hx := Bd.exec
  have hby := Bd.bytes
  have hml : c.maxLocals = 2 := hml0
  have hown : s.vm.findClass "com/example/tenpoint/tenpoint/AsciiCaseStartsWithPinLaw" = some m.cls := findClass_of_methodNamed Bd.named
  have hnm := (name_of_methodNamed Bd.named Bd.method).1
  have X0 : Stand p l e ({ frames := 0, cells := 0, slots := 0, locals := 0 } : Room) s m #[(.int p0), (.int p1)] below meth c s₁ [] 0 0 := Stand.of_body Bd
  have e0 : s₁.heap = h0 := by rw [← hh, Bd.state]; rfl
  have N0 := Fr.nil n0
  have pre0 : ∀ t, Steps p.tables e below (s₁.setTop (mkF m 0 #[.val (.int p0), .val (.int p1)] [])) t → Steps p.tables e below (s₁.setTop (entryFrame m #[(.int p0), (.int p1)] 2)) t := fun t k => castTop (ef_18 m p0 p1) k
  obtain ⟨fs, hr, hrun, hended, hW, hsame⟩ := X0.leave (v := some (.int (own_m p0 p1))) (fun h => by rw [Bd.returns] at h; cases h)
  refine ⟨_, _, pre0 _ ?_, hrun, hended, _, _, rfl, ?_, ⟨_, rfl⟩, hW, hsame.mono (by decide) (by decide)⟩
  · show own_S p e below s₁ (mkF m 0 #[.val (.int p0), .val (.int p1)] []) _
    refine XS.iloadN X0.here hx rfl (hb hby d18_0) rfl ?_
    show own_S p e below s₁ (mkF m 1 #[.val (.int p0), .val (.int p1)] [(.int p0)]) _
    refine XS.iloadN X0.here hx rfl (hb hby d18_1) rfl ?_
    by_cases hc508 : p0 = p1
    · show own_S p e below s₁ (mkF m 2 #[.val (.int p0), .val (.int p1)] [(.int p1), (.int p0)]) _
      refine XS.icmpNo X0.here hx rfl (hb hby d18_2) rfl (teq hc508).2 ?_
      show own_S p e below s₁ (mkF m 5 #[.val (.int p0), .val (.int p1)] []) _
      refine XS.iconst X0.here hx rfl (hb hby d18_5) ?_
      show own_S p e below s₁ (mkF m 6 #[.val (.int p0), .val (.int p1)] [.int 1]) _
      have q : (own_m p0 p1) = (1 : Int32) := by unfold own_m; rw [if_pos hc508]
      have hr := own_cast (P := fun z => ∀ (f : JFrame) (acts : List Action), f.method = m → f.locked = none → f.entered = [] → (doReturn e (s₁.setTop f) acts (some (.int z))).1 = s₁.setFrames fs) q hr
      exact retN X0 hx (t := .boolean) Bd.returns (by simp) (hb hby d18_6) hr
    · show own_S p e below s₁ (mkF m 2 #[.val (.int p0), .val (.int p1)] [(.int p1), (.int p0)]) _
      refine XS.icmpYes X0.here hx rfl (pc0 := 2) (pc' := 7) rfl (hb hby d18_2) rfl (feq hc508).2 (by decide) (by decide) ?_
      show own_S p e below s₁ (mkF m 7 #[.val (.int p0), .val (.int p1)] []) _
      refine XS.iloadN X0.here hx rfl (hb hby d18_7) rfl ?_
      show own_S p e below s₁ (mkF m 8 #[.val (.int p0), .val (.int p1)] [(.int p0)]) _
      refine XS.bipush X0.here hx rfl (hb hby d18_8) ?_
      by_cases hc509 : p0 < (65 : Int32)
      · show own_S p e below s₁ (mkF m 10 #[.val (.int p0), .val (.int p1)] [.int 65, (.int p0)]) _
        refine XS.icmpYes X0.here hx rfl (pc0 := 10) (pc' := 32) rfl (hb hby d18_10) rfl (tlt hc509).1 (by decide) (by decide) ?_
        show own_S p e below s₁ (mkF m 32 #[.val (.int p0), .val (.int p1)] []) _
        refine XS.iconst X0.here hx rfl (hb hby d18_32) ?_
        show own_S p e below s₁ (mkF m 33 #[.val (.int p0), .val (.int p1)] [.int 0]) _
        have q : (own_m p0 p1) = (0 : Int32) := by unfold own_m; rw [if_neg hc508, if_pos hc509]
        have hr := own_cast (P := fun z => ∀ (f : JFrame) (acts : List Action), f.method = m → f.locked = none → f.entered = [] → (doReturn e (s₁.setTop f) acts (some (.int z))).1 = s₁.setFrames fs) q hr
        exact retN X0 hx (t := .boolean) Bd.returns (by simp) (hb hby d18_33) hr
      · show own_S p e below s₁ (mkF m 10 #[.val (.int p0), .val (.int p1)] [.int 65, (.int p0)]) _
        refine XS.icmpNo X0.here hx rfl (hb hby d18_10) rfl (flt hc509).1 ?_
        show own_S p e below s₁ (mkF m 13 #[.val (.int p0), .val (.int p1)] []) _
        refine XS.iloadN X0.here hx rfl (hb hby d18_13) rfl ?_
        show own_S p e below s₁ (mkF m 14 #[.val (.int p0), .val (.int p1)] [(.int p0)]) _
        refine XS.bipush X0.here hx rfl (hb hby d18_14) ?_
        by_cases hc510 : (90 : Int32) < p0
        · show own_S p e below s₁ (mkF m 16 #[.val (.int p0), .val (.int p1)] [.int 90, (.int p0)]) _
          refine XS.icmpYes X0.here hx rfl (pc0 := 16) (pc' := 32) rfl (hb hby d18_16) rfl (tlt hc510).2.2.1 (by decide) (by decide) ?_
          show own_S p e below s₁ (mkF m 32 #[.val (.int p0), .val (.int p1)] []) _
          refine XS.iconst X0.here hx rfl (hb hby d18_32) ?_
          show own_S p e below s₁ (mkF m 33 #[.val (.int p0), .val (.int p1)] [.int 0]) _
          have q : (own_m p0 p1) = (0 : Int32) := by unfold own_m; rw [if_neg hc508, if_neg hc509, if_pos hc510]
          have hr := own_cast (P := fun z => ∀ (f : JFrame) (acts : List Action), f.method = m → f.locked = none → f.entered = [] → (doReturn e (s₁.setTop f) acts (some (.int z))).1 = s₁.setFrames fs) q hr
          exact retN X0 hx (t := .boolean) Bd.returns (by simp) (hb hby d18_33) hr
        · show own_S p e below s₁ (mkF m 16 #[.val (.int p0), .val (.int p1)] [.int 90, (.int p0)]) _
          refine XS.icmpNo X0.here hx rfl (hb hby d18_16) rfl (flt hc510).2.2.1 ?_
          show own_S p e below s₁ (mkF m 19 #[.val (.int p0), .val (.int p1)] []) _
          refine XS.iloadN X0.here hx rfl (hb hby d18_19) rfl ?_
          show own_S p e below s₁ (mkF m 20 #[.val (.int p0), .val (.int p1)] [(.int p0)]) _
          refine XS.bipush X0.here hx rfl (hb hby d18_20) ?_
          show own_S p e below s₁ (mkF m 22 #[.val (.int p0), .val (.int p1)] [.int 32, (.int p0)]) _
          refine XS.iadd X0.here hx rfl (hb hby d18_22) rfl ?_
          show own_S p e below s₁ (mkF m 23 #[.val (.int p0), .val (.int p1)] [(.int (p0 + (32 : Int32)))]) _
          refine XS.i2c X0.here hx rfl (hb hby d18_23) rfl ?_
          show own_S p e below s₁ (mkF m 24 #[.val (.int p0), .val (.int p1)] [(.int ((p0 + (32 : Int32)).toUInt32.toUInt16.toUInt32.toInt32))]) _
          refine XS.iloadN X0.here hx rfl (hb hby d18_24) rfl ?_
          by_cases hc511 : ((p0 + (32 : Int32)).toUInt32.toUInt16.toUInt32.toInt32) = p1
          · show own_S p e below s₁ (mkF m 25 #[.val (.int p0), .val (.int p1)] [(.int p1), (.int ((p0 + (32 : Int32)).toUInt32.toUInt16.toUInt32.toInt32))]) _
            refine XS.icmpNo X0.here hx rfl (hb hby d18_25) rfl (teq hc511).2 ?_
            show own_S p e below s₁ (mkF m 28 #[.val (.int p0), .val (.int p1)] []) _
            refine XS.iconst X0.here hx rfl (hb hby d18_28) ?_
            show own_S p e below s₁ (mkF m 29 #[.val (.int p0), .val (.int p1)] [.int 1]) _
            refine XS.goto X0.here hx rfl (pc0 := 29) (pc' := 33) rfl (hb hby d18_29) (by decide) (by decide) ?_
            show own_S p e below s₁ (mkF m 33 #[.val (.int p0), .val (.int p1)] [.int 1]) _
            have q : (own_m p0 p1) = (1 : Int32) := by unfold own_m; rw [if_neg hc508, if_neg hc509, if_neg hc510, if_pos hc511]
            have hr := own_cast (P := fun z => ∀ (f : JFrame) (acts : List Action), f.method = m → f.locked = none → f.entered = [] → (doReturn e (s₁.setTop f) acts (some (.int z))).1 = s₁.setFrames fs) q hr
            exact retN X0 hx (t := .boolean) Bd.returns (by simp) (hb hby d18_33) hr
          · show own_S p e below s₁ (mkF m 25 #[.val (.int p0), .val (.int p1)] [(.int p1), (.int ((p0 + (32 : Int32)).toUInt32.toUInt16.toUInt32.toInt32))]) _
            refine XS.icmpYes X0.here hx rfl (pc0 := 25) (pc' := 32) rfl (hb hby d18_25) rfl (feq hc511).2 (by decide) (by decide) ?_
            show own_S p e below s₁ (mkF m 32 #[.val (.int p0), .val (.int p1)] []) _
            refine XS.iconst X0.here hx rfl (hb hby d18_32) ?_
            show own_S p e below s₁ (mkF m 33 #[.val (.int p0), .val (.int p1)] [.int 0]) _
            have q : (own_m p0 p1) = (0 : Int32) := by unfold own_m; rw [if_neg hc508, if_neg hc509, if_neg hc510, if_neg hc511]
            have hr := own_cast (P := fun z => ∀ (f : JFrame) (acts : List Action), f.method = m → f.locked = none → f.entered = [] → (doReturn e (s₁.setTop f) acts (some (.int z))).1 = s₁.setFrames fs) q hr
            exact retN X0 hx (t := .boolean) Bd.returns (by simp) (hb hby d18_33) hr
  · show Q18 Z p0 p1 h0 n0 _ s₁.heap _
    rw [e0]
    exact ⟨rfl, N0, rfl⟩
theorem pn_0 : plainName "com/example/tenpoint/tenpoint/AsciiCase" = true := by first | (simp [plainName, overriddenIn]; done) | decide +kernel
theorem ef_26 (m : MethodId) (p0 : Int32) : entryFrame m #[(.int p0)] 1 = mkF m 0 #[.val (.int p0)] [] := by first | (simp [entryFrame, mkF, argsToLocals, Value.category]; done) | rfl
theorem d26_0 : decode prog_2_method_2_code 0 = .ok (.iload_n 0, 1) := by decide +kernel
theorem d26_1 : decode prog_2_method_2_code 1 = .ok (.bipush 65, 2) := by decide +kernel
theorem d26_3 : decode prog_2_method_2_code 3 = .ok (.if_icmp .lt 17, 3) := by decide +kernel
theorem d26_20 : decode prog_2_method_2_code 20 = .ok (.iload_n 0, 1) := by decide +kernel
theorem d26_6 : decode prog_2_method_2_code 6 = .ok (.iload_n 0, 1) := by decide +kernel
theorem d26_7 : decode prog_2_method_2_code 7 = .ok (.bipush 90, 2) := by decide +kernel
theorem d26_9 : decode prog_2_method_2_code 9 = .ok (.if_icmp .gt 11, 3) := by decide +kernel
theorem d26_12 : decode prog_2_method_2_code 12 = .ok (.iload_n 0, 1) := by decide +kernel
theorem d26_13 : decode prog_2_method_2_code 13 = .ok (.bipush 32, 2) := by decide +kernel
theorem d26_15 : decode prog_2_method_2_code 15 = .ok (.iadd, 1) := by decide +kernel
theorem d26_16 : decode prog_2_method_2_code 16 = .ok (.i2c, 1) := by decide +kernel
theorem d26_17 : decode prog_2_method_2_code 17 = .ok (.goto 4, 3) := by decide +kernel
def own_fold (p0 : Int32) : Int32 := (if p0 < (65 : Int32) then (nar .char p0) else (if (90 : Int32) < p0 then (nar .char p0) else (nar .char ((p0 + (32 : Int32)).toUInt32.toUInt16.toUInt32.toInt32))))
def Q26 (Z : State) (p0 : Int32) (h0 : Heap) (n0 : Nat) (v : Option Value) (h : Heap) (L : List Loc) : Prop := v = some (.int (own_fold p0)) ∧ Fr n0 L ∧ h = h0
theorem d26_21 : decode prog_2_method_2_code 21 = .ok (.ireturn, 1) := by decide +kernel
set_option maxRecDepth 65536 in
set_option maxHeartbeats 40000000 in
theorem rm26 (l : Launch) (Z : State) (ag : Array Value) (hw : ∀ d ∈ tables_1, d.before ag Z = true) (ws : List Jvm.Cond) (p0 : Int32) (h0 : Heap) (n0 : Nat) (Z0 : n0 ≤ h0.size) :
    MetFree l (⟨"com/example/tenpoint/tenpoint/AsciiCase", "fold", "(C)C"⟩ : MethodName) (head1 (Jvm.Cond.code (⟨"com/example/tenpoint/tenpoint/AsciiCase", "fold", "(C)C"⟩ : MethodName) prog_2_method_2_code 1 (some .char) :: ws) ({ frames := 0, cells := 0, slots := 0, locals := 0 } : Room)) (fun a U => a = #[(.int p0)] ∧ Z.Warmed39 U.vm ∧ U.heap = h0) (fun _ _ _ _ _ => True) (fun _ U o U' => ∃ v L, o = .returned v ∧ Q26 Z p0 h0 n0 v U'.heap L ∧ FrameEnd U o U' L ({ frames := 0, cells := 0, slots := 0, locals := 0 } : Room).cells ({ frames := 0, cells := 0, slots := 0, locals := 0 } : Room).slots) := by
  refine MetFree.of_bodySF (plainFor_of_name pn_0) hisR ?_
  intro p e s m args below meth c s₁ Bd hml0 hP hK
  obtain ⟨rfl, hZ, hh⟩ := hP
  have hx := Bd.exec
  have hby := Bd.bytes
  have hml : c.maxLocals = 1 := hml0
  have hown : s.vm.findClass "com/example/tenpoint/tenpoint/AsciiCase" = some m.cls := findClass_of_methodNamed Bd.named
  have hnm := (name_of_methodNamed Bd.named Bd.method).1
  have X0 : Stand p l e ({ frames := 0, cells := 0, slots := 0, locals := 0 } : Room) s m #[(.int p0)] below meth c s₁ [] 0 0 := Stand.of_body Bd
  have e0 : s₁.heap = h0 := by rw [← hh, Bd.state]; rfl
  have N0 := Fr.nil n0
  have pre0 : ∀ t, Steps p.tables e below (s₁.setTop (mkF m 0 #[.val (.int p0)] [])) t → Steps p.tables e below (s₁.setTop (entryFrame m #[(.int p0)] 1)) t := fun t k => castTop (ef_26 m p0) k
  obtain ⟨fs, hr, hrun, hended, hW, hsame⟩ := X0.leave (v := some (.int (own_fold p0))) (fun h => by rw [Bd.returns] at h; cases h)
  refine ⟨_, _, pre0 _ ?_, hrun, hended, _, _, rfl, ?_, ⟨_, rfl⟩, hW, hsame.mono (by decide) (by decide)⟩
  · show own_S p e below s₁ (mkF m 0 #[.val (.int p0)] []) _
    refine XS.iloadN X0.here hx rfl (hb hby d26_0) rfl ?_
    show own_S p e below s₁ (mkF m 1 #[.val (.int p0)] [(.int p0)]) _
    refine XS.bipush X0.here hx rfl (hb hby d26_1) ?_
    by_cases hc512 : p0 < (65 : Int32)
    · show own_S p e below s₁ (mkF m 3 #[.val (.int p0)] [.int 65, (.int p0)]) _
      refine XS.icmpYes X0.here hx rfl (pc0 := 3) (pc' := 20) rfl (hb hby d26_3) rfl (tlt hc512).1 (by decide) (by decide) ?_
      show own_S p e below s₁ (mkF m 20 #[.val (.int p0)] []) _
      refine XS.iloadN X0.here hx rfl (hb hby d26_20) rfl ?_
      show own_S p e below s₁ (mkF m 21 #[.val (.int p0)] [(.int p0)]) _
      have q : (own_fold p0) = (nar .char p0) := by unfold own_fold; rw [if_pos hc512]
      have hr := own_cast (P := fun z => ∀ (f : JFrame) (acts : List Action), f.method = m → f.locked = none → f.entered = [] → (doReturn e (s₁.setTop f) acts (some (.int z))).1 = s₁.setFrames fs) q hr
      exact retN X0 hx (t := .char) Bd.returns (by simp) (hb hby d26_21) hr
    · show own_S p e below s₁ (mkF m 3 #[.val (.int p0)] [.int 65, (.int p0)]) _
      refine XS.icmpNo X0.here hx rfl (hb hby d26_3) rfl (flt hc512).1 ?_
      show own_S p e below s₁ (mkF m 6 #[.val (.int p0)] []) _
      refine XS.iloadN X0.here hx rfl (hb hby d26_6) rfl ?_
      show own_S p e below s₁ (mkF m 7 #[.val (.int p0)] [(.int p0)]) _
      refine XS.bipush X0.here hx rfl (hb hby d26_7) ?_
      by_cases hc513 : (90 : Int32) < p0
      · show own_S p e below s₁ (mkF m 9 #[.val (.int p0)] [.int 90, (.int p0)]) _
        refine XS.icmpYes X0.here hx rfl (pc0 := 9) (pc' := 20) rfl (hb hby d26_9) rfl (tlt hc513).2.2.1 (by decide) (by decide) ?_
        show own_S p e below s₁ (mkF m 20 #[.val (.int p0)] []) _
        refine XS.iloadN X0.here hx rfl (hb hby d26_20) rfl ?_
        show own_S p e below s₁ (mkF m 21 #[.val (.int p0)] [(.int p0)]) _
        have q : (own_fold p0) = (nar .char p0) := by unfold own_fold; rw [if_neg hc512, if_pos hc513]
        have hr := own_cast (P := fun z => ∀ (f : JFrame) (acts : List Action), f.method = m → f.locked = none → f.entered = [] → (doReturn e (s₁.setTop f) acts (some (.int z))).1 = s₁.setFrames fs) q hr
        exact retN X0 hx (t := .char) Bd.returns (by simp) (hb hby d26_21) hr
      · show own_S p e below s₁ (mkF m 9 #[.val (.int p0)] [.int 90, (.int p0)]) _
        refine XS.icmpNo X0.here hx rfl (hb hby d26_9) rfl (flt hc513).2.2.1 ?_
        show own_S p e below s₁ (mkF m 12 #[.val (.int p0)] []) _
        refine XS.iloadN X0.here hx rfl (hb hby d26_12) rfl ?_
        show own_S p e below s₁ (mkF m 13 #[.val (.int p0)] [(.int p0)]) _
        refine XS.bipush X0.here hx rfl (hb hby d26_13) ?_
        show own_S p e below s₁ (mkF m 15 #[.val (.int p0)] [.int 32, (.int p0)]) _
        refine XS.iadd X0.here hx rfl (hb hby d26_15) rfl ?_
        show own_S p e below s₁ (mkF m 16 #[.val (.int p0)] [(.int (p0 + (32 : Int32)))]) _
        refine XS.i2c X0.here hx rfl (hb hby d26_16) rfl ?_
        show own_S p e below s₁ (mkF m 17 #[.val (.int p0)] [(.int ((p0 + (32 : Int32)).toUInt32.toUInt16.toUInt32.toInt32))]) _
        refine XS.goto X0.here hx rfl (pc0 := 17) (pc' := 21) rfl (hb hby d26_17) (by decide) (by decide) ?_
        show own_S p e below s₁ (mkF m 21 #[.val (.int p0)] [(.int ((p0 + (32 : Int32)).toUInt32.toUInt16.toUInt32.toInt32))]) _
        have q : (own_fold p0) = (nar .char ((p0 + (32 : Int32)).toUInt32.toUInt16.toUInt32.toInt32)) := by unfold own_fold; rw [if_neg hc512, if_neg hc513]
        have hr := own_cast (P := fun z => ∀ (f : JFrame) (acts : List Action), f.method = m → f.locked = none → f.entered = [] → (doReturn e (s₁.setTop f) acts (some (.int z))).1 = s₁.setFrames fs) q hr
        exact retN X0 hx (t := .char) Bd.returns (by simp) (hb hby d26_21) hr
  · show Q26 Z p0 h0 n0 _ s₁.heap _
    rw [e0]
    exact ⟨rfl, N0, rfl⟩
def own_list (n a b c : Int32) : List Int32 := if n = (0 : Int32) then [] else if n = (1 : Int32) then [nar .char a] else if n = (2 : Int32) then [nar .char a, nar .char b] else [nar .char a, nar .char b, nar .char c]
theorem own_nar_rng (x : Int32) : 0 ≤ (nar .char x).toInt ∧ (nar .char x).toInt < 65536 := (c_i2c x).2
theorem ef_3 (m : MethodId) (p0 : Int32) (p1 : Int32) (p2 : Int32) (p3 : Int32) : entryFrame m #[(.int p0), (.int p1), (.int p2), (.int p3)] 4 = mkF m 0 #[.val (.int p0), .val (.int p1), .val (.int p2), .val (.int p3)] [] := by first | (simp [entryFrame, mkF, argsToLocals, Value.category]; done) | rfl
theorem d3_0 : decode method_5_code 0 = .ok (.iload_n 0, 1) := by decide +kernel
theorem d3_1 : decode method_5_code 1 = .ok (.ifCond .ne 14, 3) := by decide +kernel
theorem d3_4 : decode method_5_code 4 = .ok (.new 7, 3) := by decide +kernel
theorem d3_7 : decode method_5_code 7 = .ok (.dup, 1) := by decide +kernel
theorem d3_8 : decode method_5_code 8 = .ok (.iconst 0, 1) := by decide +kernel
theorem d3_9 : decode method_5_code 9 = .ok (.newarray .char, 2) := by decide +kernel
theorem pd_19 : parseMethodDescriptor "([C)V" = some ⟨[(.array .char)], none⟩ := by decide +kernel
theorem d3_11 : decode method_5_code 11 = .ok (.invokespecial 9, 3) := by decide +kernel
theorem d3_14 : decode method_5_code 14 = .ok (.areturn, 1) := by decide +kernel
theorem d3_15 : decode method_5_code 15 = .ok (.iload_n 0, 1) := by decide +kernel
theorem d3_16 : decode method_5_code 16 = .ok (.iconst 1, 1) := by decide +kernel
theorem d3_17 : decode method_5_code 17 = .ok (.if_icmp .ne 18, 3) := by decide +kernel
theorem d3_20 : decode method_5_code 20 = .ok (.new 7, 3) := by decide +kernel
theorem d3_23 : decode method_5_code 23 = .ok (.dup, 1) := by decide +kernel
theorem d3_24 : decode method_5_code 24 = .ok (.iconst 1, 1) := by decide +kernel
theorem d3_25 : decode method_5_code 25 = .ok (.newarray .char, 2) := by decide +kernel
theorem d3_27 : decode method_5_code 27 = .ok (.dup, 1) := by decide +kernel
theorem d3_28 : decode method_5_code 28 = .ok (.iconst 0, 1) := by decide +kernel
theorem d3_29 : decode method_5_code 29 = .ok (.iload_n 1, 1) := by decide +kernel
theorem d3_30 : decode method_5_code 30 = .ok (.castore, 1) := by decide +kernel
theorem d3_31 : decode method_5_code 31 = .ok (.invokespecial 9, 3) := by decide +kernel
theorem d3_34 : decode method_5_code 34 = .ok (.areturn, 1) := by decide +kernel
theorem d3_35 : decode method_5_code 35 = .ok (.iload_n 0, 1) := by decide +kernel
theorem d3_36 : decode method_5_code 36 = .ok (.iconst 2, 1) := by decide +kernel
theorem d3_37 : decode method_5_code 37 = .ok (.if_icmp .ne 22, 3) := by decide +kernel
theorem d3_40 : decode method_5_code 40 = .ok (.new 7, 3) := by decide +kernel
theorem d3_43 : decode method_5_code 43 = .ok (.dup, 1) := by decide +kernel
theorem d3_44 : decode method_5_code 44 = .ok (.iconst 2, 1) := by decide +kernel
theorem d3_45 : decode method_5_code 45 = .ok (.newarray .char, 2) := by decide +kernel
theorem d3_47 : decode method_5_code 47 = .ok (.dup, 1) := by decide +kernel
theorem d3_48 : decode method_5_code 48 = .ok (.iconst 0, 1) := by decide +kernel
theorem d3_49 : decode method_5_code 49 = .ok (.iload_n 1, 1) := by decide +kernel
theorem d3_50 : decode method_5_code 50 = .ok (.castore, 1) := by decide +kernel
theorem d3_51 : decode method_5_code 51 = .ok (.dup, 1) := by decide +kernel
theorem d3_52 : decode method_5_code 52 = .ok (.iconst 1, 1) := by decide +kernel
theorem d3_53 : decode method_5_code 53 = .ok (.iload_n 2, 1) := by decide +kernel
theorem d3_54 : decode method_5_code 54 = .ok (.castore, 1) := by decide +kernel
theorem d3_55 : decode method_5_code 55 = .ok (.invokespecial 9, 3) := by decide +kernel
theorem d3_58 : decode method_5_code 58 = .ok (.areturn, 1) := by decide +kernel
theorem d3_59 : decode method_5_code 59 = .ok (.new 7, 3) := by decide +kernel
theorem d3_62 : decode method_5_code 62 = .ok (.dup, 1) := by decide +kernel
theorem d3_63 : decode method_5_code 63 = .ok (.iconst 3, 1) := by decide +kernel
theorem d3_64 : decode method_5_code 64 = .ok (.newarray .char, 2) := by decide +kernel
theorem d3_66 : decode method_5_code 66 = .ok (.dup, 1) := by decide +kernel
theorem d3_67 : decode method_5_code 67 = .ok (.iconst 0, 1) := by decide +kernel
theorem d3_68 : decode method_5_code 68 = .ok (.iload_n 1, 1) := by decide +kernel
theorem d3_69 : decode method_5_code 69 = .ok (.castore, 1) := by decide +kernel
theorem d3_70 : decode method_5_code 70 = .ok (.dup, 1) := by decide +kernel
theorem d3_71 : decode method_5_code 71 = .ok (.iconst 1, 1) := by decide +kernel
theorem d3_72 : decode method_5_code 72 = .ok (.iload_n 2, 1) := by decide +kernel
theorem d3_73 : decode method_5_code 73 = .ok (.castore, 1) := by decide +kernel
theorem d3_74 : decode method_5_code 74 = .ok (.dup, 1) := by decide +kernel
theorem d3_75 : decode method_5_code 75 = .ok (.iconst 2, 1) := by decide +kernel
theorem d3_76 : decode method_5_code 76 = .ok (.iload_n 3, 1) := by decide +kernel
theorem d3_77 : decode method_5_code 77 = .ok (.castore, 1) := by decide +kernel
theorem d3_78 : decode method_5_code 78 = .ok (.invokespecial 9, 3) := by decide +kernel
theorem d3_81 : decode method_5_code 81 = .ok (.areturn, 1) := by decide +kernel
def Q3 (Z : State) (p0 : Int32) (p1 : Int32) (p2 : Int32) (p3 : Int32) (cs : Int32) (h0 : Heap) (n0 : Nat) (v : Option Value) (h : Heap) (L : List Loc) : Prop := ∃ r : Addr, v = some (.ref r) ∧ Fr n0 L ∧ Keep h0 h [] ∧ n0 ≤ r ∧ h0.size ≤ r ∧ own_str Z h r (own_list p0 p1 p2 p3)
set_option maxRecDepth 65536 in
set_option maxHeartbeats 40000000 in
theorem rm3 (l : Launch) (Z : State) (ag : Array Value) (hw : ∀ d ∈ tables_1, d.before ag Z = true) (ws : List Jvm.Cond) (p0 : Int32) (p1 : Int32) (p2 : Int32) (p3 : Int32) (cs : Int32) (h0 : Heap) (n0 : Nat) (Z0 : n0 ≤ h0.size) (O_ : Old Z n0 h0) (S_cs : Sta Z Z.heap "java/lang/String" "COMPACT_STRINGS" "Z" (.int cs)) (hcs : ¬ cs = (0 : Int32)) (S_ad : Sta Z Z.heap "java/lang/StringUTF16" "$assertionsDisabled" "Z" (.int (1 : Int32))) (S_hi : Sta Z Z.heap "java/lang/StringUTF16" "HI_BYTE_SHIFT" "I" (.int (0 : Int32))) (S_lo : Sta Z Z.heap "java/lang/StringUTF16" "LO_BYTE_SHIFT" "I" (.int (8 : Int32))) :
    MetFree l (⟨"com/example/tenpoint/tenpoint/AsciiCaseStartsWithPinLaw", "str", "(ICCC)Ljava/lang/String;"⟩ : MethodName) (head1 (Jvm.Cond.code (⟨"com/example/tenpoint/tenpoint/AsciiCaseStartsWithPinLaw", "str", "(ICCC)Ljava/lang/String;"⟩ : MethodName) method_5_code 4 (some (.object "java/lang/String")) :: ws) ({ frames := 6, cells := 6, slots := 18, locals := 88 } : Room)) (fun a U => a = #[(.int p0), (.int p1), (.int p2), (.int p3)] ∧ Z.Warmed39 U.vm ∧ U.heap = h0 ∧ CHv Z own_EL U.vm h0) (fun _ _ _ _ _ => True) (fun _ U o U' => ∃ v L, o = .returned v ∧ Q3 Z p0 p1 p2 p3 cs h0 n0 v U'.heap L ∧ CHr Z own_EL U.vm U.heap U'.vm U'.heap ∧ ReturnedEndW U o U' L ({ frames := 6, cells := 6, slots := 18, locals := 88 } : Room).cells ({ frames := 6, cells := 6, slots := 18, locals := 88 } : Room).slots) := by
  refine MetFree.of_bodySF (plainFor_of_name pn_1) hisR ?_
  intro p e s m args below meth c s₁ Bd hml0 hP hK
  obtain ⟨rfl, hZ, hh, hI⟩ := hP
  have hx := Bd.exec
  have hby := Bd.bytes
  have hml : c.maxLocals = 4 := hml0
  have hown : s.vm.findClass "com/example/tenpoint/tenpoint/AsciiCaseStartsWithPinLaw" = some m.cls := findClass_of_methodNamed Bd.named
  have hnm := (name_of_methodNamed Bd.named Bd.method).1
  have X0 : Stand p l e ({ frames := 6, cells := 6, slots := 18, locals := 88 } : Room) s m #[(.int p0), (.int p1), (.int p2), (.int p3)] below meth c s₁ [] 0 0 := Stand.of_body Bd
  have e0 : s₁.heap = h0 := by rw [← hh, Bd.state]; rfl
  have N0 := Fr.nil n0
  have pre0 : ∀ t, Steps p.tables e below (s₁.setTop (mkF m 0 #[.val (.int p0), .val (.int p1), .val (.int p2), .val (.int p3)] [])) t → Steps p.tables e below (s₁.setTop (entryFrame m #[(.int p0), (.int p1), (.int p2), (.int p3)] 4)) t := fun t k => castTop (ef_3 m p0 p1 p2 p3) k
  have X0 : Stand p l e ({ frames := 6, cells := 6, slots := 18, locals := 88 } : Room) (s.setVm s.vm) m #[(.int p0), (.int p1), (.int p2), (.int p3)] below meth c s₁ [] 0 0 := X0
  have hS : s.Since s.vm 0 := (State.WarmedH.refl s).since 0
  have hkS : 0 ≤ h0.size := Nat.zero_le _
  have hC : CHr Z own_EL s.vm h0 s.vm h0 := CHr.refl hI
  have hEL : EW Z ag own_EL := own_ew hw
  have hwS : ∀ d ∈ Bundle.stringAtoms, d.before ag Z = true := fun d hd => hw d ((by decide +kernel : ∀ d ∈ Bundle.stringAtoms, d ∈ tables_1) d hd)
  by_cases hc514 : p0 = (0 : Int32)
  · obtain ⟨T515, h515, X515, e515, E515, A515, D515, -, st515⟩ := newO X0 hx hZ hown (hw _ (List.mem_of_getElem? (i := 10) rfl)) (hw _ (List.mem_of_getElem? (i := 11) rfl)) (hw _ (List.mem_of_getElem? (i := 12) rfl)) e0 (g := (mkF m 4 #[.val (.int p0), .val (.int p1), .val (.int p2), .val (.int p3)] [])) rfl (hb hby d3_4) (by decide) (by decide)
    obtain ⟨b515, g515⟩ : ∃ z, z = h0.size := ⟨_, rfl⟩
    have ge_b515 : n0 ≤ b515 := Nat.le_trans Z0 (Nat.le_of_eq g515.symm)
    have gs_b515 : h0.size ≤ b515 := Nat.le_trans (Keep.refl h0 []).1 (Nat.le_of_eq g515.symm)
    have sf_b515 := own_safe_at hC (Nat.le_of_eq g515.symm)
    rw [← g515] at A515 D515 st515
    have x516 := O_.ext E515
    have x517 := Safe.ext E515 hC.1 sf_b515
    have sz518 : n0 ≤ h515.size := Nat.le_trans Z0 E515.1
    have hkS := Nat.le_trans hkS E515.1
    have hC := hC.trans (CHr.ext E515 hC.1)
    have kp519 : Keep h0 h515 [] := (Keep.refl h0 []).ext E515
    have F515_coder : Fld Z h515 b515 "java/lang/String" "coder" "B" (.int (0 : Int32)) := D515 (Or.inr (hw _ (List.mem_of_getElem? (i := 37) rfl))) (ty := .byte) (by decide)
    have F515_value : Fld Z h515 b515 "java/lang/String" "value" "[B" .null := D515 (Or.inr (hw _ (List.mem_of_getElem? (i := 39) rfl))) (ty := (.array .byte)) (by decide)
    obtain ⟨T520, h520, k520, X520, e520, E520, A520, st520⟩ := newP X515 hx hZ (hw _ (List.mem_of_getElem? (i := 13) rfl)) e515 (g := (mkF m 9 #[.val (.int p0), .val (.int p1), .val (.int p2), .val (.int p3)] [.int 0, (.ref b515), (.ref b515)])) rfl (hb hby d3_9) rfl (by decide) (cap := 0) (by decide) (by decide) (by decide) (by decide)
    obtain ⟨b520, g520⟩ : ∃ z, z = h515.size := ⟨_, rfl⟩
    have ne521 : b515 ≠ b520 := Nat.ne_of_lt (Nat.lt_of_lt_of_le A515.lt (Nat.le_of_eq g520.symm))
    have ge_b520 : n0 ≤ b520 := Nat.le_trans sz518 (Nat.le_of_eq g520.symm)
    have gs_b520 : h0.size ≤ b520 := Nat.le_trans kp519.1 (Nat.le_of_eq g520.symm)
    have sf_b520 := own_safe_at hC (Nat.le_of_eq g520.symm)
    rw [← g520] at A520 st520
    have x522 := x516.ext E520
    have x523 := Safe.ext E520 hC.1 x517
    have x524 := A515.ext E520
    have x525 := F515_coder.ext E520
    have x526 := F515_value.ext E520
    have x527 := Safe.ext E520 hC.1 sf_b520
    have sz528 : n0 ≤ h520.size := Nat.le_trans sz518 E520.1
    have hkS := Nat.le_trans hkS E520.1
    have hC := hC.trans (CHr.ext E520 hC.1)
    have kp529 : Keep h0 h520 [] := kp519.ext E520
    have V520 : Arv Z h520 b520 k520 .char (0 : Int32) [] (.int (0 : Int32)) := Arv.new A520 (by decide)
    obtain ⟨_, _, ⟨T530, L530, k530, n530⟩, -, X530, hS2_530, hg2_530, ⟨Lc530, hQ530, l530, y530, z530, hCs530⟩, st530⟩ := X520.specialBackS hx (y := (⟨"java/lang/String", "<init>", "([C)V"⟩ : MethodName)) rfl hown (mvT hZ (hw _ (List.mem_of_getElem? (i := 14) rfl))) (mvT hZ (hw _ (List.mem_of_getElem? (i := 15) rfl))) (mvT hZ (hw _ (List.mem_of_getElem? (i := 16) rfl))) (by decide) (backOfSH (W := 1) (rm4_s0 l Z ag hw [] b515 b520 k520 [] h520 n0 sz528 x524 x526 x525 ge_b515 V520) hZ (hw _ (List.mem_of_getElem? (i := 16) rfl)) (hw _ (List.mem_of_getElem? (i := 12) rfl)) (by decide) (by decide) hEL hC.1) (g := (mkF m 11 #[.val (.int p0), .val (.int p1), .val (.int p2), .val (.int p3)] [(.ref b520), (.ref b515), (.ref b515)])) rfl (by rw [hml]; rfl) (Steps.refl _) (a := b515) (argsL := [(.ref b520)]) (rest := [(.ref b515)]) (lenOf pd_19 rfl) rfl (by show 2 * 0 + _ ≤ _; exact Nat.le_of_eq rfl) (hb hby d3_11) (fun _ _ => ⟨rfl, e520, (by decide : 2 + 4 ≤ _), (by decide : 4 + 8 ≤ _)⟩)
    dsimp only [Pt.U, Pt.locs, Pt.cells, Pt.slots] at X530 l530 y530 z530 st530 hQ530 hS2_530 hg2_530 hCs530
    subst l530 y530 z530
    obtain ⟨X530, hS, hZ, hown⟩ := rebS hS (by rw [e520]; exact hkS) X530 hS2_530 hg2_530 hZ hown
    obtain ⟨rfl, N530q, K530, Ss530⟩ := hQ530
    have N530 := Fr.app N0 N530q
    have x531 := x522.keep K530 (allS ge_b515 all0)
    have x532 := hCs530.safe x524.lt x523
    have x533 := x524.keep K530
    have x534 := hCs530.safe V520.lt x527
    have x535 := V520.keep K530 (ninS (Ne.symm ne521) nin0)
    have sz536 : n0 ≤ T530.heap.size := Nat.le_trans sz528 K530.1
    have hkS := Nat.le_trans hkS K530.1
    have hC := hC.trans hCs530
    have kp537 : Keep h0 T530.heap [] := kp529.trans K530 (allS (Or.inr gs_b515) all0)
    have hkS : T530.heap.size ≤ T530.heap.size := Nat.le_refl _
    obtain ⟨fs, hr, hrun, hended, hEnd⟩ := X530.leaveW hS hkS (v := some (.ref b515)) (fun h => by rw [Bd.returns] at h; cases h)
    refine ⟨_, _, pre0 _ ?_, hrun, hended, _, _, rfl, ?_, ?_, hEnd.1, hEnd.2.1, hEnd.2.2.1, hEnd.2.2.2.mono (by decide) (by decide)⟩
    · show own_S p e below s₁ (mkF m 0 #[.val (.int p0), .val (.int p1), .val (.int p2), .val (.int p3)] []) _
      refine XS.iloadN X0.here hx rfl (hb hby d3_0) rfl ?_
      show own_S p e below s₁ (mkF m 1 #[.val (.int p0), .val (.int p1), .val (.int p2), .val (.int p3)] [(.int p0)]) _
      refine XS.ifNo X0.here hx rfl (hb hby d3_1) rfl ((if0 _ _).trans (teq hc514).2) ?_
      show own_S p e below s₁ (mkF m 4 #[.val (.int p0), .val (.int p1), .val (.int p2), .val (.int p3)] []) _
      refine st515 _ ?_
      show own_S p e below T515 (mkF m 7 #[.val (.int p0), .val (.int p1), .val (.int p2), .val (.int p3)] [(.ref b515)]) _
      refine XS.dup X515.here hx rfl (hb hby d3_7) rfl rfl ?_
      show own_S p e below T515 (mkF m 8 #[.val (.int p0), .val (.int p1), .val (.int p2), .val (.int p3)] [(.ref b515), (.ref b515)]) _
      refine XS.iconst X515.here hx rfl (hb hby d3_8) ?_
      show own_S p e below T515 (mkF m 9 #[.val (.int p0), .val (.int p1), .val (.int p2), .val (.int p3)] [.int 0, (.ref b515), (.ref b515)]) _
      refine st520 _ ?_
      show own_S p e below T520 (mkF m 11 #[.val (.int p0), .val (.int p1), .val (.int p2), .val (.int p3)] [(.ref b520), (.ref b515), (.ref b515)]) _
      refine st530.trans ?_
      show own_S p e below T530 (mkF m 14 #[.val (.int p0), .val (.int p1), .val (.int p2), .val (.int p3)] [(.ref b515)]) _
      exact Jvm.RoadKit.retOut X530 hx Bd.returns rfl (Or.inr (Or.inr (Or.inr (Or.inr ⟨rfl, rfl, rfl⟩)))) (hb hby d3_14) hr
    · show Q3 Z p0 p1 p2 p3 cs h0 n0 _ T530.heap _
      have e : own_list p0 p1 p2 p3 = [] := by unfold own_list; rw [if_pos hc514]
      exact ⟨b515, rfl, N530, kp537, ge_b515, gs_b515, e ▸ Ss530⟩
    · show CHr Z own_EL s.vm s.heap T530.vm T530.heap
      rw [hh]
      exact hC.trans (CHv.at X530 hZ hEL hC.1)
  · have cp539 : ∀ target, own_S p e below s₁ (mkF m 17 #[.val (.int p0), .val (.int p1), .val (.int p2), .val (.int p3)] [.int 1, (.int p0)]) target → own_S p e below s₁ (mkF m 0 #[.val (.int p0), .val (.int p1), .val (.int p2), .val (.int p3)] []) target := by
      intro target kt
      show own_S p e below s₁ (mkF m 0 #[.val (.int p0), .val (.int p1), .val (.int p2), .val (.int p3)] []) _
      refine XS.iloadN X0.here hx rfl (hb hby d3_0) rfl ?_
      show own_S p e below s₁ (mkF m 1 #[.val (.int p0), .val (.int p1), .val (.int p2), .val (.int p3)] [(.int p0)]) _
      refine XS.ifYes X0.here hx rfl (pc0 := 1) (pc' := 15) rfl (hb hby d3_1) rfl ((if0 _ _).trans (feq hc514).2) (by decide) (by decide) ?_
      show own_S p e below s₁ (mkF m 15 #[.val (.int p0), .val (.int p1), .val (.int p2), .val (.int p3)] []) _
      refine XS.iloadN X0.here hx rfl (hb hby d3_15) rfl ?_
      show own_S p e below s₁ (mkF m 16 #[.val (.int p0), .val (.int p1), .val (.int p2), .val (.int p3)] [(.int p0)]) _
      refine XS.iconst X0.here hx rfl (hb hby d3_16) ?_
      exact kt
    by_cases hc538 : p0 = (1 : Int32)
    · obtain ⟨T540, h540, X540, e540, E540, A540, D540, -, st540⟩ := newO X0 hx hZ hown (hw _ (List.mem_of_getElem? (i := 10) rfl)) (hw _ (List.mem_of_getElem? (i := 11) rfl)) (hw _ (List.mem_of_getElem? (i := 12) rfl)) e0 (g := (mkF m 20 #[.val (.int p0), .val (.int p1), .val (.int p2), .val (.int p3)] [])) rfl (hb hby d3_20) (by decide) (by decide)
      obtain ⟨b540, g540⟩ : ∃ z, z = h0.size := ⟨_, rfl⟩
      have ge_b540 : n0 ≤ b540 := Nat.le_trans Z0 (Nat.le_of_eq g540.symm)
      have gs_b540 : h0.size ≤ b540 := Nat.le_trans (Keep.refl h0 []).1 (Nat.le_of_eq g540.symm)
      have sf_b540 := own_safe_at hC (Nat.le_of_eq g540.symm)
      rw [← g540] at A540 D540 st540
      have x541 := O_.ext E540
      have x542 := Safe.ext E540 hC.1 sf_b540
      have sz543 : n0 ≤ h540.size := Nat.le_trans Z0 E540.1
      have hkS := Nat.le_trans hkS E540.1
      have hC := hC.trans (CHr.ext E540 hC.1)
      have kp544 : Keep h0 h540 [] := (Keep.refl h0 []).ext E540
      have F540_coder : Fld Z h540 b540 "java/lang/String" "coder" "B" (.int (0 : Int32)) := D540 (Or.inr (hw _ (List.mem_of_getElem? (i := 37) rfl))) (ty := .byte) (by decide)
      have F540_value : Fld Z h540 b540 "java/lang/String" "value" "[B" .null := D540 (Or.inr (hw _ (List.mem_of_getElem? (i := 39) rfl))) (ty := (.array .byte)) (by decide)
      obtain ⟨T545, h545, k545, X545, e545, E545, A545, st545⟩ := newP X540 hx hZ (hw _ (List.mem_of_getElem? (i := 13) rfl)) e540 (g := (mkF m 25 #[.val (.int p0), .val (.int p1), .val (.int p2), .val (.int p3)] [.int 1, (.ref b540), (.ref b540)])) rfl (hb hby d3_25) rfl (by decide) (cap := 1) (by decide) (by decide) (by decide) (by decide)
      obtain ⟨b545, g545⟩ : ∃ z, z = h540.size := ⟨_, rfl⟩
      have ne546 : b540 ≠ b545 := Nat.ne_of_lt (Nat.lt_of_lt_of_le A540.lt (Nat.le_of_eq g545.symm))
      have ge_b545 : n0 ≤ b545 := Nat.le_trans sz543 (Nat.le_of_eq g545.symm)
      have gs_b545 : h0.size ≤ b545 := Nat.le_trans kp544.1 (Nat.le_of_eq g545.symm)
      have sf_b545 := own_safe_at hC (Nat.le_of_eq g545.symm)
      rw [← g545] at A545 st545
      have x547 := x541.ext E545
      have x548 := Safe.ext E545 hC.1 x542
      have x549 := A540.ext E545
      have x550 := F540_coder.ext E545
      have x551 := F540_value.ext E545
      have x552 := Safe.ext E545 hC.1 sf_b545
      have sz553 : n0 ≤ h545.size := Nat.le_trans sz543 E545.1
      have hkS := Nat.le_trans hkS E545.1
      have hC := hC.trans (CHr.ext E545 hC.1)
      have kp554 : Keep h0 h545 [] := kp544.ext E545
      have V545 : Arv Z h545 b545 k545 .char (1 : Int32) [(.int (0 : Int32))] (.int (0 : Int32)) := (Arv.new A545 (by decide)).pad (pad_rep [] (.int (0 : Int32)) 1)
      obtain ⟨cl555, Ar555, q555, S555, M555, H555, G555⟩ := id V545
      have hin555 : ¬ ((0 : Int32) < 0 ∨ cl555.slots.size ≤ ((0 : Int32)).toNatClampNeg) := inb_of S555 ⟨(by decide : ¬ (0 : Int32) < 0), (by decide : (0 : Int32) < (1 : Int32))⟩
      obtain ⟨T555, h555, X555, e555, W555, st555⟩ := stC X545 hx hZ e545 Ar555 (j := (0 : Int32)) hin555 (g := (mkF m 30 #[.val (.int p0), .val (.int p1), .val (.int p2), .val (.int p3)] [(.int p1), .int 0, (.ref b545), (.ref b545), (.ref b540), (.ref b540)])) rfl rfl (hb hby d3_30)
      have V555 : Arv Z h555 b545 k545 .char (1 : Int32) [(.int (nar .char p1))] (.int (0 : Int32)) := Arv.set Ar555 q555 S555 M555 H555 G555 (fits_nar_char _) W555 0 rfl (Nat.le_of_ble_eq_true rfl)
      have x556 := x547.wr W555 ge_b545
      have x557 := Safe.wr W555 x552 hC.1 x548
      have x558 := x549.wr W555
      have x559 := x550.other W555 (Or.inl ne546)
      have x560 := x551.other W555 (Or.inl ne546)
      have x561 := Safe.wr W555 x552 hC.1 x552
      have sz562 : n0 ≤ h555.size := Nat.le_trans sz553 (Keep.of_wr W555).1
      have hkS := Nat.le_trans hkS (Keep.of_wr W555).1
      have hC := hC.trans (CHr.wr W555 x552 hC.1)
      have kp563 : Keep h0 h555 [] := kp554.wr W555 (Or.inr gs_b545)
      have N555 := Fr.snoc X555 N0 ge_b545
      obtain ⟨_, _, ⟨T564, L564, k564, n564⟩, -, X564, ⟨Lc564, hQ564, l564, y564, z564⟩, st564⟩ := X555.specialBack hx (y := (⟨"java/lang/String", "<init>", "([C)V"⟩ : MethodName)) rfl hown (mvT hZ (hw _ (List.mem_of_getElem? (i := 14) rfl))) (mvT hZ (hw _ (List.mem_of_getElem? (i := 15) rfl))) (mvT hZ (hw _ (List.mem_of_getElem? (i := 16) rfl))) (by decide) (backOf (W := 1) (rm4_s1 l Z ag hw [] b540 b545 k545 (nar .char p1) cs h555 n0 sz562 x558 x560 x559 ge_b540 ne546 x556 S_cs hcs S_ad S_hi S_lo V555 (own_nar_rng _)) hZ (hw _ (List.mem_of_getElem? (i := 16) rfl)) (hw _ (List.mem_of_getElem? (i := 12) rfl)) (by decide) (by decide)) (g := (mkF m 31 #[.val (.int p0), .val (.int p1), .val (.int p2), .val (.int p3)] [(.ref b545), (.ref b540), (.ref b540)])) rfl (by rw [hml]; rfl) (Steps.refl _) (a := b540) (argsL := [(.ref b545)]) (rest := [(.ref b540)]) (lenOf pd_19 rfl) rfl (by show 2 * 0 + _ ≤ _; exact Nat.le_of_eq rfl) (hb hby d3_31) (fun _ _ => ⟨rfl, e555, (by decide : 2 + 2 ≤ _), (by decide : 5 + 9 ≤ _)⟩)
      dsimp only [Pt.U, Pt.locs, Pt.cells, Pt.slots] at X564 l564 y564 z564 st564 hQ564
      subst l564 y564 z564
      obtain ⟨rfl, N564q, K564, Ss564⟩ := hQ564
      have N564 := Fr.app N555 N564q
      have x565 := x556.keep K564 (allS ge_b540 all0)
      have x566 := Safe.keep K564 (sfS x557 sf0) hC.1 x557
      have x567 := x558.keep K564
      have x568 := Safe.keep K564 (sfS x557 sf0) hC.1 x561
      have x569 := V555.keep K564 (ninS (Ne.symm ne546) nin0)
      have sz570 : n0 ≤ T564.heap.size := Nat.le_trans sz562 K564.1
      have hkS := Nat.le_trans hkS K564.1
      have hC := hC.trans (CHr.keep K564 (sfS x557 sf0) hC.1)
      have kp571 : Keep h0 T564.heap [] := kp563.trans K564 (allS (Or.inr gs_b540) all0)
      obtain ⟨fs, hr, hrun, hended, hEnd⟩ := X564.leaveW hS hkS (v := some (.ref b540)) (fun h => by rw [Bd.returns] at h; cases h)
      refine ⟨_, _, pre0 _ ?_, hrun, hended, _, _, rfl, ?_, ?_, hEnd.1, hEnd.2.1, hEnd.2.2.1, hEnd.2.2.2.mono (by decide) (by decide)⟩
      · show own_S p e below s₁ (mkF m 0 #[.val (.int p0), .val (.int p1), .val (.int p2), .val (.int p3)] []) _
        refine cp539 _ ?_
        show own_S p e below s₁ (mkF m 17 #[.val (.int p0), .val (.int p1), .val (.int p2), .val (.int p3)] [.int 1, (.int p0)]) _
        refine XS.icmpNo X0.here hx rfl (hb hby d3_17) rfl (teq hc538).2 ?_
        show own_S p e below s₁ (mkF m 20 #[.val (.int p0), .val (.int p1), .val (.int p2), .val (.int p3)] []) _
        refine st540 _ ?_
        show own_S p e below T540 (mkF m 23 #[.val (.int p0), .val (.int p1), .val (.int p2), .val (.int p3)] [(.ref b540)]) _
        refine XS.dup X540.here hx rfl (hb hby d3_23) rfl rfl ?_
        show own_S p e below T540 (mkF m 24 #[.val (.int p0), .val (.int p1), .val (.int p2), .val (.int p3)] [(.ref b540), (.ref b540)]) _
        refine XS.iconst X540.here hx rfl (hb hby d3_24) ?_
        show own_S p e below T540 (mkF m 25 #[.val (.int p0), .val (.int p1), .val (.int p2), .val (.int p3)] [.int 1, (.ref b540), (.ref b540)]) _
        refine st545 _ ?_
        show own_S p e below T545 (mkF m 27 #[.val (.int p0), .val (.int p1), .val (.int p2), .val (.int p3)] [(.ref b545), (.ref b540), (.ref b540)]) _
        refine XS.dup X545.here hx rfl (hb hby d3_27) rfl rfl ?_
        show own_S p e below T545 (mkF m 28 #[.val (.int p0), .val (.int p1), .val (.int p2), .val (.int p3)] [(.ref b545), (.ref b545), (.ref b540), (.ref b540)]) _
        refine XS.iconst X545.here hx rfl (hb hby d3_28) ?_
        show own_S p e below T545 (mkF m 29 #[.val (.int p0), .val (.int p1), .val (.int p2), .val (.int p3)] [.int 0, (.ref b545), (.ref b545), (.ref b540), (.ref b540)]) _
        refine XS.iloadN X545.here hx rfl (hb hby d3_29) rfl ?_
        show own_S p e below T545 (mkF m 30 #[.val (.int p0), .val (.int p1), .val (.int p2), .val (.int p3)] [(.int p1), .int 0, (.ref b545), (.ref b545), (.ref b540), (.ref b540)]) _
        refine st555 _ ?_
        show own_S p e below T555 (mkF m 31 #[.val (.int p0), .val (.int p1), .val (.int p2), .val (.int p3)] [(.ref b545), (.ref b540), (.ref b540)]) _
        refine st564.trans ?_
        show own_S p e below T564 (mkF m 34 #[.val (.int p0), .val (.int p1), .val (.int p2), .val (.int p3)] [(.ref b540)]) _
        exact Jvm.RoadKit.retOut X564 hx Bd.returns rfl (Or.inr (Or.inr (Or.inr (Or.inr ⟨rfl, rfl, rfl⟩)))) (hb hby d3_34) hr
      · show Q3 Z p0 p1 p2 p3 cs h0 n0 _ T564.heap _
        have e : own_list p0 p1 p2 p3 = [(nar .char p1)] := by unfold own_list; rw [if_neg hc514, if_pos hc538]
        exact ⟨b540, rfl, N564, kp571, ge_b540, gs_b540, e ▸ Ss564⟩
      · show CHr Z own_EL s.vm s.heap T564.vm T564.heap
        rw [hh]
        exact hC.trans (CHv.at X564 hZ hEL hC.1)
    · have cp573 : ∀ target, own_S p e below s₁ (mkF m 37 #[.val (.int p0), .val (.int p1), .val (.int p2), .val (.int p3)] [.int 2, (.int p0)]) target → own_S p e below s₁ (mkF m 0 #[.val (.int p0), .val (.int p1), .val (.int p2), .val (.int p3)] []) target := by
        intro target kt
        show own_S p e below s₁ (mkF m 0 #[.val (.int p0), .val (.int p1), .val (.int p2), .val (.int p3)] []) _
        refine cp539 _ ?_
        show own_S p e below s₁ (mkF m 17 #[.val (.int p0), .val (.int p1), .val (.int p2), .val (.int p3)] [.int 1, (.int p0)]) _
        refine XS.icmpYes X0.here hx rfl (pc0 := 17) (pc' := 35) rfl (hb hby d3_17) rfl (feq hc538).2 (by decide) (by decide) ?_
        show own_S p e below s₁ (mkF m 35 #[.val (.int p0), .val (.int p1), .val (.int p2), .val (.int p3)] []) _
        refine XS.iloadN X0.here hx rfl (hb hby d3_35) rfl ?_
        show own_S p e below s₁ (mkF m 36 #[.val (.int p0), .val (.int p1), .val (.int p2), .val (.int p3)] [(.int p0)]) _
        refine XS.iconst X0.here hx rfl (hb hby d3_36) ?_
        exact kt
      by_cases hc572 : p0 = (2 : Int32)
      · obtain ⟨T574, h574, X574, e574, E574, A574, D574, -, st574⟩ := newO X0 hx hZ hown (hw _ (List.mem_of_getElem? (i := 10) rfl)) (hw _ (List.mem_of_getElem? (i := 11) rfl)) (hw _ (List.mem_of_getElem? (i := 12) rfl)) e0 (g := (mkF m 40 #[.val (.int p0), .val (.int p1), .val (.int p2), .val (.int p3)] [])) rfl (hb hby d3_40) (by decide) (by decide)
        obtain ⟨b574, g574⟩ : ∃ z, z = h0.size := ⟨_, rfl⟩
        have ge_b574 : n0 ≤ b574 := Nat.le_trans Z0 (Nat.le_of_eq g574.symm)
        have gs_b574 : h0.size ≤ b574 := Nat.le_trans (Keep.refl h0 []).1 (Nat.le_of_eq g574.symm)
        have sf_b574 := own_safe_at hC (Nat.le_of_eq g574.symm)
        rw [← g574] at A574 D574 st574
        have x575 := O_.ext E574
        have x576 := Safe.ext E574 hC.1 sf_b574
        have sz577 : n0 ≤ h574.size := Nat.le_trans Z0 E574.1
        have hkS := Nat.le_trans hkS E574.1
        have hC := hC.trans (CHr.ext E574 hC.1)
        have kp578 : Keep h0 h574 [] := (Keep.refl h0 []).ext E574
        have F574_coder : Fld Z h574 b574 "java/lang/String" "coder" "B" (.int (0 : Int32)) := D574 (Or.inr (hw _ (List.mem_of_getElem? (i := 37) rfl))) (ty := .byte) (by decide)
        have F574_value : Fld Z h574 b574 "java/lang/String" "value" "[B" .null := D574 (Or.inr (hw _ (List.mem_of_getElem? (i := 39) rfl))) (ty := (.array .byte)) (by decide)
        obtain ⟨T579, h579, k579, X579, e579, E579, A579, st579⟩ := newP X574 hx hZ (hw _ (List.mem_of_getElem? (i := 13) rfl)) e574 (g := (mkF m 45 #[.val (.int p0), .val (.int p1), .val (.int p2), .val (.int p3)] [.int 2, (.ref b574), (.ref b574)])) rfl (hb hby d3_45) rfl (by decide) (cap := 2) (by decide) (by decide) (by decide) (by decide)
        obtain ⟨b579, g579⟩ : ∃ z, z = h574.size := ⟨_, rfl⟩
        have ne580 : b574 ≠ b579 := Nat.ne_of_lt (Nat.lt_of_lt_of_le A574.lt (Nat.le_of_eq g579.symm))
        have ge_b579 : n0 ≤ b579 := Nat.le_trans sz577 (Nat.le_of_eq g579.symm)
        have gs_b579 : h0.size ≤ b579 := Nat.le_trans kp578.1 (Nat.le_of_eq g579.symm)
        have sf_b579 := own_safe_at hC (Nat.le_of_eq g579.symm)
        rw [← g579] at A579 st579
        have x581 := x575.ext E579
        have x582 := Safe.ext E579 hC.1 x576
        have x583 := A574.ext E579
        have x584 := F574_coder.ext E579
        have x585 := F574_value.ext E579
        have x586 := Safe.ext E579 hC.1 sf_b579
        have sz587 : n0 ≤ h579.size := Nat.le_trans sz577 E579.1
        have hkS := Nat.le_trans hkS E579.1
        have hC := hC.trans (CHr.ext E579 hC.1)
        have kp588 : Keep h0 h579 [] := kp578.ext E579
        have V579 : Arv Z h579 b579 k579 .char (2 : Int32) [(.int (0 : Int32)), (.int (0 : Int32))] (.int (0 : Int32)) := (Arv.new A579 (by decide)).pad (pad_rep [] (.int (0 : Int32)) 2)
        obtain ⟨cl589, Ar589, q589, S589, M589, H589, G589⟩ := id V579
        have hin589 : ¬ ((0 : Int32) < 0 ∨ cl589.slots.size ≤ ((0 : Int32)).toNatClampNeg) := inb_of S589 ⟨(by decide : ¬ (0 : Int32) < 0), (by decide : (0 : Int32) < (2 : Int32))⟩
        obtain ⟨T589, h589, X589, e589, W589, st589⟩ := stC X579 hx hZ e579 Ar589 (j := (0 : Int32)) hin589 (g := (mkF m 50 #[.val (.int p0), .val (.int p1), .val (.int p2), .val (.int p3)] [(.int p1), .int 0, (.ref b579), (.ref b579), (.ref b574), (.ref b574)])) rfl rfl (hb hby d3_50)
        have V589 : Arv Z h589 b579 k579 .char (2 : Int32) [(.int (nar .char p1)), (.int (0 : Int32))] (.int (0 : Int32)) := Arv.set Ar589 q589 S589 M589 H589 G589 (fits_nar_char _) W589 0 rfl (Nat.le_of_ble_eq_true rfl)
        have x590 := x581.wr W589 ge_b579
        have x591 := Safe.wr W589 x586 hC.1 x582
        have x592 := x583.wr W589
        have x593 := x584.other W589 (Or.inl ne580)
        have x594 := x585.other W589 (Or.inl ne580)
        have x595 := Safe.wr W589 x586 hC.1 x586
        have sz596 : n0 ≤ h589.size := Nat.le_trans sz587 (Keep.of_wr W589).1
        have hkS := Nat.le_trans hkS (Keep.of_wr W589).1
        have hC := hC.trans (CHr.wr W589 x586 hC.1)
        have kp597 : Keep h0 h589 [] := kp588.wr W589 (Or.inr gs_b579)
        have N589 := Fr.snoc X589 N0 ge_b579
        obtain ⟨cl598, Ar598, q598, S598, M598, H598, G598⟩ := id V589
        have hin598 : ¬ ((1 : Int32) < 0 ∨ cl598.slots.size ≤ ((1 : Int32)).toNatClampNeg) := inb_of S598 ⟨(by decide : ¬ (1 : Int32) < 0), (by decide : (1 : Int32) < (2 : Int32))⟩
        obtain ⟨T598, h598, X598, e598, W598, st598⟩ := stC X589 hx hZ e589 Ar598 (j := (1 : Int32)) hin598 (g := (mkF m 54 #[.val (.int p0), .val (.int p1), .val (.int p2), .val (.int p3)] [(.int p2), .int 1, (.ref b579), (.ref b579), (.ref b574), (.ref b574)])) rfl rfl (hb hby d3_54)
        have V598 : Arv Z h598 b579 k579 .char (2 : Int32) [(.int (nar .char p1)), (.int (nar .char p2))] (.int (0 : Int32)) := Arv.set Ar598 q598 S598 M598 H598 G598 (fits_nar_char _) W598 1 rfl (Nat.le_of_ble_eq_true rfl)
        have x599 := x590.wr W598 ge_b579
        have x600 := Safe.wr W598 x595 hC.1 x591
        have x601 := x592.wr W598
        have x602 := x593.other W598 (Or.inl ne580)
        have x603 := x594.other W598 (Or.inl ne580)
        have x604 := Safe.wr W598 x595 hC.1 x595
        have sz605 : n0 ≤ h598.size := Nat.le_trans sz596 (Keep.of_wr W598).1
        have hkS := Nat.le_trans hkS (Keep.of_wr W598).1
        have hC := hC.trans (CHr.wr W598 x595 hC.1)
        have kp606 : Keep h0 h598 [] := kp597.wr W598 (Or.inr gs_b579)
        have N598 := Fr.snoc X598 N589 ge_b579
        have cp607 : ∀ target, own_S p e below T598 (mkF m 55 #[.val (.int p0), .val (.int p1), .val (.int p2), .val (.int p3)] [(.ref b579), (.ref b574), (.ref b574)]) target → own_S p e below s₁ (mkF m 0 #[.val (.int p0), .val (.int p1), .val (.int p2), .val (.int p3)] []) target := by
          intro target kt
          show own_S p e below s₁ (mkF m 0 #[.val (.int p0), .val (.int p1), .val (.int p2), .val (.int p3)] []) _
          refine cp573 _ ?_
          show own_S p e below s₁ (mkF m 37 #[.val (.int p0), .val (.int p1), .val (.int p2), .val (.int p3)] [.int 2, (.int p0)]) _
          refine XS.icmpNo X0.here hx rfl (hb hby d3_37) rfl (teq hc572).2 ?_
          show own_S p e below s₁ (mkF m 40 #[.val (.int p0), .val (.int p1), .val (.int p2), .val (.int p3)] []) _
          refine st574 _ ?_
          show own_S p e below T574 (mkF m 43 #[.val (.int p0), .val (.int p1), .val (.int p2), .val (.int p3)] [(.ref b574)]) _
          refine XS.dup X574.here hx rfl (hb hby d3_43) rfl rfl ?_
          show own_S p e below T574 (mkF m 44 #[.val (.int p0), .val (.int p1), .val (.int p2), .val (.int p3)] [(.ref b574), (.ref b574)]) _
          refine XS.iconst X574.here hx rfl (hb hby d3_44) ?_
          show own_S p e below T574 (mkF m 45 #[.val (.int p0), .val (.int p1), .val (.int p2), .val (.int p3)] [.int 2, (.ref b574), (.ref b574)]) _
          refine st579 _ ?_
          show own_S p e below T579 (mkF m 47 #[.val (.int p0), .val (.int p1), .val (.int p2), .val (.int p3)] [(.ref b579), (.ref b574), (.ref b574)]) _
          refine XS.dup X579.here hx rfl (hb hby d3_47) rfl rfl ?_
          show own_S p e below T579 (mkF m 48 #[.val (.int p0), .val (.int p1), .val (.int p2), .val (.int p3)] [(.ref b579), (.ref b579), (.ref b574), (.ref b574)]) _
          refine XS.iconst X579.here hx rfl (hb hby d3_48) ?_
          show own_S p e below T579 (mkF m 49 #[.val (.int p0), .val (.int p1), .val (.int p2), .val (.int p3)] [.int 0, (.ref b579), (.ref b579), (.ref b574), (.ref b574)]) _
          refine XS.iloadN X579.here hx rfl (hb hby d3_49) rfl ?_
          show own_S p e below T579 (mkF m 50 #[.val (.int p0), .val (.int p1), .val (.int p2), .val (.int p3)] [(.int p1), .int 0, (.ref b579), (.ref b579), (.ref b574), (.ref b574)]) _
          refine st589 _ ?_
          show own_S p e below T589 (mkF m 51 #[.val (.int p0), .val (.int p1), .val (.int p2), .val (.int p3)] [(.ref b579), (.ref b574), (.ref b574)]) _
          refine XS.dup X589.here hx rfl (hb hby d3_51) rfl rfl ?_
          show own_S p e below T589 (mkF m 52 #[.val (.int p0), .val (.int p1), .val (.int p2), .val (.int p3)] [(.ref b579), (.ref b579), (.ref b574), (.ref b574)]) _
          refine XS.iconst X589.here hx rfl (hb hby d3_52) ?_
          show own_S p e below T589 (mkF m 53 #[.val (.int p0), .val (.int p1), .val (.int p2), .val (.int p3)] [.int 1, (.ref b579), (.ref b579), (.ref b574), (.ref b574)]) _
          refine XS.iloadN X589.here hx rfl (hb hby d3_53) rfl ?_
          show own_S p e below T589 (mkF m 54 #[.val (.int p0), .val (.int p1), .val (.int p2), .val (.int p3)] [(.int p2), .int 1, (.ref b579), (.ref b579), (.ref b574), (.ref b574)]) _
          refine st598 _ ?_
          exact kt
        obtain ⟨_, _, ⟨T608, L608, k608, n608⟩, -, X608, ⟨Lc608, hQ608, l608, y608, z608⟩, st608⟩ := X598.specialBack hx (y := (⟨"java/lang/String", "<init>", "([C)V"⟩ : MethodName)) rfl hown (mvT hZ (hw _ (List.mem_of_getElem? (i := 14) rfl))) (mvT hZ (hw _ (List.mem_of_getElem? (i := 15) rfl))) (mvT hZ (hw _ (List.mem_of_getElem? (i := 16) rfl))) (by decide) (backOf (W := 1) (rm4_s2 l Z ag hw [] b574 b579 k579 (nar .char p1) (nar .char p2) cs h598 n0 sz605 x601 x603 x602 ge_b574 ne580 x599 S_cs hcs S_ad S_hi S_lo V598 (own_nar_rng _) (own_nar_rng _)) hZ (hw _ (List.mem_of_getElem? (i := 16) rfl)) (hw _ (List.mem_of_getElem? (i := 12) rfl)) (by decide) (by decide)) (g := (mkF m 55 #[.val (.int p0), .val (.int p1), .val (.int p2), .val (.int p3)] [(.ref b579), (.ref b574), (.ref b574)])) rfl (by rw [hml]; rfl) (Steps.refl _) (a := b574) (argsL := [(.ref b579)]) (rest := [(.ref b574)]) (lenOf pd_19 rfl) rfl (by show 2 * 0 + _ ≤ _; exact Nat.le_of_eq rfl) (hb hby d3_55) (fun _ _ => ⟨rfl, e598, (by decide : 2 + 2 ≤ _), (by decide : 6 + 10 ≤ _)⟩)
        dsimp only [Pt.U, Pt.locs, Pt.cells, Pt.slots] at X608 l608 y608 z608 st608 hQ608
        subst l608 y608 z608
        obtain ⟨rfl, N608q, K608, Ss608⟩ := hQ608
        have N608 := Fr.app N598 N608q
        have x609 := x599.keep K608 (allS ge_b574 all0)
        have x610 := Safe.keep K608 (sfS x600 sf0) hC.1 x600
        have x611 := x601.keep K608
        have x612 := Safe.keep K608 (sfS x600 sf0) hC.1 x604
        have x613 := V598.keep K608 (ninS (Ne.symm ne580) nin0)
        have sz614 : n0 ≤ T608.heap.size := Nat.le_trans sz605 K608.1
        have hkS := Nat.le_trans hkS K608.1
        have hC := hC.trans (CHr.keep K608 (sfS x600 sf0) hC.1)
        have kp615 : Keep h0 T608.heap [] := kp606.trans K608 (allS (Or.inr gs_b574) all0)
        obtain ⟨fs, hr, hrun, hended, hEnd⟩ := X608.leaveW hS hkS (v := some (.ref b574)) (fun h => by rw [Bd.returns] at h; cases h)
        refine ⟨_, _, pre0 _ ?_, hrun, hended, _, _, rfl, ?_, ?_, hEnd.1, hEnd.2.1, hEnd.2.2.1, hEnd.2.2.2.mono (by decide) (by decide)⟩
        · show own_S p e below s₁ (mkF m 0 #[.val (.int p0), .val (.int p1), .val (.int p2), .val (.int p3)] []) _
          refine cp607 _ ?_
          show own_S p e below T598 (mkF m 55 #[.val (.int p0), .val (.int p1), .val (.int p2), .val (.int p3)] [(.ref b579), (.ref b574), (.ref b574)]) _
          refine st608.trans ?_
          show own_S p e below T608 (mkF m 58 #[.val (.int p0), .val (.int p1), .val (.int p2), .val (.int p3)] [(.ref b574)]) _
          exact Jvm.RoadKit.retOut X608 hx Bd.returns rfl (Or.inr (Or.inr (Or.inr (Or.inr ⟨rfl, rfl, rfl⟩)))) (hb hby d3_58) hr
        · show Q3 Z p0 p1 p2 p3 cs h0 n0 _ T608.heap _
          have e : own_list p0 p1 p2 p3 = [(nar .char p1), (nar .char p2)] := by unfold own_list; rw [if_neg hc514, if_neg hc538, if_pos hc572]
          exact ⟨b574, rfl, N608, kp615, ge_b574, gs_b574, e ▸ Ss608⟩
        · show CHr Z own_EL s.vm s.heap T608.vm T608.heap
          rw [hh]
          exact hC.trans (CHv.at X608 hZ hEL hC.1)
      · obtain ⟨T616, h616, X616, e616, E616, A616, D616, -, st616⟩ := newO X0 hx hZ hown (hw _ (List.mem_of_getElem? (i := 10) rfl)) (hw _ (List.mem_of_getElem? (i := 11) rfl)) (hw _ (List.mem_of_getElem? (i := 12) rfl)) e0 (g := (mkF m 59 #[.val (.int p0), .val (.int p1), .val (.int p2), .val (.int p3)] [])) rfl (hb hby d3_59) (by decide) (by decide)
        obtain ⟨b616, g616⟩ : ∃ z, z = h0.size := ⟨_, rfl⟩
        have ge_b616 : n0 ≤ b616 := Nat.le_trans Z0 (Nat.le_of_eq g616.symm)
        have gs_b616 : h0.size ≤ b616 := Nat.le_trans (Keep.refl h0 []).1 (Nat.le_of_eq g616.symm)
        have sf_b616 := own_safe_at hC (Nat.le_of_eq g616.symm)
        rw [← g616] at A616 D616 st616
        have x617 := O_.ext E616
        have x618 := Safe.ext E616 hC.1 sf_b616
        have sz619 : n0 ≤ h616.size := Nat.le_trans Z0 E616.1
        have hkS := Nat.le_trans hkS E616.1
        have hC := hC.trans (CHr.ext E616 hC.1)
        have kp620 : Keep h0 h616 [] := (Keep.refl h0 []).ext E616
        have F616_coder : Fld Z h616 b616 "java/lang/String" "coder" "B" (.int (0 : Int32)) := D616 (Or.inr (hw _ (List.mem_of_getElem? (i := 37) rfl))) (ty := .byte) (by decide)
        have F616_value : Fld Z h616 b616 "java/lang/String" "value" "[B" .null := D616 (Or.inr (hw _ (List.mem_of_getElem? (i := 39) rfl))) (ty := (.array .byte)) (by decide)
        obtain ⟨T621, h621, k621, X621, e621, E621, A621, st621⟩ := newP X616 hx hZ (hw _ (List.mem_of_getElem? (i := 13) rfl)) e616 (g := (mkF m 64 #[.val (.int p0), .val (.int p1), .val (.int p2), .val (.int p3)] [.int 3, (.ref b616), (.ref b616)])) rfl (hb hby d3_64) rfl (by decide) (cap := 3) (by decide) (by decide) (by decide) (by decide)
        obtain ⟨b621, g621⟩ : ∃ z, z = h616.size := ⟨_, rfl⟩
        have ne622 : b616 ≠ b621 := Nat.ne_of_lt (Nat.lt_of_lt_of_le A616.lt (Nat.le_of_eq g621.symm))
        have ge_b621 : n0 ≤ b621 := Nat.le_trans sz619 (Nat.le_of_eq g621.symm)
        have gs_b621 : h0.size ≤ b621 := Nat.le_trans kp620.1 (Nat.le_of_eq g621.symm)
        have sf_b621 := own_safe_at hC (Nat.le_of_eq g621.symm)
        rw [← g621] at A621 st621
        have x623 := x617.ext E621
        have x624 := Safe.ext E621 hC.1 x618
        have x625 := A616.ext E621
        have x626 := F616_coder.ext E621
        have x627 := F616_value.ext E621
        have x628 := Safe.ext E621 hC.1 sf_b621
        have sz629 : n0 ≤ h621.size := Nat.le_trans sz619 E621.1
        have hkS := Nat.le_trans hkS E621.1
        have hC := hC.trans (CHr.ext E621 hC.1)
        have kp630 : Keep h0 h621 [] := kp620.ext E621
        have V621 : Arv Z h621 b621 k621 .char (3 : Int32) [(.int (0 : Int32)), (.int (0 : Int32)), (.int (0 : Int32))] (.int (0 : Int32)) := (Arv.new A621 (by decide)).pad (pad_rep [] (.int (0 : Int32)) 3)
        obtain ⟨cl631, Ar631, q631, S631, M631, H631, G631⟩ := id V621
        have hin631 : ¬ ((0 : Int32) < 0 ∨ cl631.slots.size ≤ ((0 : Int32)).toNatClampNeg) := inb_of S631 ⟨(by decide : ¬ (0 : Int32) < 0), (by decide : (0 : Int32) < (3 : Int32))⟩
        obtain ⟨T631, h631, X631, e631, W631, st631⟩ := stC X621 hx hZ e621 Ar631 (j := (0 : Int32)) hin631 (g := (mkF m 69 #[.val (.int p0), .val (.int p1), .val (.int p2), .val (.int p3)] [(.int p1), .int 0, (.ref b621), (.ref b621), (.ref b616), (.ref b616)])) rfl rfl (hb hby d3_69)
        have V631 : Arv Z h631 b621 k621 .char (3 : Int32) [(.int (nar .char p1)), (.int (0 : Int32)), (.int (0 : Int32))] (.int (0 : Int32)) := Arv.set Ar631 q631 S631 M631 H631 G631 (fits_nar_char _) W631 0 rfl (Nat.le_of_ble_eq_true rfl)
        have x632 := x623.wr W631 ge_b621
        have x633 := Safe.wr W631 x628 hC.1 x624
        have x634 := x625.wr W631
        have x635 := x626.other W631 (Or.inl ne622)
        have x636 := x627.other W631 (Or.inl ne622)
        have x637 := Safe.wr W631 x628 hC.1 x628
        have sz638 : n0 ≤ h631.size := Nat.le_trans sz629 (Keep.of_wr W631).1
        have hkS := Nat.le_trans hkS (Keep.of_wr W631).1
        have hC := hC.trans (CHr.wr W631 x628 hC.1)
        have kp639 : Keep h0 h631 [] := kp630.wr W631 (Or.inr gs_b621)
        have N631 := Fr.snoc X631 N0 ge_b621
        obtain ⟨cl640, Ar640, q640, S640, M640, H640, G640⟩ := id V631
        have hin640 : ¬ ((1 : Int32) < 0 ∨ cl640.slots.size ≤ ((1 : Int32)).toNatClampNeg) := inb_of S640 ⟨(by decide : ¬ (1 : Int32) < 0), (by decide : (1 : Int32) < (3 : Int32))⟩
        obtain ⟨T640, h640, X640, e640, W640, st640⟩ := stC X631 hx hZ e631 Ar640 (j := (1 : Int32)) hin640 (g := (mkF m 73 #[.val (.int p0), .val (.int p1), .val (.int p2), .val (.int p3)] [(.int p2), .int 1, (.ref b621), (.ref b621), (.ref b616), (.ref b616)])) rfl rfl (hb hby d3_73)
        have V640 : Arv Z h640 b621 k621 .char (3 : Int32) [(.int (nar .char p1)), (.int (nar .char p2)), (.int (0 : Int32))] (.int (0 : Int32)) := Arv.set Ar640 q640 S640 M640 H640 G640 (fits_nar_char _) W640 1 rfl (Nat.le_of_ble_eq_true rfl)
        have x641 := x632.wr W640 ge_b621
        have x642 := Safe.wr W640 x637 hC.1 x633
        have x643 := x634.wr W640
        have x644 := x635.other W640 (Or.inl ne622)
        have x645 := x636.other W640 (Or.inl ne622)
        have x646 := Safe.wr W640 x637 hC.1 x637
        have sz647 : n0 ≤ h640.size := Nat.le_trans sz638 (Keep.of_wr W640).1
        have hkS := Nat.le_trans hkS (Keep.of_wr W640).1
        have hC := hC.trans (CHr.wr W640 x637 hC.1)
        have kp648 : Keep h0 h640 [] := kp639.wr W640 (Or.inr gs_b621)
        have N640 := Fr.snoc X640 N631 ge_b621
        obtain ⟨cl649, Ar649, q649, S649, M649, H649, G649⟩ := id V640
        have hin649 : ¬ ((2 : Int32) < 0 ∨ cl649.slots.size ≤ ((2 : Int32)).toNatClampNeg) := inb_of S649 ⟨(by decide : ¬ (2 : Int32) < 0), (by decide : (2 : Int32) < (3 : Int32))⟩
        obtain ⟨T649, h649, X649, e649, W649, st649⟩ := stC X640 hx hZ e640 Ar649 (j := (2 : Int32)) hin649 (g := (mkF m 77 #[.val (.int p0), .val (.int p1), .val (.int p2), .val (.int p3)] [(.int p3), .int 2, (.ref b621), (.ref b621), (.ref b616), (.ref b616)])) rfl rfl (hb hby d3_77)
        have V649 : Arv Z h649 b621 k621 .char (3 : Int32) [(.int (nar .char p1)), (.int (nar .char p2)), (.int (nar .char p3))] (.int (0 : Int32)) := Arv.set Ar649 q649 S649 M649 H649 G649 (fits_nar_char _) W649 2 rfl (Nat.le_of_ble_eq_true rfl)
        have x650 := x641.wr W649 ge_b621
        have x651 := Safe.wr W649 x646 hC.1 x642
        have x652 := x643.wr W649
        have x653 := x644.other W649 (Or.inl ne622)
        have x654 := x645.other W649 (Or.inl ne622)
        have x655 := Safe.wr W649 x646 hC.1 x646
        have sz656 : n0 ≤ h649.size := Nat.le_trans sz647 (Keep.of_wr W649).1
        have hkS := Nat.le_trans hkS (Keep.of_wr W649).1
        have hC := hC.trans (CHr.wr W649 x646 hC.1)
        have kp657 : Keep h0 h649 [] := kp648.wr W649 (Or.inr gs_b621)
        have N649 := Fr.snoc X649 N640 ge_b621
        have cp658 : ∀ target, own_S p e below T649 (mkF m 78 #[.val (.int p0), .val (.int p1), .val (.int p2), .val (.int p3)] [(.ref b621), (.ref b616), (.ref b616)]) target → own_S p e below s₁ (mkF m 0 #[.val (.int p0), .val (.int p1), .val (.int p2), .val (.int p3)] []) target := by
          intro target kt
          show own_S p e below s₁ (mkF m 0 #[.val (.int p0), .val (.int p1), .val (.int p2), .val (.int p3)] []) _
          refine cp573 _ ?_
          show own_S p e below s₁ (mkF m 37 #[.val (.int p0), .val (.int p1), .val (.int p2), .val (.int p3)] [.int 2, (.int p0)]) _
          refine XS.icmpYes X0.here hx rfl (pc0 := 37) (pc' := 59) rfl (hb hby d3_37) rfl (feq hc572).2 (by decide) (by decide) ?_
          show own_S p e below s₁ (mkF m 59 #[.val (.int p0), .val (.int p1), .val (.int p2), .val (.int p3)] []) _
          refine st616 _ ?_
          show own_S p e below T616 (mkF m 62 #[.val (.int p0), .val (.int p1), .val (.int p2), .val (.int p3)] [(.ref b616)]) _
          refine XS.dup X616.here hx rfl (hb hby d3_62) rfl rfl ?_
          show own_S p e below T616 (mkF m 63 #[.val (.int p0), .val (.int p1), .val (.int p2), .val (.int p3)] [(.ref b616), (.ref b616)]) _
          refine XS.iconst X616.here hx rfl (hb hby d3_63) ?_
          show own_S p e below T616 (mkF m 64 #[.val (.int p0), .val (.int p1), .val (.int p2), .val (.int p3)] [.int 3, (.ref b616), (.ref b616)]) _
          refine st621 _ ?_
          show own_S p e below T621 (mkF m 66 #[.val (.int p0), .val (.int p1), .val (.int p2), .val (.int p3)] [(.ref b621), (.ref b616), (.ref b616)]) _
          refine XS.dup X621.here hx rfl (hb hby d3_66) rfl rfl ?_
          show own_S p e below T621 (mkF m 67 #[.val (.int p0), .val (.int p1), .val (.int p2), .val (.int p3)] [(.ref b621), (.ref b621), (.ref b616), (.ref b616)]) _
          refine XS.iconst X621.here hx rfl (hb hby d3_67) ?_
          show own_S p e below T621 (mkF m 68 #[.val (.int p0), .val (.int p1), .val (.int p2), .val (.int p3)] [.int 0, (.ref b621), (.ref b621), (.ref b616), (.ref b616)]) _
          refine XS.iloadN X621.here hx rfl (hb hby d3_68) rfl ?_
          show own_S p e below T621 (mkF m 69 #[.val (.int p0), .val (.int p1), .val (.int p2), .val (.int p3)] [(.int p1), .int 0, (.ref b621), (.ref b621), (.ref b616), (.ref b616)]) _
          refine st631 _ ?_
          show own_S p e below T631 (mkF m 70 #[.val (.int p0), .val (.int p1), .val (.int p2), .val (.int p3)] [(.ref b621), (.ref b616), (.ref b616)]) _
          refine XS.dup X631.here hx rfl (hb hby d3_70) rfl rfl ?_
          show own_S p e below T631 (mkF m 71 #[.val (.int p0), .val (.int p1), .val (.int p2), .val (.int p3)] [(.ref b621), (.ref b621), (.ref b616), (.ref b616)]) _
          refine XS.iconst X631.here hx rfl (hb hby d3_71) ?_
          show own_S p e below T631 (mkF m 72 #[.val (.int p0), .val (.int p1), .val (.int p2), .val (.int p3)] [.int 1, (.ref b621), (.ref b621), (.ref b616), (.ref b616)]) _
          refine XS.iloadN X631.here hx rfl (hb hby d3_72) rfl ?_
          show own_S p e below T631 (mkF m 73 #[.val (.int p0), .val (.int p1), .val (.int p2), .val (.int p3)] [(.int p2), .int 1, (.ref b621), (.ref b621), (.ref b616), (.ref b616)]) _
          refine st640 _ ?_
          show own_S p e below T640 (mkF m 74 #[.val (.int p0), .val (.int p1), .val (.int p2), .val (.int p3)] [(.ref b621), (.ref b616), (.ref b616)]) _
          refine XS.dup X640.here hx rfl (hb hby d3_74) rfl rfl ?_
          show own_S p e below T640 (mkF m 75 #[.val (.int p0), .val (.int p1), .val (.int p2), .val (.int p3)] [(.ref b621), (.ref b621), (.ref b616), (.ref b616)]) _
          refine XS.iconst X640.here hx rfl (hb hby d3_75) ?_
          show own_S p e below T640 (mkF m 76 #[.val (.int p0), .val (.int p1), .val (.int p2), .val (.int p3)] [.int 2, (.ref b621), (.ref b621), (.ref b616), (.ref b616)]) _
          refine XS.iloadN X640.here hx rfl (hb hby d3_76) rfl ?_
          show own_S p e below T640 (mkF m 77 #[.val (.int p0), .val (.int p1), .val (.int p2), .val (.int p3)] [(.int p3), .int 2, (.ref b621), (.ref b621), (.ref b616), (.ref b616)]) _
          refine st649 _ ?_
          exact kt
        obtain ⟨_, _, ⟨T659, L659, k659, n659⟩, -, X659, ⟨Lc659, hQ659, l659, y659, z659⟩, st659⟩ := X649.specialBack hx (y := (⟨"java/lang/String", "<init>", "([C)V"⟩ : MethodName)) rfl hown (mvT hZ (hw _ (List.mem_of_getElem? (i := 14) rfl))) (mvT hZ (hw _ (List.mem_of_getElem? (i := 15) rfl))) (mvT hZ (hw _ (List.mem_of_getElem? (i := 16) rfl))) (by decide) (backOf (W := 1) (rm4_s3 l Z ag hw [] b616 b621 k621 (nar .char p1) (nar .char p2) (nar .char p3) cs h649 n0 sz656 x652 x654 x653 ge_b616 ne622 x650 S_cs hcs S_ad S_hi S_lo V649 (own_nar_rng _) (own_nar_rng _) (own_nar_rng _)) hZ (hw _ (List.mem_of_getElem? (i := 16) rfl)) (hw _ (List.mem_of_getElem? (i := 12) rfl)) (by decide) (by decide)) (g := (mkF m 78 #[.val (.int p0), .val (.int p1), .val (.int p2), .val (.int p3)] [(.ref b621), (.ref b616), (.ref b616)])) rfl (by rw [hml]; rfl) (Steps.refl _) (a := b616) (argsL := [(.ref b621)]) (rest := [(.ref b616)]) (lenOf pd_19 rfl) rfl (by show 2 * 0 + _ ≤ _; exact Nat.le_of_eq rfl) (hb hby d3_78) (fun _ _ => ⟨rfl, e649, (by decide : 2 + 2 ≤ _), (by decide : 7 + 11 ≤ _)⟩)
        dsimp only [Pt.U, Pt.locs, Pt.cells, Pt.slots] at X659 l659 y659 z659 st659 hQ659
        subst l659 y659 z659
        obtain ⟨rfl, N659q, K659, Ss659⟩ := hQ659
        have N659 := Fr.app N649 N659q
        have x660 := x650.keep K659 (allS ge_b616 all0)
        have x661 := Safe.keep K659 (sfS x651 sf0) hC.1 x651
        have x662 := x652.keep K659
        have x663 := Safe.keep K659 (sfS x651 sf0) hC.1 x655
        have x664 := V649.keep K659 (ninS (Ne.symm ne622) nin0)
        have sz665 : n0 ≤ T659.heap.size := Nat.le_trans sz656 K659.1
        have hkS := Nat.le_trans hkS K659.1
        have hC := hC.trans (CHr.keep K659 (sfS x651 sf0) hC.1)
        have kp666 : Keep h0 T659.heap [] := kp657.trans K659 (allS (Or.inr gs_b616) all0)
        obtain ⟨fs, hr, hrun, hended, hEnd⟩ := X659.leaveW hS hkS (v := some (.ref b616)) (fun h => by rw [Bd.returns] at h; cases h)
        refine ⟨_, _, pre0 _ ?_, hrun, hended, _, _, rfl, ?_, ?_, hEnd.1, hEnd.2.1, hEnd.2.2.1, hEnd.2.2.2.mono (by decide) (by decide)⟩
        · show own_S p e below s₁ (mkF m 0 #[.val (.int p0), .val (.int p1), .val (.int p2), .val (.int p3)] []) _
          refine cp658 _ ?_
          show own_S p e below T649 (mkF m 78 #[.val (.int p0), .val (.int p1), .val (.int p2), .val (.int p3)] [(.ref b621), (.ref b616), (.ref b616)]) _
          refine st659.trans ?_
          show own_S p e below T659 (mkF m 81 #[.val (.int p0), .val (.int p1), .val (.int p2), .val (.int p3)] [(.ref b616)]) _
          exact Jvm.RoadKit.retOut X659 hx Bd.returns rfl (Or.inr (Or.inr (Or.inr (Or.inr ⟨rfl, rfl, rfl⟩)))) (hb hby d3_81) hr
        · show Q3 Z p0 p1 p2 p3 cs h0 n0 _ T659.heap _
          have e : own_list p0 p1 p2 p3 = [(nar .char p1), (nar .char p2), (nar .char p3)] := by unfold own_list; rw [if_neg hc514, if_neg hc538, if_neg hc572]
          exact ⟨b616, rfl, N659, kp666, ge_b616, gs_b616, e ▸ Ss659⟩
        · show CHr Z own_EL s.vm s.heap T659.vm T659.heap
          rw [hh]
          exact hC.trans (CHv.at X659 hZ hEL hC.1)
theorem own_list_0 (a b c : Int32) : own_list (0 : Int32) a b c = [] := by unfold own_list; rw [if_pos rfl]
theorem own_list_1 (a b c : Int32) : own_list (1 : Int32) a b c = [nar .char a] := by unfold own_list; rw [if_neg (by decide), if_pos rfl]
theorem own_list_2 (a b c : Int32) : own_list (2 : Int32) a b c = [nar .char a, nar .char b] := by unfold own_list; rw [if_neg (by decide), if_neg (by decide), if_pos rfl]
theorem own_list_3 (a b c : Int32) : own_list (3 : Int32) a b c = [nar .char a, nar .char b, nar .char c] := by unfold own_list; rw [if_neg (by decide), if_neg (by decide), if_neg (by decide)]
def own_sw3 (us : List Int32) (d0 : Int32) (d1 : Int32) (d2 : Int32) : Int32 := if (Int32.ofNat us.length) < (3 : Int32) then 0 else (if (own_fold (us.getD ((0 : Int32)).toNatClampNeg 0)) = d0 then (if (own_fold (us.getD ((1 : Int32)).toNatClampNeg 0)) = d1 then (if (own_fold (us.getD ((2 : Int32)).toNatClampNeg 0)) = d2 then 1 else 0) else 0) else 0)
theorem own_us_ix3 (us : List Int32) (h3 : us.length ≤ 3) (h : ¬ (Int32.ofNat us.length) < (3 : Int32)) {i : Nat} (hi : i < 3) : i < us.length := by
  rcases own_five us.length (by omega) with e | e | e | e | e <;> rw [e] at h ⊢ <;> first | omega | exact absurd h (by decide)
theorem ef_10 (m : MethodId) (a0 : Addr) (a1 : Addr) : entryFrame m #[(.ref a0), (.ref a1)] 3 = mkF m 0 #[.val (.ref a0), .val (.ref a1), .unset] [] := by first | (simp [entryFrame, mkF, argsToLocals, Value.category]; done) | rfl
theorem d10_0 : decode prog_2_method_3_code 0 = .ok (.aload_n 0, 1) := by decide +kernel
theorem pd_1 : parseMethodDescriptor "()I" = some ⟨[], some .int⟩ := by decide +kernel
theorem d10_1 : decode prog_2_method_3_code 1 = .ok (.invokevirtual 7, 3) := by decide +kernel
theorem d10_4 : decode prog_2_method_3_code 4 = .ok (.aload_n 1, 1) := by decide +kernel
theorem d10_5 : decode prog_2_method_3_code 5 = .ok (.invokevirtual 7, 3) := by decide +kernel
theorem d10_8 : decode prog_2_method_3_code 8 = .ok (.if_icmp .ge 5, 3) := by decide +kernel
theorem d10_11 : decode prog_2_method_3_code 11 = .ok (.iconst 0, 1) := by decide +kernel
theorem d10_12 : decode prog_2_method_3_code 12 = .ok (.ireturn, 1) := by decide +kernel
theorem d10_13 : decode prog_2_method_3_code 13 = .ok (.iconst 0, 1) := by decide +kernel
theorem d10_14 : decode prog_2_method_3_code 14 = .ok (.istore_n 2, 1) := by decide +kernel
theorem d10_15 : decode prog_2_method_3_code 15 = .ok (.iload_n 2, 1) := by decide +kernel
theorem d10_16 : decode prog_2_method_3_code 16 = .ok (.aload_n 1, 1) := by decide +kernel
theorem d10_17 : decode prog_2_method_3_code 17 = .ok (.invokevirtual 7, 3) := by decide +kernel
theorem d10_20 : decode prog_2_method_3_code 20 = .ok (.if_icmp .ge 27, 3) := by decide +kernel
theorem d10_23 : decode prog_2_method_3_code 23 = .ok (.aload_n 0, 1) := by decide +kernel
theorem d10_24 : decode prog_2_method_3_code 24 = .ok (.iload_n 2, 1) := by decide +kernel
theorem pd_7 : parseMethodDescriptor "(I)C" = some ⟨[.int], some .char⟩ := by decide +kernel
theorem d10_25 : decode prog_2_method_3_code 25 = .ok (.invokevirtual 13, 3) := by decide +kernel
theorem pd_4 : parseMethodDescriptor "(C)C" = some ⟨[.char], some .char⟩ := by decide +kernel
theorem d10_28 : decode prog_2_method_3_code 28 = .ok (.invokestatic 17, 3) := by decide +kernel
theorem d10_31 : decode prog_2_method_3_code 31 = .ok (.aload_n 1, 1) := by decide +kernel
theorem d10_32 : decode prog_2_method_3_code 32 = .ok (.iload_n 2, 1) := by decide +kernel
theorem d10_33 : decode prog_2_method_3_code 33 = .ok (.invokevirtual 13, 3) := by decide +kernel
theorem d10_36 : decode prog_2_method_3_code 36 = .ok (.if_icmp .eq 5, 3) := by decide +kernel
theorem d10_41 : decode prog_2_method_3_code 41 = .ok (.iinc 2 1, 3) := by decide +kernel
theorem d10_44 : decode prog_2_method_3_code 44 = .ok (.goto (-29), 3) := by decide +kernel
theorem d10_47 : decode prog_2_method_3_code 47 = .ok (.iconst 1, 1) := by decide +kernel
theorem d10_48 : decode prog_2_method_3_code 48 = .ok (.ireturn, 1) := by decide +kernel
theorem d10_39 : decode prog_2_method_3_code 39 = .ok (.iconst 0, 1) := by decide +kernel
theorem d10_40 : decode prog_2_method_3_code 40 = .ok (.ireturn, 1) := by decide +kernel
def Q10_3 (Z : State) (a0 : Addr) (a1 : Addr) (us : List Int32) (d0 : Int32) (d1 : Int32) (d2 : Int32) (cs : Int32) (gf : Value) (h0 : Heap) (n0 : Nat) (v : Option Value) (h : Heap) (L : List Loc) : Prop := v = some (.int (own_sw3 us d0 d1 d2)) ∧ Fr n0 L ∧ h = h0
set_option maxRecDepth 65536 in
set_option maxHeartbeats 40000000 in
theorem rm10_3 (l : Launch) (Z : State) (ag : Array Value) (hw : ∀ d ∈ tables_1, d.before ag Z = true) (ws : List Jvm.Cond) (a0 : Addr) (a1 : Addr) (us : List Int32) (d0 : Int32) (d1 : Int32) (d2 : Int32) (cs : Int32) (gf : Value) (h0 : Heap) (n0 : Nat) (Z0 : n0 ≤ h0.size) (T_ : own_str Z h0 a0 us) (L_ : own_str Z h0 a1 [d0, d1, d2]) (hus : us.length ≤ 3) (O_ : Old Z n0 h0) (S_cs : Sta Z Z.heap "java/lang/String" "COMPACT_STRINGS" "Z" (.int cs)) (hcs : ¬ cs = (0 : Int32)) (S_gf : Sta Z Z.heap "jdk/internal/util/Preconditions" "SIOOBE_FORMATTER" "Ljava/util/function/BiFunction;" gf) (rv_gf : gf.isRef = true) (S_ad : Sta Z Z.heap "java/lang/StringUTF16" "$assertionsDisabled" "Z" (.int (1 : Int32))) (S_hi : Sta Z Z.heap "java/lang/StringUTF16" "HI_BYTE_SHIFT" "I" (.int (0 : Int32))) (S_lo : Sta Z Z.heap "java/lang/StringUTF16" "LO_BYTE_SHIFT" "I" (.int (8 : Int32))) :
    MetFree l (⟨"com/example/tenpoint/tenpoint/AsciiCase", "startsWith", "(Ljava/lang/String;Ljava/lang/String;)Z"⟩ : MethodName) (head1 (Jvm.Cond.code (⟨"com/example/tenpoint/tenpoint/AsciiCase", "startsWith", "(Ljava/lang/String;Ljava/lang/String;)Z"⟩ : MethodName) prog_2_method_3_code 3 (some .boolean) :: ws) ({ frames := 6, cells := 0, slots := 0, locals := 84 } : Room)) (fun a U => a = #[(.ref a0), (.ref a1)] ∧ Z.Warmed39 U.vm ∧ U.heap = h0) (fun _ _ _ _ _ => True) (fun _ U o U' => ∃ v L, o = .returned v ∧ Q10_3 Z a0 a1 us d0 d1 d2 cs gf h0 n0 v U'.heap L ∧ FrameEnd U o U' L ({ frames := 6, cells := 0, slots := 0, locals := 84 } : Room).cells ({ frames := 6, cells := 0, slots := 0, locals := 84 } : Room).slots) := by
  refine MetFree.of_bodySF (plainFor_of_name pn_0) hisR ?_
  intro p e s m args below meth c s₁ Bd hml0 hP hK
  obtain ⟨rfl, hZ, hh⟩ := hP
  have hx := Bd.exec
  have hby := Bd.bytes
  have hml : c.maxLocals = 3 := hml0
  have hown : s.vm.findClass "com/example/tenpoint/tenpoint/AsciiCase" = some m.cls := findClass_of_methodNamed Bd.named
  have hnm := (name_of_methodNamed Bd.named Bd.method).1
  have X0 : Stand p l e ({ frames := 6, cells := 0, slots := 0, locals := 84 } : Room) s m #[(.ref a0), (.ref a1)] below meth c s₁ [] 0 0 := Stand.of_body Bd
  have e0 : s₁.heap = h0 := by rw [← hh, Bd.state]; rfl
  have N0 := Fr.nil n0
  have pre0 : ∀ t, Steps p.tables e below (s₁.setTop (mkF m 0 #[.val (.ref a0), .val (.ref a1), .unset] [])) t → Steps p.tables e below (s₁.setTop (entryFrame m #[(.ref a0), (.ref a1)] 3)) t := fun t k => castTop (ef_10 m a0 a1) k
  obtain ⟨cq667, kq667, q667a, q667b, q667c⟩ := isOf hZ e0 T_.1
  obtain ⟨_, _, ⟨T667, L667, k667, n667⟩, -, X667, ⟨Lc667, hQ667, l667, y667, z667⟩, st667⟩ := X0.virtualBack hx (y := (⟨"java/lang/String", "length", "()I"⟩ : MethodName)) (z := (⟨"java/lang/String", "length", "()I"⟩ : MethodName)) hown (mvT hZ (hw _ (List.mem_of_getElem? (i := 47) rfl))) (mvT hZ (hw _ (List.mem_of_getElem? (i := 48) rfl))) (notFace_of_selects (args := #[]) (mvT hZ (hw _ (List.mem_of_getElem? (i := 50) rfl)))) (mvT hZ (hw _ (List.mem_of_getElem? (i := 50) rfl))) (mvT hZ (hw _ (List.mem_of_getElem? (i := 49) rfl))) (by decide) (backOf (W := 0) (rm11 l Z ag hw [] a0 us cs h0 n0 Z0 T_ O_ S_cs hcs) hZ (hw _ (List.mem_of_getElem? (i := 51) rfl)) (hw _ (List.mem_of_getElem? (i := 12) rfl)) (by decide) (by decide)) q667a q667c (g := (mkF m 1 #[.val (.ref a0), .val (.ref a1), .unset] [(.ref a0)])) rfl (by rw [hml]; rfl) (Steps.refl _) (argsL := []) (rest := []) (lenOf pd_1 rfl) rfl (by show 2 * 0 + _ ≤ _; exact Nat.le_of_eq rfl) (hb hby d10_1) (fun _ _ => ⟨rfl, e0, (by decide : 0 + 0 ≤ _), (by decide : 0 + 0 ≤ _)⟩)
  dsimp only [Pt.U, Pt.locs, Pt.cells, Pt.slots] at X667 l667 y667 z667 st667 hQ667
  subst l667 y667 z667
  obtain ⟨rfl, N667q, e667⟩ := hQ667
  have N667 := Fr.app N0 N667q
  obtain ⟨cq668, kq668, q668a, q668b, q668c⟩ := isOf hZ e667 L_.1
  obtain ⟨_, _, ⟨T668, L668, k668, n668⟩, -, X668, ⟨Lc668, hQ668, l668, y668, z668⟩, st668⟩ := X667.virtualBack hx (y := (⟨"java/lang/String", "length", "()I"⟩ : MethodName)) (z := (⟨"java/lang/String", "length", "()I"⟩ : MethodName)) hown (mvT hZ (hw _ (List.mem_of_getElem? (i := 47) rfl))) (mvT hZ (hw _ (List.mem_of_getElem? (i := 48) rfl))) (notFace_of_selects (args := #[]) (mvT hZ (hw _ (List.mem_of_getElem? (i := 50) rfl)))) (mvT hZ (hw _ (List.mem_of_getElem? (i := 50) rfl))) (mvT hZ (hw _ (List.mem_of_getElem? (i := 49) rfl))) (by decide) (backOf (W := 1) (rm11 l Z ag hw [] a1 [d0, d1, d2] cs h0 n0 Z0 L_ O_ S_cs hcs) hZ (hw _ (List.mem_of_getElem? (i := 51) rfl)) (hw _ (List.mem_of_getElem? (i := 12) rfl)) (by decide) (by decide)) q668a q668c (g := (mkF m 5 #[.val (.ref a0), .val (.ref a1), .unset] [(.ref a1), (.int (Int32.ofNat us.length))])) rfl (by rw [hml]; rfl) (Steps.refl _) (argsL := []) (rest := [(.int (Int32.ofNat us.length))]) (lenOf pd_1 rfl) rfl (by show 2 * 0 + _ ≤ _; exact Nat.le_of_eq rfl) (hb hby d10_5) (fun _ _ => ⟨rfl, e667, (by decide : 0 + 0 ≤ _), (by decide : 0 + 0 ≤ _)⟩)
  dsimp only [Pt.U, Pt.locs, Pt.cells, Pt.slots] at X668 l668 y668 z668 st668 hQ668
  subst l668 y668 z668
  obtain ⟨rfl, N668q, e668⟩ := hQ668
  have N668 := Fr.app N667 N668q
  have cp670 : ∀ target, own_S p e below T668 (mkF m 8 #[.val (.ref a0), .val (.ref a1), .unset] [.int 3, (.int (Int32.ofNat us.length))]) target → own_S p e below s₁ (mkF m 0 #[.val (.ref a0), .val (.ref a1), .unset] []) target := by
    intro target kt
    show own_S p e below s₁ (mkF m 0 #[.val (.ref a0), .val (.ref a1), .unset] []) _
    refine XS.aloadN X0.here hx rfl (hb hby d10_0) rfl rfl ?_
    show own_S p e below s₁ (mkF m 1 #[.val (.ref a0), .val (.ref a1), .unset] [(.ref a0)]) _
    refine st667.trans ?_
    show own_S p e below T667 (mkF m 4 #[.val (.ref a0), .val (.ref a1), .unset] [(.int (Int32.ofNat us.length))]) _
    refine XS.aloadN X667.here hx rfl (hb hby d10_4) rfl rfl ?_
    show own_S p e below T667 (mkF m 5 #[.val (.ref a0), .val (.ref a1), .unset] [(.ref a1), (.int (Int32.ofNat us.length))]) _
    refine st668.trans ?_
    exact kt
  by_cases hc669 : (Int32.ofNat us.length) < (3 : Int32)
  · obtain ⟨fs, hr, hrun, hended, hW, hsame⟩ := X668.leave (v := some (.int (0 : Int32))) (fun h => by rw [Bd.returns] at h; cases h)
    refine ⟨_, _, pre0 _ ?_, hrun, hended, _, _, rfl, ?_, ⟨_, rfl⟩, hW, hsame.mono (by decide) (by decide)⟩
    · show own_S p e below s₁ (mkF m 0 #[.val (.ref a0), .val (.ref a1), .unset] []) _
      refine cp670 _ ?_
      show own_S p e below T668 (mkF m 8 #[.val (.ref a0), .val (.ref a1), .unset] [.int 3, (.int (Int32.ofNat us.length))]) _
      refine XS.icmpNo X668.here hx rfl (hb hby d10_8) rfl (tlt hc669).2.1 ?_
      show own_S p e below T668 (mkF m 11 #[.val (.ref a0), .val (.ref a1), .unset] []) _
      refine XS.iconst X668.here hx rfl (hb hby d10_11) ?_
      show own_S p e below T668 (mkF m 12 #[.val (.ref a0), .val (.ref a1), .unset] [.int 0]) _
      exact retN X668 hx (t := .boolean) Bd.returns (by simp) (hb hby d10_12) hr
    · show Q10_3 Z a0 a1 us d0 d1 d2 cs gf h0 n0 _ T668.heap _
      rw [e668]
      exact ⟨congrArg (fun z => some (Value.int z)) (show _ = own_sw3 us d0 d1 d2 from by unfold own_sw3; rw [if_pos hc669]), N668, rfl⟩
  · obtain ⟨cq671, kq671, q671a, q671b, q671c⟩ := isOf hZ e668 L_.1
    obtain ⟨_, _, ⟨T671, L671, k671, n671⟩, -, X671, ⟨Lc671, hQ671, l671, y671, z671⟩, st671⟩ := X668.virtualBack hx (y := (⟨"java/lang/String", "length", "()I"⟩ : MethodName)) (z := (⟨"java/lang/String", "length", "()I"⟩ : MethodName)) hown (mvT hZ (hw _ (List.mem_of_getElem? (i := 47) rfl))) (mvT hZ (hw _ (List.mem_of_getElem? (i := 48) rfl))) (notFace_of_selects (args := #[]) (mvT hZ (hw _ (List.mem_of_getElem? (i := 50) rfl)))) (mvT hZ (hw _ (List.mem_of_getElem? (i := 50) rfl))) (mvT hZ (hw _ (List.mem_of_getElem? (i := 49) rfl))) (by decide) (backOf (W := 1) (rm11 l Z ag hw [] a1 [d0, d1, d2] cs h0 n0 Z0 L_ O_ S_cs hcs) hZ (hw _ (List.mem_of_getElem? (i := 51) rfl)) (hw _ (List.mem_of_getElem? (i := 12) rfl)) (by decide) (by decide)) q671a q671c (g := (mkF m 17 #[.val (.ref a0), .val (.ref a1), .val (.int 0)] [(.ref a1), .int 0])) rfl (by rw [hml]; rfl) (Steps.refl _) (argsL := []) (rest := [(.int (0 : Int32))]) (lenOf pd_1 rfl) rfl (by show 2 * 0 + _ ≤ _; exact Nat.le_of_eq rfl) (hb hby d10_17) (fun _ _ => ⟨rfl, e668, (by decide : 0 + 0 ≤ _), (by decide : 0 + 0 ≤ _)⟩)
    dsimp only [Pt.U, Pt.locs, Pt.cells, Pt.slots] at X671 l671 y671 z671 st671 hQ671
    subst l671 y671 z671
    obtain ⟨rfl, N671q, e671⟩ := hQ671
    have N671 := Fr.app N668 N671q
    obtain ⟨cq672, kq672, q672a, q672b, q672c⟩ := isOf hZ e671 T_.1
    obtain ⟨_, _, ⟨T672, L672, k672, n672⟩, -, X672, ⟨Lc672, hQ672, l672, y672, z672⟩, st672⟩ := X671.virtualBack hx (y := (⟨"java/lang/String", "charAt", "(I)C"⟩ : MethodName)) (z := (⟨"java/lang/String", "charAt", "(I)C"⟩ : MethodName)) hown (mvT hZ (hw _ (List.mem_of_getElem? (i := 79) rfl))) (mvT hZ (hw _ (List.mem_of_getElem? (i := 80) rfl))) (notFace_of_selects (args := #[]) (mvT hZ (hw _ (List.mem_of_getElem? (i := 82) rfl)))) (mvT hZ (hw _ (List.mem_of_getElem? (i := 82) rfl))) (mvT hZ (hw _ (List.mem_of_getElem? (i := 81) rfl))) (by decide) (backOf (W := 0) (rm19 l Z ag hw [] a0 (0 : Int32) us cs gf h0 n0 Z0 T_ (by decide) (own_us_ix3 us hus hc669 (by decide)) O_ S_cs hcs S_gf rv_gf S_ad S_hi S_lo) hZ (hw _ (List.mem_of_getElem? (i := 83) rfl)) (hw _ (List.mem_of_getElem? (i := 12) rfl)) (by decide) (by decide)) q672a q672c (g := (mkF m 25 #[.val (.ref a0), .val (.ref a1), .val (.int 0)] [.int 0, (.ref a0)])) rfl (by rw [hml]; rfl) (Steps.refl _) (argsL := [(.int (0 : Int32))]) (rest := []) (lenOf pd_7 rfl) rfl (by show 2 * 0 + _ ≤ _; exact Nat.le_of_eq rfl) (hb hby d10_25) (fun _ _ => ⟨rfl, e671, (by decide : 0 + 0 ≤ _), (by decide : 0 + 0 ≤ _)⟩)
    dsimp only [Pt.U, Pt.locs, Pt.cells, Pt.slots] at X672 l672 y672 z672 st672 hQ672
    subst l672 y672 z672
    obtain ⟨rfl, N672q, e672⟩ := hQ672
    have N672 := Fr.app N671 N672q
    obtain ⟨_, _, ⟨T673, L673, k673, n673⟩, -, X673, ⟨Lc673, hQ673, l673, y673, z673⟩, st673⟩ := Jvm.LawKit.callS X672 hx (y := (⟨"com/example/tenpoint/tenpoint/AsciiCase", "fold", "(C)C"⟩ : MethodName)) hown (mvT hZ (hw _ (List.mem_of_getElem? (i := 106) rfl))) (mvT hZ (hw _ (List.mem_of_getElem? (i := 107) rfl))) (mvT hZ (hw _ (List.mem_of_getElem? (i := 45) rfl))) (mvT hZ (hw _ (List.mem_of_getElem? (i := 108) rfl))) (by decide) (backOf (W := 0) (rm26 l Z ag hw [] (us.getD ((0 : Int32)).toNatClampNeg 0)  h0 n0 Z0 ) hZ (hw _ (List.mem_of_getElem? (i := 108) rfl)) (hw _ (List.mem_of_getElem? (i := 45) rfl)) (by decide) (by decide)) (g := (mkF m 28 #[.val (.ref a0), .val (.ref a1), .val (.int 0)] [(.int (us.getD ((0 : Int32)).toNatClampNeg 0))])) rfl (by rw [hml]; rfl) (argsL := [(.int (us.getD ((0 : Int32)).toNatClampNeg 0))]) (rest := []) (lenOf pd_4 rfl) rfl (by show 2 * 0 + _ ≤ _; exact Nat.le_of_eq rfl) (hb hby d10_28) (fun _ _ => ⟨rfl, e672, (by decide : 0 + 0 ≤ _), (by decide : 0 + 0 ≤ _)⟩)
    dsimp only [Pt.U, Pt.locs, Pt.cells, Pt.slots] at X673 l673 y673 z673 st673 hQ673
    subst l673 y673 z673
    obtain ⟨rfl, N673q, e673⟩ := hQ673
    have N673 := Fr.app N672 N673q
    have cp674 : ∀ target, own_S p e below T673 (mkF m 33 #[.val (.ref a0), .val (.ref a1), .val (.int 0)] [.int 0, (.ref a1), (.int (own_fold (us.getD ((0 : Int32)).toNatClampNeg 0)))]) target → own_S p e below s₁ (mkF m 0 #[.val (.ref a0), .val (.ref a1), .unset] []) target := by
      intro target kt
      show own_S p e below s₁ (mkF m 0 #[.val (.ref a0), .val (.ref a1), .unset] []) _
      refine cp670 _ ?_
      show own_S p e below T668 (mkF m 8 #[.val (.ref a0), .val (.ref a1), .unset] [.int 3, (.int (Int32.ofNat us.length))]) _
      refine XS.icmpYes X668.here hx rfl (pc0 := 8) (pc' := 13) rfl (hb hby d10_8) rfl (flt hc669).2.1 (by decide) (by decide) ?_
      show own_S p e below T668 (mkF m 13 #[.val (.ref a0), .val (.ref a1), .unset] []) _
      refine XS.iconst X668.here hx rfl (hb hby d10_13) ?_
      show own_S p e below T668 (mkF m 14 #[.val (.ref a0), .val (.ref a1), .unset] [.int 0]) _
      refine XS.istoreN X668.here hx rfl (hb hby d10_14) rfl (l' := #[.val (.ref a0), .val (.ref a1), .val (.int 0)]) rfl ?_
      show own_S p e below T668 (mkF m 15 #[.val (.ref a0), .val (.ref a1), .val (.int 0)] []) _
      refine XS.iloadN X668.here hx rfl (hb hby d10_15) rfl ?_
      show own_S p e below T668 (mkF m 16 #[.val (.ref a0), .val (.ref a1), .val (.int 0)] [.int 0]) _
      refine XS.aloadN X668.here hx rfl (hb hby d10_16) rfl rfl ?_
      show own_S p e below T668 (mkF m 17 #[.val (.ref a0), .val (.ref a1), .val (.int 0)] [(.ref a1), .int 0]) _
      refine st671.trans ?_
      show own_S p e below T671 (mkF m 20 #[.val (.ref a0), .val (.ref a1), .val (.int 0)] [.int 3, .int 0]) _
      refine XS.icmpNo X671.here hx rfl (hb hby d10_20) rfl (tlt (by decide : (0 : Int32) < (3 : Int32))).2.1 ?_
      show own_S p e below T671 (mkF m 23 #[.val (.ref a0), .val (.ref a1), .val (.int 0)] []) _
      refine XS.aloadN X671.here hx rfl (hb hby d10_23) rfl rfl ?_
      show own_S p e below T671 (mkF m 24 #[.val (.ref a0), .val (.ref a1), .val (.int 0)] [(.ref a0)]) _
      refine XS.iloadN X671.here hx rfl (hb hby d10_24) rfl ?_
      show own_S p e below T671 (mkF m 25 #[.val (.ref a0), .val (.ref a1), .val (.int 0)] [.int 0, (.ref a0)]) _
      refine st672.trans ?_
      show own_S p e below T672 (mkF m 28 #[.val (.ref a0), .val (.ref a1), .val (.int 0)] [(.int (us.getD ((0 : Int32)).toNatClampNeg 0))]) _
      refine st673 _ ?_
      show own_S p e below T673 (mkF m 31 #[.val (.ref a0), .val (.ref a1), .val (.int 0)] [(.int (own_fold (us.getD ((0 : Int32)).toNatClampNeg 0)))]) _
      refine XS.aloadN X673.here hx rfl (hb hby d10_31) rfl rfl ?_
      show own_S p e below T673 (mkF m 32 #[.val (.ref a0), .val (.ref a1), .val (.int 0)] [(.ref a1), (.int (own_fold (us.getD ((0 : Int32)).toNatClampNeg 0)))]) _
      refine XS.iloadN X673.here hx rfl (hb hby d10_32) rfl ?_
      exact kt
    obtain ⟨cq675, kq675, q675a, q675b, q675c⟩ := isOf hZ e673 L_.1
    obtain ⟨_, _, ⟨T675, L675, k675, n675⟩, -, X675, ⟨Lc675, hQ675, l675, y675, z675⟩, st675⟩ := X673.virtualBack hx (y := (⟨"java/lang/String", "charAt", "(I)C"⟩ : MethodName)) (z := (⟨"java/lang/String", "charAt", "(I)C"⟩ : MethodName)) hown (mvT hZ (hw _ (List.mem_of_getElem? (i := 79) rfl))) (mvT hZ (hw _ (List.mem_of_getElem? (i := 80) rfl))) (notFace_of_selects (args := #[]) (mvT hZ (hw _ (List.mem_of_getElem? (i := 82) rfl)))) (mvT hZ (hw _ (List.mem_of_getElem? (i := 82) rfl))) (mvT hZ (hw _ (List.mem_of_getElem? (i := 81) rfl))) (by decide) (backOf (W := 1) (rm19 l Z ag hw [] a1 (0 : Int32) [d0, d1, d2] cs gf h0 n0 Z0 L_ (by decide) (Nat.le_of_ble_eq_true rfl) O_ S_cs hcs S_gf rv_gf S_ad S_hi S_lo) hZ (hw _ (List.mem_of_getElem? (i := 83) rfl)) (hw _ (List.mem_of_getElem? (i := 12) rfl)) (by decide) (by decide)) q675a q675c (g := (mkF m 33 #[.val (.ref a0), .val (.ref a1), .val (.int 0)] [.int 0, (.ref a1), (.int (own_fold (us.getD ((0 : Int32)).toNatClampNeg 0)))])) rfl (by rw [hml]; rfl) (Steps.refl _) (argsL := [(.int (0 : Int32))]) (rest := [(.int (own_fold (us.getD ((0 : Int32)).toNatClampNeg 0)))]) (lenOf pd_7 rfl) rfl (by show 2 * 0 + _ ≤ _; exact Nat.le_of_eq rfl) (hb hby d10_33) (fun _ _ => ⟨rfl, e673, (by decide : 0 + 0 ≤ _), (by decide : 0 + 0 ≤ _)⟩)
    dsimp only [Pt.U, Pt.locs, Pt.cells, Pt.slots] at X675 l675 y675 z675 st675 hQ675
    subst l675 y675 z675
    obtain ⟨rfl, N675q, e675⟩ := hQ675
    have N675 := Fr.app N673 N675q
    by_cases hc676 : (own_fold (us.getD ((0 : Int32)).toNatClampNeg 0)) = d0
    · obtain ⟨cq677, kq677, q677a, q677b, q677c⟩ := isOf hZ e675 L_.1
      obtain ⟨_, _, ⟨T677, L677, k677, n677⟩, -, X677, ⟨Lc677, hQ677, l677, y677, z677⟩, st677⟩ := X675.virtualBack hx (y := (⟨"java/lang/String", "length", "()I"⟩ : MethodName)) (z := (⟨"java/lang/String", "length", "()I"⟩ : MethodName)) hown (mvT hZ (hw _ (List.mem_of_getElem? (i := 47) rfl))) (mvT hZ (hw _ (List.mem_of_getElem? (i := 48) rfl))) (notFace_of_selects (args := #[]) (mvT hZ (hw _ (List.mem_of_getElem? (i := 50) rfl)))) (mvT hZ (hw _ (List.mem_of_getElem? (i := 50) rfl))) (mvT hZ (hw _ (List.mem_of_getElem? (i := 49) rfl))) (by decide) (backOf (W := 1) (rm11 l Z ag hw [] a1 [d0, d1, d2] cs h0 n0 Z0 L_ O_ S_cs hcs) hZ (hw _ (List.mem_of_getElem? (i := 51) rfl)) (hw _ (List.mem_of_getElem? (i := 12) rfl)) (by decide) (by decide)) q677a q677c (g := (mkF m 17 #[.val (.ref a0), .val (.ref a1), .val (.int 1)] [(.ref a1), .int 1])) rfl (by rw [hml]; rfl) (Steps.refl _) (argsL := []) (rest := [(.int (1 : Int32))]) (lenOf pd_1 rfl) rfl (by show 2 * 0 + _ ≤ _; exact Nat.le_of_eq rfl) (hb hby d10_17) (fun _ _ => ⟨rfl, e675, (by decide : 0 + 0 ≤ _), (by decide : 0 + 0 ≤ _)⟩)
      dsimp only [Pt.U, Pt.locs, Pt.cells, Pt.slots] at X677 l677 y677 z677 st677 hQ677
      subst l677 y677 z677
      obtain ⟨rfl, N677q, e677⟩ := hQ677
      have N677 := Fr.app N675 N677q
      obtain ⟨cq678, kq678, q678a, q678b, q678c⟩ := isOf hZ e677 T_.1
      obtain ⟨_, _, ⟨T678, L678, k678, n678⟩, -, X678, ⟨Lc678, hQ678, l678, y678, z678⟩, st678⟩ := X677.virtualBack hx (y := (⟨"java/lang/String", "charAt", "(I)C"⟩ : MethodName)) (z := (⟨"java/lang/String", "charAt", "(I)C"⟩ : MethodName)) hown (mvT hZ (hw _ (List.mem_of_getElem? (i := 79) rfl))) (mvT hZ (hw _ (List.mem_of_getElem? (i := 80) rfl))) (notFace_of_selects (args := #[]) (mvT hZ (hw _ (List.mem_of_getElem? (i := 82) rfl)))) (mvT hZ (hw _ (List.mem_of_getElem? (i := 82) rfl))) (mvT hZ (hw _ (List.mem_of_getElem? (i := 81) rfl))) (by decide) (backOf (W := 0) (rm19 l Z ag hw [] a0 (1 : Int32) us cs gf h0 n0 Z0 T_ (by decide) (own_us_ix3 us hus hc669 (by decide)) O_ S_cs hcs S_gf rv_gf S_ad S_hi S_lo) hZ (hw _ (List.mem_of_getElem? (i := 83) rfl)) (hw _ (List.mem_of_getElem? (i := 12) rfl)) (by decide) (by decide)) q678a q678c (g := (mkF m 25 #[.val (.ref a0), .val (.ref a1), .val (.int 1)] [.int 1, (.ref a0)])) rfl (by rw [hml]; rfl) (Steps.refl _) (argsL := [(.int (1 : Int32))]) (rest := []) (lenOf pd_7 rfl) rfl (by show 2 * 0 + _ ≤ _; exact Nat.le_of_eq rfl) (hb hby d10_25) (fun _ _ => ⟨rfl, e677, (by decide : 0 + 0 ≤ _), (by decide : 0 + 0 ≤ _)⟩)
      dsimp only [Pt.U, Pt.locs, Pt.cells, Pt.slots] at X678 l678 y678 z678 st678 hQ678
      subst l678 y678 z678
      obtain ⟨rfl, N678q, e678⟩ := hQ678
      have N678 := Fr.app N677 N678q
      obtain ⟨_, _, ⟨T679, L679, k679, n679⟩, -, X679, ⟨Lc679, hQ679, l679, y679, z679⟩, st679⟩ := Jvm.LawKit.callS X678 hx (y := (⟨"com/example/tenpoint/tenpoint/AsciiCase", "fold", "(C)C"⟩ : MethodName)) hown (mvT hZ (hw _ (List.mem_of_getElem? (i := 106) rfl))) (mvT hZ (hw _ (List.mem_of_getElem? (i := 107) rfl))) (mvT hZ (hw _ (List.mem_of_getElem? (i := 45) rfl))) (mvT hZ (hw _ (List.mem_of_getElem? (i := 108) rfl))) (by decide) (backOf (W := 0) (rm26 l Z ag hw [] (us.getD ((1 : Int32)).toNatClampNeg 0)  h0 n0 Z0 ) hZ (hw _ (List.mem_of_getElem? (i := 108) rfl)) (hw _ (List.mem_of_getElem? (i := 45) rfl)) (by decide) (by decide)) (g := (mkF m 28 #[.val (.ref a0), .val (.ref a1), .val (.int 1)] [(.int (us.getD ((1 : Int32)).toNatClampNeg 0))])) rfl (by rw [hml]; rfl) (argsL := [(.int (us.getD ((1 : Int32)).toNatClampNeg 0))]) (rest := []) (lenOf pd_4 rfl) rfl (by show 2 * 0 + _ ≤ _; exact Nat.le_of_eq rfl) (hb hby d10_28) (fun _ _ => ⟨rfl, e678, (by decide : 0 + 0 ≤ _), (by decide : 0 + 0 ≤ _)⟩)
      dsimp only [Pt.U, Pt.locs, Pt.cells, Pt.slots] at X679 l679 y679 z679 st679 hQ679
      subst l679 y679 z679
      obtain ⟨rfl, N679q, e679⟩ := hQ679
      have N679 := Fr.app N678 N679q
      have cp680 : ∀ target, own_S p e below T679 (mkF m 33 #[.val (.ref a0), .val (.ref a1), .val (.int 1)] [.int 1, (.ref a1), (.int (own_fold (us.getD ((1 : Int32)).toNatClampNeg 0)))]) target → own_S p e below s₁ (mkF m 0 #[.val (.ref a0), .val (.ref a1), .unset] []) target := by
        intro target kt
        show own_S p e below s₁ (mkF m 0 #[.val (.ref a0), .val (.ref a1), .unset] []) _
        refine cp674 _ ?_
        show own_S p e below T673 (mkF m 33 #[.val (.ref a0), .val (.ref a1), .val (.int 0)] [.int 0, (.ref a1), (.int (own_fold (us.getD ((0 : Int32)).toNatClampNeg 0)))]) _
        refine st675.trans ?_
        show own_S p e below T675 (mkF m 36 #[.val (.ref a0), .val (.ref a1), .val (.int 0)] [(.int d0), (.int (own_fold (us.getD ((0 : Int32)).toNatClampNeg 0)))]) _
        refine XS.icmpYes X675.here hx rfl (pc0 := 36) (pc' := 41) rfl (hb hby d10_36) rfl (teq hc676).1 (by decide) (by decide) ?_
        show own_S p e below T675 (mkF m 41 #[.val (.ref a0), .val (.ref a1), .val (.int 0)] []) _
        refine XS.iinc X675.here hx rfl (hb hby d10_41) rfl (l' := #[.val (.ref a0), .val (.ref a1), .val (.int 1)]) rfl ?_
        show own_S p e below T675 (mkF m 44 #[.val (.ref a0), .val (.ref a1), .val (.int 1)] []) _
        refine XS.goto X675.here hx rfl (pc0 := 44) (pc' := 15) rfl (hb hby d10_44) (by decide) (by decide) ?_
        show own_S p e below T675 (mkF m 15 #[.val (.ref a0), .val (.ref a1), .val (.int 1)] []) _
        refine XS.iloadN X675.here hx rfl (hb hby d10_15) rfl ?_
        show own_S p e below T675 (mkF m 16 #[.val (.ref a0), .val (.ref a1), .val (.int 1)] [.int 1]) _
        refine XS.aloadN X675.here hx rfl (hb hby d10_16) rfl rfl ?_
        show own_S p e below T675 (mkF m 17 #[.val (.ref a0), .val (.ref a1), .val (.int 1)] [(.ref a1), .int 1]) _
        refine st677.trans ?_
        show own_S p e below T677 (mkF m 20 #[.val (.ref a0), .val (.ref a1), .val (.int 1)] [.int 3, .int 1]) _
        refine XS.icmpNo X677.here hx rfl (hb hby d10_20) rfl (tlt (by decide : (1 : Int32) < (3 : Int32))).2.1 ?_
        show own_S p e below T677 (mkF m 23 #[.val (.ref a0), .val (.ref a1), .val (.int 1)] []) _
        refine XS.aloadN X677.here hx rfl (hb hby d10_23) rfl rfl ?_
        show own_S p e below T677 (mkF m 24 #[.val (.ref a0), .val (.ref a1), .val (.int 1)] [(.ref a0)]) _
        refine XS.iloadN X677.here hx rfl (hb hby d10_24) rfl ?_
        show own_S p e below T677 (mkF m 25 #[.val (.ref a0), .val (.ref a1), .val (.int 1)] [.int 1, (.ref a0)]) _
        refine st678.trans ?_
        show own_S p e below T678 (mkF m 28 #[.val (.ref a0), .val (.ref a1), .val (.int 1)] [(.int (us.getD ((1 : Int32)).toNatClampNeg 0))]) _
        refine st679 _ ?_
        show own_S p e below T679 (mkF m 31 #[.val (.ref a0), .val (.ref a1), .val (.int 1)] [(.int (own_fold (us.getD ((1 : Int32)).toNatClampNeg 0)))]) _
        refine XS.aloadN X679.here hx rfl (hb hby d10_31) rfl rfl ?_
        show own_S p e below T679 (mkF m 32 #[.val (.ref a0), .val (.ref a1), .val (.int 1)] [(.ref a1), (.int (own_fold (us.getD ((1 : Int32)).toNatClampNeg 0)))]) _
        refine XS.iloadN X679.here hx rfl (hb hby d10_32) rfl ?_
        exact kt
      obtain ⟨cq681, kq681, q681a, q681b, q681c⟩ := isOf hZ e679 L_.1
      obtain ⟨_, _, ⟨T681, L681, k681, n681⟩, -, X681, ⟨Lc681, hQ681, l681, y681, z681⟩, st681⟩ := X679.virtualBack hx (y := (⟨"java/lang/String", "charAt", "(I)C"⟩ : MethodName)) (z := (⟨"java/lang/String", "charAt", "(I)C"⟩ : MethodName)) hown (mvT hZ (hw _ (List.mem_of_getElem? (i := 79) rfl))) (mvT hZ (hw _ (List.mem_of_getElem? (i := 80) rfl))) (notFace_of_selects (args := #[]) (mvT hZ (hw _ (List.mem_of_getElem? (i := 82) rfl)))) (mvT hZ (hw _ (List.mem_of_getElem? (i := 82) rfl))) (mvT hZ (hw _ (List.mem_of_getElem? (i := 81) rfl))) (by decide) (backOf (W := 1) (rm19 l Z ag hw [] a1 (1 : Int32) [d0, d1, d2] cs gf h0 n0 Z0 L_ (by decide) (Nat.le_of_ble_eq_true rfl) O_ S_cs hcs S_gf rv_gf S_ad S_hi S_lo) hZ (hw _ (List.mem_of_getElem? (i := 83) rfl)) (hw _ (List.mem_of_getElem? (i := 12) rfl)) (by decide) (by decide)) q681a q681c (g := (mkF m 33 #[.val (.ref a0), .val (.ref a1), .val (.int 1)] [.int 1, (.ref a1), (.int (own_fold (us.getD ((1 : Int32)).toNatClampNeg 0)))])) rfl (by rw [hml]; rfl) (Steps.refl _) (argsL := [(.int (1 : Int32))]) (rest := [(.int (own_fold (us.getD ((1 : Int32)).toNatClampNeg 0)))]) (lenOf pd_7 rfl) rfl (by show 2 * 0 + _ ≤ _; exact Nat.le_of_eq rfl) (hb hby d10_33) (fun _ _ => ⟨rfl, e679, (by decide : 0 + 0 ≤ _), (by decide : 0 + 0 ≤ _)⟩)
      dsimp only [Pt.U, Pt.locs, Pt.cells, Pt.slots] at X681 l681 y681 z681 st681 hQ681
      subst l681 y681 z681
      obtain ⟨rfl, N681q, e681⟩ := hQ681
      have N681 := Fr.app N679 N681q
      by_cases hc682 : (own_fold (us.getD ((1 : Int32)).toNatClampNeg 0)) = d1
      · obtain ⟨cq683, kq683, q683a, q683b, q683c⟩ := isOf hZ e681 L_.1
        obtain ⟨_, _, ⟨T683, L683, k683, n683⟩, -, X683, ⟨Lc683, hQ683, l683, y683, z683⟩, st683⟩ := X681.virtualBack hx (y := (⟨"java/lang/String", "length", "()I"⟩ : MethodName)) (z := (⟨"java/lang/String", "length", "()I"⟩ : MethodName)) hown (mvT hZ (hw _ (List.mem_of_getElem? (i := 47) rfl))) (mvT hZ (hw _ (List.mem_of_getElem? (i := 48) rfl))) (notFace_of_selects (args := #[]) (mvT hZ (hw _ (List.mem_of_getElem? (i := 50) rfl)))) (mvT hZ (hw _ (List.mem_of_getElem? (i := 50) rfl))) (mvT hZ (hw _ (List.mem_of_getElem? (i := 49) rfl))) (by decide) (backOf (W := 1) (rm11 l Z ag hw [] a1 [d0, d1, d2] cs h0 n0 Z0 L_ O_ S_cs hcs) hZ (hw _ (List.mem_of_getElem? (i := 51) rfl)) (hw _ (List.mem_of_getElem? (i := 12) rfl)) (by decide) (by decide)) q683a q683c (g := (mkF m 17 #[.val (.ref a0), .val (.ref a1), .val (.int 2)] [(.ref a1), .int 2])) rfl (by rw [hml]; rfl) (Steps.refl _) (argsL := []) (rest := [(.int (2 : Int32))]) (lenOf pd_1 rfl) rfl (by show 2 * 0 + _ ≤ _; exact Nat.le_of_eq rfl) (hb hby d10_17) (fun _ _ => ⟨rfl, e681, (by decide : 0 + 0 ≤ _), (by decide : 0 + 0 ≤ _)⟩)
        dsimp only [Pt.U, Pt.locs, Pt.cells, Pt.slots] at X683 l683 y683 z683 st683 hQ683
        subst l683 y683 z683
        obtain ⟨rfl, N683q, e683⟩ := hQ683
        have N683 := Fr.app N681 N683q
        obtain ⟨cq684, kq684, q684a, q684b, q684c⟩ := isOf hZ e683 T_.1
        obtain ⟨_, _, ⟨T684, L684, k684, n684⟩, -, X684, ⟨Lc684, hQ684, l684, y684, z684⟩, st684⟩ := X683.virtualBack hx (y := (⟨"java/lang/String", "charAt", "(I)C"⟩ : MethodName)) (z := (⟨"java/lang/String", "charAt", "(I)C"⟩ : MethodName)) hown (mvT hZ (hw _ (List.mem_of_getElem? (i := 79) rfl))) (mvT hZ (hw _ (List.mem_of_getElem? (i := 80) rfl))) (notFace_of_selects (args := #[]) (mvT hZ (hw _ (List.mem_of_getElem? (i := 82) rfl)))) (mvT hZ (hw _ (List.mem_of_getElem? (i := 82) rfl))) (mvT hZ (hw _ (List.mem_of_getElem? (i := 81) rfl))) (by decide) (backOf (W := 0) (rm19 l Z ag hw [] a0 (2 : Int32) us cs gf h0 n0 Z0 T_ (by decide) (own_us_ix3 us hus hc669 (by decide)) O_ S_cs hcs S_gf rv_gf S_ad S_hi S_lo) hZ (hw _ (List.mem_of_getElem? (i := 83) rfl)) (hw _ (List.mem_of_getElem? (i := 12) rfl)) (by decide) (by decide)) q684a q684c (g := (mkF m 25 #[.val (.ref a0), .val (.ref a1), .val (.int 2)] [.int 2, (.ref a0)])) rfl (by rw [hml]; rfl) (Steps.refl _) (argsL := [(.int (2 : Int32))]) (rest := []) (lenOf pd_7 rfl) rfl (by show 2 * 0 + _ ≤ _; exact Nat.le_of_eq rfl) (hb hby d10_25) (fun _ _ => ⟨rfl, e683, (by decide : 0 + 0 ≤ _), (by decide : 0 + 0 ≤ _)⟩)
        dsimp only [Pt.U, Pt.locs, Pt.cells, Pt.slots] at X684 l684 y684 z684 st684 hQ684
        subst l684 y684 z684
        obtain ⟨rfl, N684q, e684⟩ := hQ684
        have N684 := Fr.app N683 N684q
        obtain ⟨_, _, ⟨T685, L685, k685, n685⟩, -, X685, ⟨Lc685, hQ685, l685, y685, z685⟩, st685⟩ := Jvm.LawKit.callS X684 hx (y := (⟨"com/example/tenpoint/tenpoint/AsciiCase", "fold", "(C)C"⟩ : MethodName)) hown (mvT hZ (hw _ (List.mem_of_getElem? (i := 106) rfl))) (mvT hZ (hw _ (List.mem_of_getElem? (i := 107) rfl))) (mvT hZ (hw _ (List.mem_of_getElem? (i := 45) rfl))) (mvT hZ (hw _ (List.mem_of_getElem? (i := 108) rfl))) (by decide) (backOf (W := 0) (rm26 l Z ag hw [] (us.getD ((2 : Int32)).toNatClampNeg 0)  h0 n0 Z0 ) hZ (hw _ (List.mem_of_getElem? (i := 108) rfl)) (hw _ (List.mem_of_getElem? (i := 45) rfl)) (by decide) (by decide)) (g := (mkF m 28 #[.val (.ref a0), .val (.ref a1), .val (.int 2)] [(.int (us.getD ((2 : Int32)).toNatClampNeg 0))])) rfl (by rw [hml]; rfl) (argsL := [(.int (us.getD ((2 : Int32)).toNatClampNeg 0))]) (rest := []) (lenOf pd_4 rfl) rfl (by show 2 * 0 + _ ≤ _; exact Nat.le_of_eq rfl) (hb hby d10_28) (fun _ _ => ⟨rfl, e684, (by decide : 0 + 0 ≤ _), (by decide : 0 + 0 ≤ _)⟩)
        dsimp only [Pt.U, Pt.locs, Pt.cells, Pt.slots] at X685 l685 y685 z685 st685 hQ685
        subst l685 y685 z685
        obtain ⟨rfl, N685q, e685⟩ := hQ685
        have N685 := Fr.app N684 N685q
        have cp686 : ∀ target, own_S p e below T685 (mkF m 33 #[.val (.ref a0), .val (.ref a1), .val (.int 2)] [.int 2, (.ref a1), (.int (own_fold (us.getD ((2 : Int32)).toNatClampNeg 0)))]) target → own_S p e below s₁ (mkF m 0 #[.val (.ref a0), .val (.ref a1), .unset] []) target := by
          intro target kt
          show own_S p e below s₁ (mkF m 0 #[.val (.ref a0), .val (.ref a1), .unset] []) _
          refine cp680 _ ?_
          show own_S p e below T679 (mkF m 33 #[.val (.ref a0), .val (.ref a1), .val (.int 1)] [.int 1, (.ref a1), (.int (own_fold (us.getD ((1 : Int32)).toNatClampNeg 0)))]) _
          refine st681.trans ?_
          show own_S p e below T681 (mkF m 36 #[.val (.ref a0), .val (.ref a1), .val (.int 1)] [(.int d1), (.int (own_fold (us.getD ((1 : Int32)).toNatClampNeg 0)))]) _
          refine XS.icmpYes X681.here hx rfl (pc0 := 36) (pc' := 41) rfl (hb hby d10_36) rfl (teq hc682).1 (by decide) (by decide) ?_
          show own_S p e below T681 (mkF m 41 #[.val (.ref a0), .val (.ref a1), .val (.int 1)] []) _
          refine XS.iinc X681.here hx rfl (hb hby d10_41) rfl (l' := #[.val (.ref a0), .val (.ref a1), .val (.int 2)]) rfl ?_
          show own_S p e below T681 (mkF m 44 #[.val (.ref a0), .val (.ref a1), .val (.int 2)] []) _
          refine XS.goto X681.here hx rfl (pc0 := 44) (pc' := 15) rfl (hb hby d10_44) (by decide) (by decide) ?_
          show own_S p e below T681 (mkF m 15 #[.val (.ref a0), .val (.ref a1), .val (.int 2)] []) _
          refine XS.iloadN X681.here hx rfl (hb hby d10_15) rfl ?_
          show own_S p e below T681 (mkF m 16 #[.val (.ref a0), .val (.ref a1), .val (.int 2)] [.int 2]) _
          refine XS.aloadN X681.here hx rfl (hb hby d10_16) rfl rfl ?_
          show own_S p e below T681 (mkF m 17 #[.val (.ref a0), .val (.ref a1), .val (.int 2)] [(.ref a1), .int 2]) _
          refine st683.trans ?_
          show own_S p e below T683 (mkF m 20 #[.val (.ref a0), .val (.ref a1), .val (.int 2)] [.int 3, .int 2]) _
          refine XS.icmpNo X683.here hx rfl (hb hby d10_20) rfl (tlt (by decide : (2 : Int32) < (3 : Int32))).2.1 ?_
          show own_S p e below T683 (mkF m 23 #[.val (.ref a0), .val (.ref a1), .val (.int 2)] []) _
          refine XS.aloadN X683.here hx rfl (hb hby d10_23) rfl rfl ?_
          show own_S p e below T683 (mkF m 24 #[.val (.ref a0), .val (.ref a1), .val (.int 2)] [(.ref a0)]) _
          refine XS.iloadN X683.here hx rfl (hb hby d10_24) rfl ?_
          show own_S p e below T683 (mkF m 25 #[.val (.ref a0), .val (.ref a1), .val (.int 2)] [.int 2, (.ref a0)]) _
          refine st684.trans ?_
          show own_S p e below T684 (mkF m 28 #[.val (.ref a0), .val (.ref a1), .val (.int 2)] [(.int (us.getD ((2 : Int32)).toNatClampNeg 0))]) _
          refine st685 _ ?_
          show own_S p e below T685 (mkF m 31 #[.val (.ref a0), .val (.ref a1), .val (.int 2)] [(.int (own_fold (us.getD ((2 : Int32)).toNatClampNeg 0)))]) _
          refine XS.aloadN X685.here hx rfl (hb hby d10_31) rfl rfl ?_
          show own_S p e below T685 (mkF m 32 #[.val (.ref a0), .val (.ref a1), .val (.int 2)] [(.ref a1), (.int (own_fold (us.getD ((2 : Int32)).toNatClampNeg 0)))]) _
          refine XS.iloadN X685.here hx rfl (hb hby d10_32) rfl ?_
          exact kt
        obtain ⟨cq687, kq687, q687a, q687b, q687c⟩ := isOf hZ e685 L_.1
        obtain ⟨_, _, ⟨T687, L687, k687, n687⟩, -, X687, ⟨Lc687, hQ687, l687, y687, z687⟩, st687⟩ := X685.virtualBack hx (y := (⟨"java/lang/String", "charAt", "(I)C"⟩ : MethodName)) (z := (⟨"java/lang/String", "charAt", "(I)C"⟩ : MethodName)) hown (mvT hZ (hw _ (List.mem_of_getElem? (i := 79) rfl))) (mvT hZ (hw _ (List.mem_of_getElem? (i := 80) rfl))) (notFace_of_selects (args := #[]) (mvT hZ (hw _ (List.mem_of_getElem? (i := 82) rfl)))) (mvT hZ (hw _ (List.mem_of_getElem? (i := 82) rfl))) (mvT hZ (hw _ (List.mem_of_getElem? (i := 81) rfl))) (by decide) (backOf (W := 1) (rm19 l Z ag hw [] a1 (2 : Int32) [d0, d1, d2] cs gf h0 n0 Z0 L_ (by decide) (Nat.le_of_ble_eq_true rfl) O_ S_cs hcs S_gf rv_gf S_ad S_hi S_lo) hZ (hw _ (List.mem_of_getElem? (i := 83) rfl)) (hw _ (List.mem_of_getElem? (i := 12) rfl)) (by decide) (by decide)) q687a q687c (g := (mkF m 33 #[.val (.ref a0), .val (.ref a1), .val (.int 2)] [.int 2, (.ref a1), (.int (own_fold (us.getD ((2 : Int32)).toNatClampNeg 0)))])) rfl (by rw [hml]; rfl) (Steps.refl _) (argsL := [(.int (2 : Int32))]) (rest := [(.int (own_fold (us.getD ((2 : Int32)).toNatClampNeg 0)))]) (lenOf pd_7 rfl) rfl (by show 2 * 0 + _ ≤ _; exact Nat.le_of_eq rfl) (hb hby d10_33) (fun _ _ => ⟨rfl, e685, (by decide : 0 + 0 ≤ _), (by decide : 0 + 0 ≤ _)⟩)
        dsimp only [Pt.U, Pt.locs, Pt.cells, Pt.slots] at X687 l687 y687 z687 st687 hQ687
        subst l687 y687 z687
        obtain ⟨rfl, N687q, e687⟩ := hQ687
        have N687 := Fr.app N685 N687q
        by_cases hc688 : (own_fold (us.getD ((2 : Int32)).toNatClampNeg 0)) = d2
        · obtain ⟨cq689, kq689, q689a, q689b, q689c⟩ := isOf hZ e687 L_.1
          obtain ⟨_, _, ⟨T689, L689, k689, n689⟩, -, X689, ⟨Lc689, hQ689, l689, y689, z689⟩, st689⟩ := X687.virtualBack hx (y := (⟨"java/lang/String", "length", "()I"⟩ : MethodName)) (z := (⟨"java/lang/String", "length", "()I"⟩ : MethodName)) hown (mvT hZ (hw _ (List.mem_of_getElem? (i := 47) rfl))) (mvT hZ (hw _ (List.mem_of_getElem? (i := 48) rfl))) (notFace_of_selects (args := #[]) (mvT hZ (hw _ (List.mem_of_getElem? (i := 50) rfl)))) (mvT hZ (hw _ (List.mem_of_getElem? (i := 50) rfl))) (mvT hZ (hw _ (List.mem_of_getElem? (i := 49) rfl))) (by decide) (backOf (W := 1) (rm11 l Z ag hw [] a1 [d0, d1, d2] cs h0 n0 Z0 L_ O_ S_cs hcs) hZ (hw _ (List.mem_of_getElem? (i := 51) rfl)) (hw _ (List.mem_of_getElem? (i := 12) rfl)) (by decide) (by decide)) q689a q689c (g := (mkF m 17 #[.val (.ref a0), .val (.ref a1), .val (.int 3)] [(.ref a1), .int 3])) rfl (by rw [hml]; rfl) (Steps.refl _) (argsL := []) (rest := [(.int (3 : Int32))]) (lenOf pd_1 rfl) rfl (by show 2 * 0 + _ ≤ _; exact Nat.le_of_eq rfl) (hb hby d10_17) (fun _ _ => ⟨rfl, e687, (by decide : 0 + 0 ≤ _), (by decide : 0 + 0 ≤ _)⟩)
          dsimp only [Pt.U, Pt.locs, Pt.cells, Pt.slots] at X689 l689 y689 z689 st689 hQ689
          subst l689 y689 z689
          obtain ⟨rfl, N689q, e689⟩ := hQ689
          have N689 := Fr.app N687 N689q
          obtain ⟨fs, hr, hrun, hended, hW, hsame⟩ := X689.leave (v := some (.int (1 : Int32))) (fun h => by rw [Bd.returns] at h; cases h)
          refine ⟨_, _, pre0 _ ?_, hrun, hended, _, _, rfl, ?_, ⟨_, rfl⟩, hW, hsame.mono (by decide) (by decide)⟩
          · show own_S p e below s₁ (mkF m 0 #[.val (.ref a0), .val (.ref a1), .unset] []) _
            refine cp686 _ ?_
            show own_S p e below T685 (mkF m 33 #[.val (.ref a0), .val (.ref a1), .val (.int 2)] [.int 2, (.ref a1), (.int (own_fold (us.getD ((2 : Int32)).toNatClampNeg 0)))]) _
            refine st687.trans ?_
            show own_S p e below T687 (mkF m 36 #[.val (.ref a0), .val (.ref a1), .val (.int 2)] [(.int d2), (.int (own_fold (us.getD ((2 : Int32)).toNatClampNeg 0)))]) _
            refine XS.icmpYes X687.here hx rfl (pc0 := 36) (pc' := 41) rfl (hb hby d10_36) rfl (teq hc688).1 (by decide) (by decide) ?_
            show own_S p e below T687 (mkF m 41 #[.val (.ref a0), .val (.ref a1), .val (.int 2)] []) _
            refine XS.iinc X687.here hx rfl (hb hby d10_41) rfl (l' := #[.val (.ref a0), .val (.ref a1), .val (.int 3)]) rfl ?_
            show own_S p e below T687 (mkF m 44 #[.val (.ref a0), .val (.ref a1), .val (.int 3)] []) _
            refine XS.goto X687.here hx rfl (pc0 := 44) (pc' := 15) rfl (hb hby d10_44) (by decide) (by decide) ?_
            show own_S p e below T687 (mkF m 15 #[.val (.ref a0), .val (.ref a1), .val (.int 3)] []) _
            refine XS.iloadN X687.here hx rfl (hb hby d10_15) rfl ?_
            show own_S p e below T687 (mkF m 16 #[.val (.ref a0), .val (.ref a1), .val (.int 3)] [.int 3]) _
            refine XS.aloadN X687.here hx rfl (hb hby d10_16) rfl rfl ?_
            show own_S p e below T687 (mkF m 17 #[.val (.ref a0), .val (.ref a1), .val (.int 3)] [(.ref a1), .int 3]) _
            refine st689.trans ?_
            show own_S p e below T689 (mkF m 20 #[.val (.ref a0), .val (.ref a1), .val (.int 3)] [.int 3, .int 3]) _
            refine XS.icmpYes X689.here hx rfl (pc0 := 20) (pc' := 47) rfl (hb hby d10_20) rfl (flt (by decide : ¬ ((3 : Int32) < (3 : Int32)))).2.1 (by decide) (by decide) ?_
            show own_S p e below T689 (mkF m 47 #[.val (.ref a0), .val (.ref a1), .val (.int 3)] []) _
            refine XS.iconst X689.here hx rfl (hb hby d10_47) ?_
            show own_S p e below T689 (mkF m 48 #[.val (.ref a0), .val (.ref a1), .val (.int 3)] [.int 1]) _
            exact retN X689 hx (t := .boolean) Bd.returns (by simp) (hb hby d10_48) hr
          · show Q10_3 Z a0 a1 us d0 d1 d2 cs gf h0 n0 _ T689.heap _
            rw [e689]
            exact ⟨congrArg (fun z => some (Value.int z)) (show _ = own_sw3 us d0 d1 d2 from by unfold own_sw3; rw [if_neg hc669, if_pos hc676, if_pos hc682, if_pos hc688]), N689, rfl⟩
        · obtain ⟨fs, hr, hrun, hended, hW, hsame⟩ := X687.leave (v := some (.int (0 : Int32))) (fun h => by rw [Bd.returns] at h; cases h)
          refine ⟨_, _, pre0 _ ?_, hrun, hended, _, _, rfl, ?_, ⟨_, rfl⟩, hW, hsame.mono (by decide) (by decide)⟩
          · show own_S p e below s₁ (mkF m 0 #[.val (.ref a0), .val (.ref a1), .unset] []) _
            refine cp686 _ ?_
            show own_S p e below T685 (mkF m 33 #[.val (.ref a0), .val (.ref a1), .val (.int 2)] [.int 2, (.ref a1), (.int (own_fold (us.getD ((2 : Int32)).toNatClampNeg 0)))]) _
            refine st687.trans ?_
            show own_S p e below T687 (mkF m 36 #[.val (.ref a0), .val (.ref a1), .val (.int 2)] [(.int d2), (.int (own_fold (us.getD ((2 : Int32)).toNatClampNeg 0)))]) _
            refine XS.icmpNo X687.here hx rfl (hb hby d10_36) rfl (feq hc688).1 ?_
            show own_S p e below T687 (mkF m 39 #[.val (.ref a0), .val (.ref a1), .val (.int 2)] []) _
            refine XS.iconst X687.here hx rfl (hb hby d10_39) ?_
            show own_S p e below T687 (mkF m 40 #[.val (.ref a0), .val (.ref a1), .val (.int 2)] [.int 0]) _
            exact retN X687 hx (t := .boolean) Bd.returns (by simp) (hb hby d10_40) hr
          · show Q10_3 Z a0 a1 us d0 d1 d2 cs gf h0 n0 _ T687.heap _
            rw [e687]
            exact ⟨congrArg (fun z => some (Value.int z)) (show _ = own_sw3 us d0 d1 d2 from by unfold own_sw3; rw [if_neg hc669, if_pos hc676, if_pos hc682, if_neg hc688]), N687, rfl⟩
      · obtain ⟨fs, hr, hrun, hended, hW, hsame⟩ := X681.leave (v := some (.int (0 : Int32))) (fun h => by rw [Bd.returns] at h; cases h)
        refine ⟨_, _, pre0 _ ?_, hrun, hended, _, _, rfl, ?_, ⟨_, rfl⟩, hW, hsame.mono (by decide) (by decide)⟩
        · show own_S p e below s₁ (mkF m 0 #[.val (.ref a0), .val (.ref a1), .unset] []) _
          refine cp680 _ ?_
          show own_S p e below T679 (mkF m 33 #[.val (.ref a0), .val (.ref a1), .val (.int 1)] [.int 1, (.ref a1), (.int (own_fold (us.getD ((1 : Int32)).toNatClampNeg 0)))]) _
          refine st681.trans ?_
          show own_S p e below T681 (mkF m 36 #[.val (.ref a0), .val (.ref a1), .val (.int 1)] [(.int d1), (.int (own_fold (us.getD ((1 : Int32)).toNatClampNeg 0)))]) _
          refine XS.icmpNo X681.here hx rfl (hb hby d10_36) rfl (feq hc682).1 ?_
          show own_S p e below T681 (mkF m 39 #[.val (.ref a0), .val (.ref a1), .val (.int 1)] []) _
          refine XS.iconst X681.here hx rfl (hb hby d10_39) ?_
          show own_S p e below T681 (mkF m 40 #[.val (.ref a0), .val (.ref a1), .val (.int 1)] [.int 0]) _
          exact retN X681 hx (t := .boolean) Bd.returns (by simp) (hb hby d10_40) hr
        · show Q10_3 Z a0 a1 us d0 d1 d2 cs gf h0 n0 _ T681.heap _
          rw [e681]
          exact ⟨congrArg (fun z => some (Value.int z)) (show _ = own_sw3 us d0 d1 d2 from by unfold own_sw3; rw [if_neg hc669, if_pos hc676, if_neg hc682]), N681, rfl⟩
    · obtain ⟨fs, hr, hrun, hended, hW, hsame⟩ := X675.leave (v := some (.int (0 : Int32))) (fun h => by rw [Bd.returns] at h; cases h)
      refine ⟨_, _, pre0 _ ?_, hrun, hended, _, _, rfl, ?_, ⟨_, rfl⟩, hW, hsame.mono (by decide) (by decide)⟩
      · show own_S p e below s₁ (mkF m 0 #[.val (.ref a0), .val (.ref a1), .unset] []) _
        refine cp674 _ ?_
        show own_S p e below T673 (mkF m 33 #[.val (.ref a0), .val (.ref a1), .val (.int 0)] [.int 0, (.ref a1), (.int (own_fold (us.getD ((0 : Int32)).toNatClampNeg 0)))]) _
        refine st675.trans ?_
        show own_S p e below T675 (mkF m 36 #[.val (.ref a0), .val (.ref a1), .val (.int 0)] [(.int d0), (.int (own_fold (us.getD ((0 : Int32)).toNatClampNeg 0)))]) _
        refine XS.icmpNo X675.here hx rfl (hb hby d10_36) rfl (feq hc676).1 ?_
        show own_S p e below T675 (mkF m 39 #[.val (.ref a0), .val (.ref a1), .val (.int 0)] []) _
        refine XS.iconst X675.here hx rfl (hb hby d10_39) ?_
        show own_S p e below T675 (mkF m 40 #[.val (.ref a0), .val (.ref a1), .val (.int 0)] [.int 0]) _
        exact retN X675 hx (t := .boolean) Bd.returns (by simp) (hb hby d10_40) hr
      · show Q10_3 Z a0 a1 us d0 d1 d2 cs gf h0 n0 _ T675.heap _
        rw [e675]
        exact ⟨congrArg (fun z => some (Value.int z)) (show _ = own_sw3 us d0 d1 d2 from by unfold own_sw3; rw [if_neg hc669, if_neg hc676]), N675, rfl⟩
def own_sw2 (us : List Int32) (d0 : Int32) (d1 : Int32) : Int32 := if (Int32.ofNat us.length) < (2 : Int32) then 0 else (if (own_fold (us.getD ((0 : Int32)).toNatClampNeg 0)) = d0 then (if (own_fold (us.getD ((1 : Int32)).toNatClampNeg 0)) = d1 then 1 else 0) else 0)
theorem own_us_ix2 (us : List Int32) (h3 : us.length ≤ 3) (h : ¬ (Int32.ofNat us.length) < (2 : Int32)) {i : Nat} (hi : i < 2) : i < us.length := by
  rcases own_five us.length (by omega) with e | e | e | e | e <;> rw [e] at h ⊢ <;> first | omega | exact absurd h (by decide)
def Q10_2 (Z : State) (a0 : Addr) (a1 : Addr) (us : List Int32) (d0 : Int32) (d1 : Int32) (cs : Int32) (gf : Value) (h0 : Heap) (n0 : Nat) (v : Option Value) (h : Heap) (L : List Loc) : Prop := v = some (.int (own_sw2 us d0 d1)) ∧ Fr n0 L ∧ h = h0
set_option maxRecDepth 65536 in
set_option maxHeartbeats 40000000 in
theorem rm10_2 (l : Launch) (Z : State) (ag : Array Value) (hw : ∀ d ∈ tables_1, d.before ag Z = true) (ws : List Jvm.Cond) (a0 : Addr) (a1 : Addr) (us : List Int32) (d0 : Int32) (d1 : Int32) (cs : Int32) (gf : Value) (h0 : Heap) (n0 : Nat) (Z0 : n0 ≤ h0.size) (T_ : own_str Z h0 a0 us) (L_ : own_str Z h0 a1 [d0, d1]) (hus : us.length ≤ 3) (O_ : Old Z n0 h0) (S_cs : Sta Z Z.heap "java/lang/String" "COMPACT_STRINGS" "Z" (.int cs)) (hcs : ¬ cs = (0 : Int32)) (S_gf : Sta Z Z.heap "jdk/internal/util/Preconditions" "SIOOBE_FORMATTER" "Ljava/util/function/BiFunction;" gf) (rv_gf : gf.isRef = true) (S_ad : Sta Z Z.heap "java/lang/StringUTF16" "$assertionsDisabled" "Z" (.int (1 : Int32))) (S_hi : Sta Z Z.heap "java/lang/StringUTF16" "HI_BYTE_SHIFT" "I" (.int (0 : Int32))) (S_lo : Sta Z Z.heap "java/lang/StringUTF16" "LO_BYTE_SHIFT" "I" (.int (8 : Int32))) :
    MetFree l (⟨"com/example/tenpoint/tenpoint/AsciiCase", "startsWith", "(Ljava/lang/String;Ljava/lang/String;)Z"⟩ : MethodName) (head1 (Jvm.Cond.code (⟨"com/example/tenpoint/tenpoint/AsciiCase", "startsWith", "(Ljava/lang/String;Ljava/lang/String;)Z"⟩ : MethodName) prog_2_method_3_code 3 (some .boolean) :: ws) ({ frames := 6, cells := 0, slots := 0, locals := 84 } : Room)) (fun a U => a = #[(.ref a0), (.ref a1)] ∧ Z.Warmed39 U.vm ∧ U.heap = h0) (fun _ _ _ _ _ => True) (fun _ U o U' => ∃ v L, o = .returned v ∧ Q10_2 Z a0 a1 us d0 d1 cs gf h0 n0 v U'.heap L ∧ FrameEnd U o U' L ({ frames := 6, cells := 0, slots := 0, locals := 84 } : Room).cells ({ frames := 6, cells := 0, slots := 0, locals := 84 } : Room).slots) := by
  refine MetFree.of_bodySF (plainFor_of_name pn_0) hisR ?_
  intro p e s m args below meth c s₁ Bd hml0 hP hK
  obtain ⟨rfl, hZ, hh⟩ := hP
  have hx := Bd.exec
  have hby := Bd.bytes
  have hml : c.maxLocals = 3 := hml0
  have hown : s.vm.findClass "com/example/tenpoint/tenpoint/AsciiCase" = some m.cls := findClass_of_methodNamed Bd.named
  have hnm := (name_of_methodNamed Bd.named Bd.method).1
  have X0 : Stand p l e ({ frames := 6, cells := 0, slots := 0, locals := 84 } : Room) s m #[(.ref a0), (.ref a1)] below meth c s₁ [] 0 0 := Stand.of_body Bd
  have e0 : s₁.heap = h0 := by rw [← hh, Bd.state]; rfl
  have N0 := Fr.nil n0
  have pre0 : ∀ t, Steps p.tables e below (s₁.setTop (mkF m 0 #[.val (.ref a0), .val (.ref a1), .unset] [])) t → Steps p.tables e below (s₁.setTop (entryFrame m #[(.ref a0), (.ref a1)] 3)) t := fun t k => castTop (ef_10 m a0 a1) k
  obtain ⟨cq690, kq690, q690a, q690b, q690c⟩ := isOf hZ e0 T_.1
  obtain ⟨_, _, ⟨T690, L690, k690, n690⟩, -, X690, ⟨Lc690, hQ690, l690, y690, z690⟩, st690⟩ := X0.virtualBack hx (y := (⟨"java/lang/String", "length", "()I"⟩ : MethodName)) (z := (⟨"java/lang/String", "length", "()I"⟩ : MethodName)) hown (mvT hZ (hw _ (List.mem_of_getElem? (i := 47) rfl))) (mvT hZ (hw _ (List.mem_of_getElem? (i := 48) rfl))) (notFace_of_selects (args := #[]) (mvT hZ (hw _ (List.mem_of_getElem? (i := 50) rfl)))) (mvT hZ (hw _ (List.mem_of_getElem? (i := 50) rfl))) (mvT hZ (hw _ (List.mem_of_getElem? (i := 49) rfl))) (by decide) (backOf (W := 0) (rm11 l Z ag hw [] a0 us cs h0 n0 Z0 T_ O_ S_cs hcs) hZ (hw _ (List.mem_of_getElem? (i := 51) rfl)) (hw _ (List.mem_of_getElem? (i := 12) rfl)) (by decide) (by decide)) q690a q690c (g := (mkF m 1 #[.val (.ref a0), .val (.ref a1), .unset] [(.ref a0)])) rfl (by rw [hml]; rfl) (Steps.refl _) (argsL := []) (rest := []) (lenOf pd_1 rfl) rfl (by show 2 * 0 + _ ≤ _; exact Nat.le_of_eq rfl) (hb hby d10_1) (fun _ _ => ⟨rfl, e0, (by decide : 0 + 0 ≤ _), (by decide : 0 + 0 ≤ _)⟩)
  dsimp only [Pt.U, Pt.locs, Pt.cells, Pt.slots] at X690 l690 y690 z690 st690 hQ690
  subst l690 y690 z690
  obtain ⟨rfl, N690q, e690⟩ := hQ690
  have N690 := Fr.app N0 N690q
  obtain ⟨cq691, kq691, q691a, q691b, q691c⟩ := isOf hZ e690 L_.1
  obtain ⟨_, _, ⟨T691, L691, k691, n691⟩, -, X691, ⟨Lc691, hQ691, l691, y691, z691⟩, st691⟩ := X690.virtualBack hx (y := (⟨"java/lang/String", "length", "()I"⟩ : MethodName)) (z := (⟨"java/lang/String", "length", "()I"⟩ : MethodName)) hown (mvT hZ (hw _ (List.mem_of_getElem? (i := 47) rfl))) (mvT hZ (hw _ (List.mem_of_getElem? (i := 48) rfl))) (notFace_of_selects (args := #[]) (mvT hZ (hw _ (List.mem_of_getElem? (i := 50) rfl)))) (mvT hZ (hw _ (List.mem_of_getElem? (i := 50) rfl))) (mvT hZ (hw _ (List.mem_of_getElem? (i := 49) rfl))) (by decide) (backOf (W := 1) (rm11 l Z ag hw [] a1 [d0, d1] cs h0 n0 Z0 L_ O_ S_cs hcs) hZ (hw _ (List.mem_of_getElem? (i := 51) rfl)) (hw _ (List.mem_of_getElem? (i := 12) rfl)) (by decide) (by decide)) q691a q691c (g := (mkF m 5 #[.val (.ref a0), .val (.ref a1), .unset] [(.ref a1), (.int (Int32.ofNat us.length))])) rfl (by rw [hml]; rfl) (Steps.refl _) (argsL := []) (rest := [(.int (Int32.ofNat us.length))]) (lenOf pd_1 rfl) rfl (by show 2 * 0 + _ ≤ _; exact Nat.le_of_eq rfl) (hb hby d10_5) (fun _ _ => ⟨rfl, e690, (by decide : 0 + 0 ≤ _), (by decide : 0 + 0 ≤ _)⟩)
  dsimp only [Pt.U, Pt.locs, Pt.cells, Pt.slots] at X691 l691 y691 z691 st691 hQ691
  subst l691 y691 z691
  obtain ⟨rfl, N691q, e691⟩ := hQ691
  have N691 := Fr.app N690 N691q
  have cp693 : ∀ target, own_S p e below T691 (mkF m 8 #[.val (.ref a0), .val (.ref a1), .unset] [.int 2, (.int (Int32.ofNat us.length))]) target → own_S p e below s₁ (mkF m 0 #[.val (.ref a0), .val (.ref a1), .unset] []) target := by
    intro target kt
    show own_S p e below s₁ (mkF m 0 #[.val (.ref a0), .val (.ref a1), .unset] []) _
    refine XS.aloadN X0.here hx rfl (hb hby d10_0) rfl rfl ?_
    show own_S p e below s₁ (mkF m 1 #[.val (.ref a0), .val (.ref a1), .unset] [(.ref a0)]) _
    refine st690.trans ?_
    show own_S p e below T690 (mkF m 4 #[.val (.ref a0), .val (.ref a1), .unset] [(.int (Int32.ofNat us.length))]) _
    refine XS.aloadN X690.here hx rfl (hb hby d10_4) rfl rfl ?_
    show own_S p e below T690 (mkF m 5 #[.val (.ref a0), .val (.ref a1), .unset] [(.ref a1), (.int (Int32.ofNat us.length))]) _
    refine st691.trans ?_
    exact kt
  by_cases hc692 : (Int32.ofNat us.length) < (2 : Int32)
  · obtain ⟨fs, hr, hrun, hended, hW, hsame⟩ := X691.leave (v := some (.int (0 : Int32))) (fun h => by rw [Bd.returns] at h; cases h)
    refine ⟨_, _, pre0 _ ?_, hrun, hended, _, _, rfl, ?_, ⟨_, rfl⟩, hW, hsame.mono (by decide) (by decide)⟩
    · show own_S p e below s₁ (mkF m 0 #[.val (.ref a0), .val (.ref a1), .unset] []) _
      refine cp693 _ ?_
      show own_S p e below T691 (mkF m 8 #[.val (.ref a0), .val (.ref a1), .unset] [.int 2, (.int (Int32.ofNat us.length))]) _
      refine XS.icmpNo X691.here hx rfl (hb hby d10_8) rfl (tlt hc692).2.1 ?_
      show own_S p e below T691 (mkF m 11 #[.val (.ref a0), .val (.ref a1), .unset] []) _
      refine XS.iconst X691.here hx rfl (hb hby d10_11) ?_
      show own_S p e below T691 (mkF m 12 #[.val (.ref a0), .val (.ref a1), .unset] [.int 0]) _
      exact retN X691 hx (t := .boolean) Bd.returns (by simp) (hb hby d10_12) hr
    · show Q10_2 Z a0 a1 us d0 d1 cs gf h0 n0 _ T691.heap _
      rw [e691]
      exact ⟨congrArg (fun z => some (Value.int z)) (show _ = own_sw2 us d0 d1 from by unfold own_sw2; rw [if_pos hc692]), N691, rfl⟩
  · obtain ⟨cq694, kq694, q694a, q694b, q694c⟩ := isOf hZ e691 L_.1
    obtain ⟨_, _, ⟨T694, L694, k694, n694⟩, -, X694, ⟨Lc694, hQ694, l694, y694, z694⟩, st694⟩ := X691.virtualBack hx (y := (⟨"java/lang/String", "length", "()I"⟩ : MethodName)) (z := (⟨"java/lang/String", "length", "()I"⟩ : MethodName)) hown (mvT hZ (hw _ (List.mem_of_getElem? (i := 47) rfl))) (mvT hZ (hw _ (List.mem_of_getElem? (i := 48) rfl))) (notFace_of_selects (args := #[]) (mvT hZ (hw _ (List.mem_of_getElem? (i := 50) rfl)))) (mvT hZ (hw _ (List.mem_of_getElem? (i := 50) rfl))) (mvT hZ (hw _ (List.mem_of_getElem? (i := 49) rfl))) (by decide) (backOf (W := 1) (rm11 l Z ag hw [] a1 [d0, d1] cs h0 n0 Z0 L_ O_ S_cs hcs) hZ (hw _ (List.mem_of_getElem? (i := 51) rfl)) (hw _ (List.mem_of_getElem? (i := 12) rfl)) (by decide) (by decide)) q694a q694c (g := (mkF m 17 #[.val (.ref a0), .val (.ref a1), .val (.int 0)] [(.ref a1), .int 0])) rfl (by rw [hml]; rfl) (Steps.refl _) (argsL := []) (rest := [(.int (0 : Int32))]) (lenOf pd_1 rfl) rfl (by show 2 * 0 + _ ≤ _; exact Nat.le_of_eq rfl) (hb hby d10_17) (fun _ _ => ⟨rfl, e691, (by decide : 0 + 0 ≤ _), (by decide : 0 + 0 ≤ _)⟩)
    dsimp only [Pt.U, Pt.locs, Pt.cells, Pt.slots] at X694 l694 y694 z694 st694 hQ694
    subst l694 y694 z694
    obtain ⟨rfl, N694q, e694⟩ := hQ694
    have N694 := Fr.app N691 N694q
    obtain ⟨cq695, kq695, q695a, q695b, q695c⟩ := isOf hZ e694 T_.1
    obtain ⟨_, _, ⟨T695, L695, k695, n695⟩, -, X695, ⟨Lc695, hQ695, l695, y695, z695⟩, st695⟩ := X694.virtualBack hx (y := (⟨"java/lang/String", "charAt", "(I)C"⟩ : MethodName)) (z := (⟨"java/lang/String", "charAt", "(I)C"⟩ : MethodName)) hown (mvT hZ (hw _ (List.mem_of_getElem? (i := 79) rfl))) (mvT hZ (hw _ (List.mem_of_getElem? (i := 80) rfl))) (notFace_of_selects (args := #[]) (mvT hZ (hw _ (List.mem_of_getElem? (i := 82) rfl)))) (mvT hZ (hw _ (List.mem_of_getElem? (i := 82) rfl))) (mvT hZ (hw _ (List.mem_of_getElem? (i := 81) rfl))) (by decide) (backOf (W := 0) (rm19 l Z ag hw [] a0 (0 : Int32) us cs gf h0 n0 Z0 T_ (by decide) (own_us_ix2 us hus hc692 (by decide)) O_ S_cs hcs S_gf rv_gf S_ad S_hi S_lo) hZ (hw _ (List.mem_of_getElem? (i := 83) rfl)) (hw _ (List.mem_of_getElem? (i := 12) rfl)) (by decide) (by decide)) q695a q695c (g := (mkF m 25 #[.val (.ref a0), .val (.ref a1), .val (.int 0)] [.int 0, (.ref a0)])) rfl (by rw [hml]; rfl) (Steps.refl _) (argsL := [(.int (0 : Int32))]) (rest := []) (lenOf pd_7 rfl) rfl (by show 2 * 0 + _ ≤ _; exact Nat.le_of_eq rfl) (hb hby d10_25) (fun _ _ => ⟨rfl, e694, (by decide : 0 + 0 ≤ _), (by decide : 0 + 0 ≤ _)⟩)
    dsimp only [Pt.U, Pt.locs, Pt.cells, Pt.slots] at X695 l695 y695 z695 st695 hQ695
    subst l695 y695 z695
    obtain ⟨rfl, N695q, e695⟩ := hQ695
    have N695 := Fr.app N694 N695q
    obtain ⟨_, _, ⟨T696, L696, k696, n696⟩, -, X696, ⟨Lc696, hQ696, l696, y696, z696⟩, st696⟩ := Jvm.LawKit.callS X695 hx (y := (⟨"com/example/tenpoint/tenpoint/AsciiCase", "fold", "(C)C"⟩ : MethodName)) hown (mvT hZ (hw _ (List.mem_of_getElem? (i := 106) rfl))) (mvT hZ (hw _ (List.mem_of_getElem? (i := 107) rfl))) (mvT hZ (hw _ (List.mem_of_getElem? (i := 45) rfl))) (mvT hZ (hw _ (List.mem_of_getElem? (i := 108) rfl))) (by decide) (backOf (W := 0) (rm26 l Z ag hw [] (us.getD ((0 : Int32)).toNatClampNeg 0)  h0 n0 Z0 ) hZ (hw _ (List.mem_of_getElem? (i := 108) rfl)) (hw _ (List.mem_of_getElem? (i := 45) rfl)) (by decide) (by decide)) (g := (mkF m 28 #[.val (.ref a0), .val (.ref a1), .val (.int 0)] [(.int (us.getD ((0 : Int32)).toNatClampNeg 0))])) rfl (by rw [hml]; rfl) (argsL := [(.int (us.getD ((0 : Int32)).toNatClampNeg 0))]) (rest := []) (lenOf pd_4 rfl) rfl (by show 2 * 0 + _ ≤ _; exact Nat.le_of_eq rfl) (hb hby d10_28) (fun _ _ => ⟨rfl, e695, (by decide : 0 + 0 ≤ _), (by decide : 0 + 0 ≤ _)⟩)
    dsimp only [Pt.U, Pt.locs, Pt.cells, Pt.slots] at X696 l696 y696 z696 st696 hQ696
    subst l696 y696 z696
    obtain ⟨rfl, N696q, e696⟩ := hQ696
    have N696 := Fr.app N695 N696q
    have cp697 : ∀ target, own_S p e below T696 (mkF m 33 #[.val (.ref a0), .val (.ref a1), .val (.int 0)] [.int 0, (.ref a1), (.int (own_fold (us.getD ((0 : Int32)).toNatClampNeg 0)))]) target → own_S p e below s₁ (mkF m 0 #[.val (.ref a0), .val (.ref a1), .unset] []) target := by
      intro target kt
      show own_S p e below s₁ (mkF m 0 #[.val (.ref a0), .val (.ref a1), .unset] []) _
      refine cp693 _ ?_
      show own_S p e below T691 (mkF m 8 #[.val (.ref a0), .val (.ref a1), .unset] [.int 2, (.int (Int32.ofNat us.length))]) _
      refine XS.icmpYes X691.here hx rfl (pc0 := 8) (pc' := 13) rfl (hb hby d10_8) rfl (flt hc692).2.1 (by decide) (by decide) ?_
      show own_S p e below T691 (mkF m 13 #[.val (.ref a0), .val (.ref a1), .unset] []) _
      refine XS.iconst X691.here hx rfl (hb hby d10_13) ?_
      show own_S p e below T691 (mkF m 14 #[.val (.ref a0), .val (.ref a1), .unset] [.int 0]) _
      refine XS.istoreN X691.here hx rfl (hb hby d10_14) rfl (l' := #[.val (.ref a0), .val (.ref a1), .val (.int 0)]) rfl ?_
      show own_S p e below T691 (mkF m 15 #[.val (.ref a0), .val (.ref a1), .val (.int 0)] []) _
      refine XS.iloadN X691.here hx rfl (hb hby d10_15) rfl ?_
      show own_S p e below T691 (mkF m 16 #[.val (.ref a0), .val (.ref a1), .val (.int 0)] [.int 0]) _
      refine XS.aloadN X691.here hx rfl (hb hby d10_16) rfl rfl ?_
      show own_S p e below T691 (mkF m 17 #[.val (.ref a0), .val (.ref a1), .val (.int 0)] [(.ref a1), .int 0]) _
      refine st694.trans ?_
      show own_S p e below T694 (mkF m 20 #[.val (.ref a0), .val (.ref a1), .val (.int 0)] [.int 2, .int 0]) _
      refine XS.icmpNo X694.here hx rfl (hb hby d10_20) rfl (tlt (by decide : (0 : Int32) < (2 : Int32))).2.1 ?_
      show own_S p e below T694 (mkF m 23 #[.val (.ref a0), .val (.ref a1), .val (.int 0)] []) _
      refine XS.aloadN X694.here hx rfl (hb hby d10_23) rfl rfl ?_
      show own_S p e below T694 (mkF m 24 #[.val (.ref a0), .val (.ref a1), .val (.int 0)] [(.ref a0)]) _
      refine XS.iloadN X694.here hx rfl (hb hby d10_24) rfl ?_
      show own_S p e below T694 (mkF m 25 #[.val (.ref a0), .val (.ref a1), .val (.int 0)] [.int 0, (.ref a0)]) _
      refine st695.trans ?_
      show own_S p e below T695 (mkF m 28 #[.val (.ref a0), .val (.ref a1), .val (.int 0)] [(.int (us.getD ((0 : Int32)).toNatClampNeg 0))]) _
      refine st696 _ ?_
      show own_S p e below T696 (mkF m 31 #[.val (.ref a0), .val (.ref a1), .val (.int 0)] [(.int (own_fold (us.getD ((0 : Int32)).toNatClampNeg 0)))]) _
      refine XS.aloadN X696.here hx rfl (hb hby d10_31) rfl rfl ?_
      show own_S p e below T696 (mkF m 32 #[.val (.ref a0), .val (.ref a1), .val (.int 0)] [(.ref a1), (.int (own_fold (us.getD ((0 : Int32)).toNatClampNeg 0)))]) _
      refine XS.iloadN X696.here hx rfl (hb hby d10_32) rfl ?_
      exact kt
    obtain ⟨cq698, kq698, q698a, q698b, q698c⟩ := isOf hZ e696 L_.1
    obtain ⟨_, _, ⟨T698, L698, k698, n698⟩, -, X698, ⟨Lc698, hQ698, l698, y698, z698⟩, st698⟩ := X696.virtualBack hx (y := (⟨"java/lang/String", "charAt", "(I)C"⟩ : MethodName)) (z := (⟨"java/lang/String", "charAt", "(I)C"⟩ : MethodName)) hown (mvT hZ (hw _ (List.mem_of_getElem? (i := 79) rfl))) (mvT hZ (hw _ (List.mem_of_getElem? (i := 80) rfl))) (notFace_of_selects (args := #[]) (mvT hZ (hw _ (List.mem_of_getElem? (i := 82) rfl)))) (mvT hZ (hw _ (List.mem_of_getElem? (i := 82) rfl))) (mvT hZ (hw _ (List.mem_of_getElem? (i := 81) rfl))) (by decide) (backOf (W := 1) (rm19 l Z ag hw [] a1 (0 : Int32) [d0, d1] cs gf h0 n0 Z0 L_ (by decide) (Nat.le_of_ble_eq_true rfl) O_ S_cs hcs S_gf rv_gf S_ad S_hi S_lo) hZ (hw _ (List.mem_of_getElem? (i := 83) rfl)) (hw _ (List.mem_of_getElem? (i := 12) rfl)) (by decide) (by decide)) q698a q698c (g := (mkF m 33 #[.val (.ref a0), .val (.ref a1), .val (.int 0)] [.int 0, (.ref a1), (.int (own_fold (us.getD ((0 : Int32)).toNatClampNeg 0)))])) rfl (by rw [hml]; rfl) (Steps.refl _) (argsL := [(.int (0 : Int32))]) (rest := [(.int (own_fold (us.getD ((0 : Int32)).toNatClampNeg 0)))]) (lenOf pd_7 rfl) rfl (by show 2 * 0 + _ ≤ _; exact Nat.le_of_eq rfl) (hb hby d10_33) (fun _ _ => ⟨rfl, e696, (by decide : 0 + 0 ≤ _), (by decide : 0 + 0 ≤ _)⟩)
    dsimp only [Pt.U, Pt.locs, Pt.cells, Pt.slots] at X698 l698 y698 z698 st698 hQ698
    subst l698 y698 z698
    obtain ⟨rfl, N698q, e698⟩ := hQ698
    have N698 := Fr.app N696 N698q
    by_cases hc699 : (own_fold (us.getD ((0 : Int32)).toNatClampNeg 0)) = d0
    · obtain ⟨cq700, kq700, q700a, q700b, q700c⟩ := isOf hZ e698 L_.1
      obtain ⟨_, _, ⟨T700, L700, k700, n700⟩, -, X700, ⟨Lc700, hQ700, l700, y700, z700⟩, st700⟩ := X698.virtualBack hx (y := (⟨"java/lang/String", "length", "()I"⟩ : MethodName)) (z := (⟨"java/lang/String", "length", "()I"⟩ : MethodName)) hown (mvT hZ (hw _ (List.mem_of_getElem? (i := 47) rfl))) (mvT hZ (hw _ (List.mem_of_getElem? (i := 48) rfl))) (notFace_of_selects (args := #[]) (mvT hZ (hw _ (List.mem_of_getElem? (i := 50) rfl)))) (mvT hZ (hw _ (List.mem_of_getElem? (i := 50) rfl))) (mvT hZ (hw _ (List.mem_of_getElem? (i := 49) rfl))) (by decide) (backOf (W := 1) (rm11 l Z ag hw [] a1 [d0, d1] cs h0 n0 Z0 L_ O_ S_cs hcs) hZ (hw _ (List.mem_of_getElem? (i := 51) rfl)) (hw _ (List.mem_of_getElem? (i := 12) rfl)) (by decide) (by decide)) q700a q700c (g := (mkF m 17 #[.val (.ref a0), .val (.ref a1), .val (.int 1)] [(.ref a1), .int 1])) rfl (by rw [hml]; rfl) (Steps.refl _) (argsL := []) (rest := [(.int (1 : Int32))]) (lenOf pd_1 rfl) rfl (by show 2 * 0 + _ ≤ _; exact Nat.le_of_eq rfl) (hb hby d10_17) (fun _ _ => ⟨rfl, e698, (by decide : 0 + 0 ≤ _), (by decide : 0 + 0 ≤ _)⟩)
      dsimp only [Pt.U, Pt.locs, Pt.cells, Pt.slots] at X700 l700 y700 z700 st700 hQ700
      subst l700 y700 z700
      obtain ⟨rfl, N700q, e700⟩ := hQ700
      have N700 := Fr.app N698 N700q
      obtain ⟨cq701, kq701, q701a, q701b, q701c⟩ := isOf hZ e700 T_.1
      obtain ⟨_, _, ⟨T701, L701, k701, n701⟩, -, X701, ⟨Lc701, hQ701, l701, y701, z701⟩, st701⟩ := X700.virtualBack hx (y := (⟨"java/lang/String", "charAt", "(I)C"⟩ : MethodName)) (z := (⟨"java/lang/String", "charAt", "(I)C"⟩ : MethodName)) hown (mvT hZ (hw _ (List.mem_of_getElem? (i := 79) rfl))) (mvT hZ (hw _ (List.mem_of_getElem? (i := 80) rfl))) (notFace_of_selects (args := #[]) (mvT hZ (hw _ (List.mem_of_getElem? (i := 82) rfl)))) (mvT hZ (hw _ (List.mem_of_getElem? (i := 82) rfl))) (mvT hZ (hw _ (List.mem_of_getElem? (i := 81) rfl))) (by decide) (backOf (W := 0) (rm19 l Z ag hw [] a0 (1 : Int32) us cs gf h0 n0 Z0 T_ (by decide) (own_us_ix2 us hus hc692 (by decide)) O_ S_cs hcs S_gf rv_gf S_ad S_hi S_lo) hZ (hw _ (List.mem_of_getElem? (i := 83) rfl)) (hw _ (List.mem_of_getElem? (i := 12) rfl)) (by decide) (by decide)) q701a q701c (g := (mkF m 25 #[.val (.ref a0), .val (.ref a1), .val (.int 1)] [.int 1, (.ref a0)])) rfl (by rw [hml]; rfl) (Steps.refl _) (argsL := [(.int (1 : Int32))]) (rest := []) (lenOf pd_7 rfl) rfl (by show 2 * 0 + _ ≤ _; exact Nat.le_of_eq rfl) (hb hby d10_25) (fun _ _ => ⟨rfl, e700, (by decide : 0 + 0 ≤ _), (by decide : 0 + 0 ≤ _)⟩)
      dsimp only [Pt.U, Pt.locs, Pt.cells, Pt.slots] at X701 l701 y701 z701 st701 hQ701
      subst l701 y701 z701
      obtain ⟨rfl, N701q, e701⟩ := hQ701
      have N701 := Fr.app N700 N701q
      obtain ⟨_, _, ⟨T702, L702, k702, n702⟩, -, X702, ⟨Lc702, hQ702, l702, y702, z702⟩, st702⟩ := Jvm.LawKit.callS X701 hx (y := (⟨"com/example/tenpoint/tenpoint/AsciiCase", "fold", "(C)C"⟩ : MethodName)) hown (mvT hZ (hw _ (List.mem_of_getElem? (i := 106) rfl))) (mvT hZ (hw _ (List.mem_of_getElem? (i := 107) rfl))) (mvT hZ (hw _ (List.mem_of_getElem? (i := 45) rfl))) (mvT hZ (hw _ (List.mem_of_getElem? (i := 108) rfl))) (by decide) (backOf (W := 0) (rm26 l Z ag hw [] (us.getD ((1 : Int32)).toNatClampNeg 0)  h0 n0 Z0 ) hZ (hw _ (List.mem_of_getElem? (i := 108) rfl)) (hw _ (List.mem_of_getElem? (i := 45) rfl)) (by decide) (by decide)) (g := (mkF m 28 #[.val (.ref a0), .val (.ref a1), .val (.int 1)] [(.int (us.getD ((1 : Int32)).toNatClampNeg 0))])) rfl (by rw [hml]; rfl) (argsL := [(.int (us.getD ((1 : Int32)).toNatClampNeg 0))]) (rest := []) (lenOf pd_4 rfl) rfl (by show 2 * 0 + _ ≤ _; exact Nat.le_of_eq rfl) (hb hby d10_28) (fun _ _ => ⟨rfl, e701, (by decide : 0 + 0 ≤ _), (by decide : 0 + 0 ≤ _)⟩)
      dsimp only [Pt.U, Pt.locs, Pt.cells, Pt.slots] at X702 l702 y702 z702 st702 hQ702
      subst l702 y702 z702
      obtain ⟨rfl, N702q, e702⟩ := hQ702
      have N702 := Fr.app N701 N702q
      have cp703 : ∀ target, own_S p e below T702 (mkF m 33 #[.val (.ref a0), .val (.ref a1), .val (.int 1)] [.int 1, (.ref a1), (.int (own_fold (us.getD ((1 : Int32)).toNatClampNeg 0)))]) target → own_S p e below s₁ (mkF m 0 #[.val (.ref a0), .val (.ref a1), .unset] []) target := by
        intro target kt
        show own_S p e below s₁ (mkF m 0 #[.val (.ref a0), .val (.ref a1), .unset] []) _
        refine cp697 _ ?_
        show own_S p e below T696 (mkF m 33 #[.val (.ref a0), .val (.ref a1), .val (.int 0)] [.int 0, (.ref a1), (.int (own_fold (us.getD ((0 : Int32)).toNatClampNeg 0)))]) _
        refine st698.trans ?_
        show own_S p e below T698 (mkF m 36 #[.val (.ref a0), .val (.ref a1), .val (.int 0)] [(.int d0), (.int (own_fold (us.getD ((0 : Int32)).toNatClampNeg 0)))]) _
        refine XS.icmpYes X698.here hx rfl (pc0 := 36) (pc' := 41) rfl (hb hby d10_36) rfl (teq hc699).1 (by decide) (by decide) ?_
        show own_S p e below T698 (mkF m 41 #[.val (.ref a0), .val (.ref a1), .val (.int 0)] []) _
        refine XS.iinc X698.here hx rfl (hb hby d10_41) rfl (l' := #[.val (.ref a0), .val (.ref a1), .val (.int 1)]) rfl ?_
        show own_S p e below T698 (mkF m 44 #[.val (.ref a0), .val (.ref a1), .val (.int 1)] []) _
        refine XS.goto X698.here hx rfl (pc0 := 44) (pc' := 15) rfl (hb hby d10_44) (by decide) (by decide) ?_
        show own_S p e below T698 (mkF m 15 #[.val (.ref a0), .val (.ref a1), .val (.int 1)] []) _
        refine XS.iloadN X698.here hx rfl (hb hby d10_15) rfl ?_
        show own_S p e below T698 (mkF m 16 #[.val (.ref a0), .val (.ref a1), .val (.int 1)] [.int 1]) _
        refine XS.aloadN X698.here hx rfl (hb hby d10_16) rfl rfl ?_
        show own_S p e below T698 (mkF m 17 #[.val (.ref a0), .val (.ref a1), .val (.int 1)] [(.ref a1), .int 1]) _
        refine st700.trans ?_
        show own_S p e below T700 (mkF m 20 #[.val (.ref a0), .val (.ref a1), .val (.int 1)] [.int 2, .int 1]) _
        refine XS.icmpNo X700.here hx rfl (hb hby d10_20) rfl (tlt (by decide : (1 : Int32) < (2 : Int32))).2.1 ?_
        show own_S p e below T700 (mkF m 23 #[.val (.ref a0), .val (.ref a1), .val (.int 1)] []) _
        refine XS.aloadN X700.here hx rfl (hb hby d10_23) rfl rfl ?_
        show own_S p e below T700 (mkF m 24 #[.val (.ref a0), .val (.ref a1), .val (.int 1)] [(.ref a0)]) _
        refine XS.iloadN X700.here hx rfl (hb hby d10_24) rfl ?_
        show own_S p e below T700 (mkF m 25 #[.val (.ref a0), .val (.ref a1), .val (.int 1)] [.int 1, (.ref a0)]) _
        refine st701.trans ?_
        show own_S p e below T701 (mkF m 28 #[.val (.ref a0), .val (.ref a1), .val (.int 1)] [(.int (us.getD ((1 : Int32)).toNatClampNeg 0))]) _
        refine st702 _ ?_
        show own_S p e below T702 (mkF m 31 #[.val (.ref a0), .val (.ref a1), .val (.int 1)] [(.int (own_fold (us.getD ((1 : Int32)).toNatClampNeg 0)))]) _
        refine XS.aloadN X702.here hx rfl (hb hby d10_31) rfl rfl ?_
        show own_S p e below T702 (mkF m 32 #[.val (.ref a0), .val (.ref a1), .val (.int 1)] [(.ref a1), (.int (own_fold (us.getD ((1 : Int32)).toNatClampNeg 0)))]) _
        refine XS.iloadN X702.here hx rfl (hb hby d10_32) rfl ?_
        exact kt
      obtain ⟨cq704, kq704, q704a, q704b, q704c⟩ := isOf hZ e702 L_.1
      obtain ⟨_, _, ⟨T704, L704, k704, n704⟩, -, X704, ⟨Lc704, hQ704, l704, y704, z704⟩, st704⟩ := X702.virtualBack hx (y := (⟨"java/lang/String", "charAt", "(I)C"⟩ : MethodName)) (z := (⟨"java/lang/String", "charAt", "(I)C"⟩ : MethodName)) hown (mvT hZ (hw _ (List.mem_of_getElem? (i := 79) rfl))) (mvT hZ (hw _ (List.mem_of_getElem? (i := 80) rfl))) (notFace_of_selects (args := #[]) (mvT hZ (hw _ (List.mem_of_getElem? (i := 82) rfl)))) (mvT hZ (hw _ (List.mem_of_getElem? (i := 82) rfl))) (mvT hZ (hw _ (List.mem_of_getElem? (i := 81) rfl))) (by decide) (backOf (W := 1) (rm19 l Z ag hw [] a1 (1 : Int32) [d0, d1] cs gf h0 n0 Z0 L_ (by decide) (Nat.le_of_ble_eq_true rfl) O_ S_cs hcs S_gf rv_gf S_ad S_hi S_lo) hZ (hw _ (List.mem_of_getElem? (i := 83) rfl)) (hw _ (List.mem_of_getElem? (i := 12) rfl)) (by decide) (by decide)) q704a q704c (g := (mkF m 33 #[.val (.ref a0), .val (.ref a1), .val (.int 1)] [.int 1, (.ref a1), (.int (own_fold (us.getD ((1 : Int32)).toNatClampNeg 0)))])) rfl (by rw [hml]; rfl) (Steps.refl _) (argsL := [(.int (1 : Int32))]) (rest := [(.int (own_fold (us.getD ((1 : Int32)).toNatClampNeg 0)))]) (lenOf pd_7 rfl) rfl (by show 2 * 0 + _ ≤ _; exact Nat.le_of_eq rfl) (hb hby d10_33) (fun _ _ => ⟨rfl, e702, (by decide : 0 + 0 ≤ _), (by decide : 0 + 0 ≤ _)⟩)
      dsimp only [Pt.U, Pt.locs, Pt.cells, Pt.slots] at X704 l704 y704 z704 st704 hQ704
      subst l704 y704 z704
      obtain ⟨rfl, N704q, e704⟩ := hQ704
      have N704 := Fr.app N702 N704q
      by_cases hc705 : (own_fold (us.getD ((1 : Int32)).toNatClampNeg 0)) = d1
      · obtain ⟨cq706, kq706, q706a, q706b, q706c⟩ := isOf hZ e704 L_.1
        obtain ⟨_, _, ⟨T706, L706, k706, n706⟩, -, X706, ⟨Lc706, hQ706, l706, y706, z706⟩, st706⟩ := X704.virtualBack hx (y := (⟨"java/lang/String", "length", "()I"⟩ : MethodName)) (z := (⟨"java/lang/String", "length", "()I"⟩ : MethodName)) hown (mvT hZ (hw _ (List.mem_of_getElem? (i := 47) rfl))) (mvT hZ (hw _ (List.mem_of_getElem? (i := 48) rfl))) (notFace_of_selects (args := #[]) (mvT hZ (hw _ (List.mem_of_getElem? (i := 50) rfl)))) (mvT hZ (hw _ (List.mem_of_getElem? (i := 50) rfl))) (mvT hZ (hw _ (List.mem_of_getElem? (i := 49) rfl))) (by decide) (backOf (W := 1) (rm11 l Z ag hw [] a1 [d0, d1] cs h0 n0 Z0 L_ O_ S_cs hcs) hZ (hw _ (List.mem_of_getElem? (i := 51) rfl)) (hw _ (List.mem_of_getElem? (i := 12) rfl)) (by decide) (by decide)) q706a q706c (g := (mkF m 17 #[.val (.ref a0), .val (.ref a1), .val (.int 2)] [(.ref a1), .int 2])) rfl (by rw [hml]; rfl) (Steps.refl _) (argsL := []) (rest := [(.int (2 : Int32))]) (lenOf pd_1 rfl) rfl (by show 2 * 0 + _ ≤ _; exact Nat.le_of_eq rfl) (hb hby d10_17) (fun _ _ => ⟨rfl, e704, (by decide : 0 + 0 ≤ _), (by decide : 0 + 0 ≤ _)⟩)
        dsimp only [Pt.U, Pt.locs, Pt.cells, Pt.slots] at X706 l706 y706 z706 st706 hQ706
        subst l706 y706 z706
        obtain ⟨rfl, N706q, e706⟩ := hQ706
        have N706 := Fr.app N704 N706q
        obtain ⟨fs, hr, hrun, hended, hW, hsame⟩ := X706.leave (v := some (.int (1 : Int32))) (fun h => by rw [Bd.returns] at h; cases h)
        refine ⟨_, _, pre0 _ ?_, hrun, hended, _, _, rfl, ?_, ⟨_, rfl⟩, hW, hsame.mono (by decide) (by decide)⟩
        · show own_S p e below s₁ (mkF m 0 #[.val (.ref a0), .val (.ref a1), .unset] []) _
          refine cp703 _ ?_
          show own_S p e below T702 (mkF m 33 #[.val (.ref a0), .val (.ref a1), .val (.int 1)] [.int 1, (.ref a1), (.int (own_fold (us.getD ((1 : Int32)).toNatClampNeg 0)))]) _
          refine st704.trans ?_
          show own_S p e below T704 (mkF m 36 #[.val (.ref a0), .val (.ref a1), .val (.int 1)] [(.int d1), (.int (own_fold (us.getD ((1 : Int32)).toNatClampNeg 0)))]) _
          refine XS.icmpYes X704.here hx rfl (pc0 := 36) (pc' := 41) rfl (hb hby d10_36) rfl (teq hc705).1 (by decide) (by decide) ?_
          show own_S p e below T704 (mkF m 41 #[.val (.ref a0), .val (.ref a1), .val (.int 1)] []) _
          refine XS.iinc X704.here hx rfl (hb hby d10_41) rfl (l' := #[.val (.ref a0), .val (.ref a1), .val (.int 2)]) rfl ?_
          show own_S p e below T704 (mkF m 44 #[.val (.ref a0), .val (.ref a1), .val (.int 2)] []) _
          refine XS.goto X704.here hx rfl (pc0 := 44) (pc' := 15) rfl (hb hby d10_44) (by decide) (by decide) ?_
          show own_S p e below T704 (mkF m 15 #[.val (.ref a0), .val (.ref a1), .val (.int 2)] []) _
          refine XS.iloadN X704.here hx rfl (hb hby d10_15) rfl ?_
          show own_S p e below T704 (mkF m 16 #[.val (.ref a0), .val (.ref a1), .val (.int 2)] [.int 2]) _
          refine XS.aloadN X704.here hx rfl (hb hby d10_16) rfl rfl ?_
          show own_S p e below T704 (mkF m 17 #[.val (.ref a0), .val (.ref a1), .val (.int 2)] [(.ref a1), .int 2]) _
          refine st706.trans ?_
          show own_S p e below T706 (mkF m 20 #[.val (.ref a0), .val (.ref a1), .val (.int 2)] [.int 2, .int 2]) _
          refine XS.icmpYes X706.here hx rfl (pc0 := 20) (pc' := 47) rfl (hb hby d10_20) rfl (flt (by decide : ¬ ((2 : Int32) < (2 : Int32)))).2.1 (by decide) (by decide) ?_
          show own_S p e below T706 (mkF m 47 #[.val (.ref a0), .val (.ref a1), .val (.int 2)] []) _
          refine XS.iconst X706.here hx rfl (hb hby d10_47) ?_
          show own_S p e below T706 (mkF m 48 #[.val (.ref a0), .val (.ref a1), .val (.int 2)] [.int 1]) _
          exact retN X706 hx (t := .boolean) Bd.returns (by simp) (hb hby d10_48) hr
        · show Q10_2 Z a0 a1 us d0 d1 cs gf h0 n0 _ T706.heap _
          rw [e706]
          exact ⟨congrArg (fun z => some (Value.int z)) (show _ = own_sw2 us d0 d1 from by unfold own_sw2; rw [if_neg hc692, if_pos hc699, if_pos hc705]), N706, rfl⟩
      · obtain ⟨fs, hr, hrun, hended, hW, hsame⟩ := X704.leave (v := some (.int (0 : Int32))) (fun h => by rw [Bd.returns] at h; cases h)
        refine ⟨_, _, pre0 _ ?_, hrun, hended, _, _, rfl, ?_, ⟨_, rfl⟩, hW, hsame.mono (by decide) (by decide)⟩
        · show own_S p e below s₁ (mkF m 0 #[.val (.ref a0), .val (.ref a1), .unset] []) _
          refine cp703 _ ?_
          show own_S p e below T702 (mkF m 33 #[.val (.ref a0), .val (.ref a1), .val (.int 1)] [.int 1, (.ref a1), (.int (own_fold (us.getD ((1 : Int32)).toNatClampNeg 0)))]) _
          refine st704.trans ?_
          show own_S p e below T704 (mkF m 36 #[.val (.ref a0), .val (.ref a1), .val (.int 1)] [(.int d1), (.int (own_fold (us.getD ((1 : Int32)).toNatClampNeg 0)))]) _
          refine XS.icmpNo X704.here hx rfl (hb hby d10_36) rfl (feq hc705).1 ?_
          show own_S p e below T704 (mkF m 39 #[.val (.ref a0), .val (.ref a1), .val (.int 1)] []) _
          refine XS.iconst X704.here hx rfl (hb hby d10_39) ?_
          show own_S p e below T704 (mkF m 40 #[.val (.ref a0), .val (.ref a1), .val (.int 1)] [.int 0]) _
          exact retN X704 hx (t := .boolean) Bd.returns (by simp) (hb hby d10_40) hr
        · show Q10_2 Z a0 a1 us d0 d1 cs gf h0 n0 _ T704.heap _
          rw [e704]
          exact ⟨congrArg (fun z => some (Value.int z)) (show _ = own_sw2 us d0 d1 from by unfold own_sw2; rw [if_neg hc692, if_pos hc699, if_neg hc705]), N704, rfl⟩
    · obtain ⟨fs, hr, hrun, hended, hW, hsame⟩ := X698.leave (v := some (.int (0 : Int32))) (fun h => by rw [Bd.returns] at h; cases h)
      refine ⟨_, _, pre0 _ ?_, hrun, hended, _, _, rfl, ?_, ⟨_, rfl⟩, hW, hsame.mono (by decide) (by decide)⟩
      · show own_S p e below s₁ (mkF m 0 #[.val (.ref a0), .val (.ref a1), .unset] []) _
        refine cp697 _ ?_
        show own_S p e below T696 (mkF m 33 #[.val (.ref a0), .val (.ref a1), .val (.int 0)] [.int 0, (.ref a1), (.int (own_fold (us.getD ((0 : Int32)).toNatClampNeg 0)))]) _
        refine st698.trans ?_
        show own_S p e below T698 (mkF m 36 #[.val (.ref a0), .val (.ref a1), .val (.int 0)] [(.int d0), (.int (own_fold (us.getD ((0 : Int32)).toNatClampNeg 0)))]) _
        refine XS.icmpNo X698.here hx rfl (hb hby d10_36) rfl (feq hc699).1 ?_
        show own_S p e below T698 (mkF m 39 #[.val (.ref a0), .val (.ref a1), .val (.int 0)] []) _
        refine XS.iconst X698.here hx rfl (hb hby d10_39) ?_
        show own_S p e below T698 (mkF m 40 #[.val (.ref a0), .val (.ref a1), .val (.int 0)] [.int 0]) _
        exact retN X698 hx (t := .boolean) Bd.returns (by simp) (hb hby d10_40) hr
      · show Q10_2 Z a0 a1 us d0 d1 cs gf h0 n0 _ T698.heap _
        rw [e698]
        exact ⟨congrArg (fun z => some (Value.int z)) (show _ = own_sw2 us d0 d1 from by unfold own_sw2; rw [if_neg hc692, if_neg hc699]), N698, rfl⟩
def own_sw1 (us : List Int32) (d0 : Int32) : Int32 := if (Int32.ofNat us.length) < (1 : Int32) then 0 else (if (own_fold (us.getD ((0 : Int32)).toNatClampNeg 0)) = d0 then 1 else 0)
theorem own_us_ix1 (us : List Int32) (h3 : us.length ≤ 3) (h : ¬ (Int32.ofNat us.length) < (1 : Int32)) {i : Nat} (hi : i < 1) : i < us.length := by
  rcases own_five us.length (by omega) with e | e | e | e | e <;> rw [e] at h ⊢ <;> first | omega | exact absurd h (by decide)
def Q10_1 (Z : State) (a0 : Addr) (a1 : Addr) (us : List Int32) (d0 : Int32) (cs : Int32) (gf : Value) (h0 : Heap) (n0 : Nat) (v : Option Value) (h : Heap) (L : List Loc) : Prop := v = some (.int (own_sw1 us d0)) ∧ Fr n0 L ∧ h = h0
set_option maxRecDepth 65536 in
set_option maxHeartbeats 40000000 in
theorem rm10_1 (l : Launch) (Z : State) (ag : Array Value) (hw : ∀ d ∈ tables_1, d.before ag Z = true) (ws : List Jvm.Cond) (a0 : Addr) (a1 : Addr) (us : List Int32) (d0 : Int32) (cs : Int32) (gf : Value) (h0 : Heap) (n0 : Nat) (Z0 : n0 ≤ h0.size) (T_ : own_str Z h0 a0 us) (L_ : own_str Z h0 a1 [d0]) (hus : us.length ≤ 3) (O_ : Old Z n0 h0) (S_cs : Sta Z Z.heap "java/lang/String" "COMPACT_STRINGS" "Z" (.int cs)) (hcs : ¬ cs = (0 : Int32)) (S_gf : Sta Z Z.heap "jdk/internal/util/Preconditions" "SIOOBE_FORMATTER" "Ljava/util/function/BiFunction;" gf) (rv_gf : gf.isRef = true) (S_ad : Sta Z Z.heap "java/lang/StringUTF16" "$assertionsDisabled" "Z" (.int (1 : Int32))) (S_hi : Sta Z Z.heap "java/lang/StringUTF16" "HI_BYTE_SHIFT" "I" (.int (0 : Int32))) (S_lo : Sta Z Z.heap "java/lang/StringUTF16" "LO_BYTE_SHIFT" "I" (.int (8 : Int32))) :
    MetFree l (⟨"com/example/tenpoint/tenpoint/AsciiCase", "startsWith", "(Ljava/lang/String;Ljava/lang/String;)Z"⟩ : MethodName) (head1 (Jvm.Cond.code (⟨"com/example/tenpoint/tenpoint/AsciiCase", "startsWith", "(Ljava/lang/String;Ljava/lang/String;)Z"⟩ : MethodName) prog_2_method_3_code 3 (some .boolean) :: ws) ({ frames := 6, cells := 0, slots := 0, locals := 84 } : Room)) (fun a U => a = #[(.ref a0), (.ref a1)] ∧ Z.Warmed39 U.vm ∧ U.heap = h0) (fun _ _ _ _ _ => True) (fun _ U o U' => ∃ v L, o = .returned v ∧ Q10_1 Z a0 a1 us d0 cs gf h0 n0 v U'.heap L ∧ FrameEnd U o U' L ({ frames := 6, cells := 0, slots := 0, locals := 84 } : Room).cells ({ frames := 6, cells := 0, slots := 0, locals := 84 } : Room).slots) := by
  refine MetFree.of_bodySF (plainFor_of_name pn_0) hisR ?_
  intro p e s m args below meth c s₁ Bd hml0 hP hK
  obtain ⟨rfl, hZ, hh⟩ := hP
  have hx := Bd.exec
  have hby := Bd.bytes
  have hml : c.maxLocals = 3 := hml0
  have hown : s.vm.findClass "com/example/tenpoint/tenpoint/AsciiCase" = some m.cls := findClass_of_methodNamed Bd.named
  have hnm := (name_of_methodNamed Bd.named Bd.method).1
  have X0 : Stand p l e ({ frames := 6, cells := 0, slots := 0, locals := 84 } : Room) s m #[(.ref a0), (.ref a1)] below meth c s₁ [] 0 0 := Stand.of_body Bd
  have e0 : s₁.heap = h0 := by rw [← hh, Bd.state]; rfl
  have N0 := Fr.nil n0
  have pre0 : ∀ t, Steps p.tables e below (s₁.setTop (mkF m 0 #[.val (.ref a0), .val (.ref a1), .unset] [])) t → Steps p.tables e below (s₁.setTop (entryFrame m #[(.ref a0), (.ref a1)] 3)) t := fun t k => castTop (ef_10 m a0 a1) k
  obtain ⟨cq707, kq707, q707a, q707b, q707c⟩ := isOf hZ e0 T_.1
  obtain ⟨_, _, ⟨T707, L707, k707, n707⟩, -, X707, ⟨Lc707, hQ707, l707, y707, z707⟩, st707⟩ := X0.virtualBack hx (y := (⟨"java/lang/String", "length", "()I"⟩ : MethodName)) (z := (⟨"java/lang/String", "length", "()I"⟩ : MethodName)) hown (mvT hZ (hw _ (List.mem_of_getElem? (i := 47) rfl))) (mvT hZ (hw _ (List.mem_of_getElem? (i := 48) rfl))) (notFace_of_selects (args := #[]) (mvT hZ (hw _ (List.mem_of_getElem? (i := 50) rfl)))) (mvT hZ (hw _ (List.mem_of_getElem? (i := 50) rfl))) (mvT hZ (hw _ (List.mem_of_getElem? (i := 49) rfl))) (by decide) (backOf (W := 0) (rm11 l Z ag hw [] a0 us cs h0 n0 Z0 T_ O_ S_cs hcs) hZ (hw _ (List.mem_of_getElem? (i := 51) rfl)) (hw _ (List.mem_of_getElem? (i := 12) rfl)) (by decide) (by decide)) q707a q707c (g := (mkF m 1 #[.val (.ref a0), .val (.ref a1), .unset] [(.ref a0)])) rfl (by rw [hml]; rfl) (Steps.refl _) (argsL := []) (rest := []) (lenOf pd_1 rfl) rfl (by show 2 * 0 + _ ≤ _; exact Nat.le_of_eq rfl) (hb hby d10_1) (fun _ _ => ⟨rfl, e0, (by decide : 0 + 0 ≤ _), (by decide : 0 + 0 ≤ _)⟩)
  dsimp only [Pt.U, Pt.locs, Pt.cells, Pt.slots] at X707 l707 y707 z707 st707 hQ707
  subst l707 y707 z707
  obtain ⟨rfl, N707q, e707⟩ := hQ707
  have N707 := Fr.app N0 N707q
  obtain ⟨cq708, kq708, q708a, q708b, q708c⟩ := isOf hZ e707 L_.1
  obtain ⟨_, _, ⟨T708, L708, k708, n708⟩, -, X708, ⟨Lc708, hQ708, l708, y708, z708⟩, st708⟩ := X707.virtualBack hx (y := (⟨"java/lang/String", "length", "()I"⟩ : MethodName)) (z := (⟨"java/lang/String", "length", "()I"⟩ : MethodName)) hown (mvT hZ (hw _ (List.mem_of_getElem? (i := 47) rfl))) (mvT hZ (hw _ (List.mem_of_getElem? (i := 48) rfl))) (notFace_of_selects (args := #[]) (mvT hZ (hw _ (List.mem_of_getElem? (i := 50) rfl)))) (mvT hZ (hw _ (List.mem_of_getElem? (i := 50) rfl))) (mvT hZ (hw _ (List.mem_of_getElem? (i := 49) rfl))) (by decide) (backOf (W := 1) (rm11 l Z ag hw [] a1 [d0] cs h0 n0 Z0 L_ O_ S_cs hcs) hZ (hw _ (List.mem_of_getElem? (i := 51) rfl)) (hw _ (List.mem_of_getElem? (i := 12) rfl)) (by decide) (by decide)) q708a q708c (g := (mkF m 5 #[.val (.ref a0), .val (.ref a1), .unset] [(.ref a1), (.int (Int32.ofNat us.length))])) rfl (by rw [hml]; rfl) (Steps.refl _) (argsL := []) (rest := [(.int (Int32.ofNat us.length))]) (lenOf pd_1 rfl) rfl (by show 2 * 0 + _ ≤ _; exact Nat.le_of_eq rfl) (hb hby d10_5) (fun _ _ => ⟨rfl, e707, (by decide : 0 + 0 ≤ _), (by decide : 0 + 0 ≤ _)⟩)
  dsimp only [Pt.U, Pt.locs, Pt.cells, Pt.slots] at X708 l708 y708 z708 st708 hQ708
  subst l708 y708 z708
  obtain ⟨rfl, N708q, e708⟩ := hQ708
  have N708 := Fr.app N707 N708q
  have cp710 : ∀ target, own_S p e below T708 (mkF m 8 #[.val (.ref a0), .val (.ref a1), .unset] [.int 1, (.int (Int32.ofNat us.length))]) target → own_S p e below s₁ (mkF m 0 #[.val (.ref a0), .val (.ref a1), .unset] []) target := by
    intro target kt
    show own_S p e below s₁ (mkF m 0 #[.val (.ref a0), .val (.ref a1), .unset] []) _
    refine XS.aloadN X0.here hx rfl (hb hby d10_0) rfl rfl ?_
    show own_S p e below s₁ (mkF m 1 #[.val (.ref a0), .val (.ref a1), .unset] [(.ref a0)]) _
    refine st707.trans ?_
    show own_S p e below T707 (mkF m 4 #[.val (.ref a0), .val (.ref a1), .unset] [(.int (Int32.ofNat us.length))]) _
    refine XS.aloadN X707.here hx rfl (hb hby d10_4) rfl rfl ?_
    show own_S p e below T707 (mkF m 5 #[.val (.ref a0), .val (.ref a1), .unset] [(.ref a1), (.int (Int32.ofNat us.length))]) _
    refine st708.trans ?_
    exact kt
  by_cases hc709 : (Int32.ofNat us.length) < (1 : Int32)
  · obtain ⟨fs, hr, hrun, hended, hW, hsame⟩ := X708.leave (v := some (.int (0 : Int32))) (fun h => by rw [Bd.returns] at h; cases h)
    refine ⟨_, _, pre0 _ ?_, hrun, hended, _, _, rfl, ?_, ⟨_, rfl⟩, hW, hsame.mono (by decide) (by decide)⟩
    · show own_S p e below s₁ (mkF m 0 #[.val (.ref a0), .val (.ref a1), .unset] []) _
      refine cp710 _ ?_
      show own_S p e below T708 (mkF m 8 #[.val (.ref a0), .val (.ref a1), .unset] [.int 1, (.int (Int32.ofNat us.length))]) _
      refine XS.icmpNo X708.here hx rfl (hb hby d10_8) rfl (tlt hc709).2.1 ?_
      show own_S p e below T708 (mkF m 11 #[.val (.ref a0), .val (.ref a1), .unset] []) _
      refine XS.iconst X708.here hx rfl (hb hby d10_11) ?_
      show own_S p e below T708 (mkF m 12 #[.val (.ref a0), .val (.ref a1), .unset] [.int 0]) _
      exact retN X708 hx (t := .boolean) Bd.returns (by simp) (hb hby d10_12) hr
    · show Q10_1 Z a0 a1 us d0 cs gf h0 n0 _ T708.heap _
      rw [e708]
      exact ⟨congrArg (fun z => some (Value.int z)) (show _ = own_sw1 us d0 from by unfold own_sw1; rw [if_pos hc709]), N708, rfl⟩
  · obtain ⟨cq711, kq711, q711a, q711b, q711c⟩ := isOf hZ e708 L_.1
    obtain ⟨_, _, ⟨T711, L711, k711, n711⟩, -, X711, ⟨Lc711, hQ711, l711, y711, z711⟩, st711⟩ := X708.virtualBack hx (y := (⟨"java/lang/String", "length", "()I"⟩ : MethodName)) (z := (⟨"java/lang/String", "length", "()I"⟩ : MethodName)) hown (mvT hZ (hw _ (List.mem_of_getElem? (i := 47) rfl))) (mvT hZ (hw _ (List.mem_of_getElem? (i := 48) rfl))) (notFace_of_selects (args := #[]) (mvT hZ (hw _ (List.mem_of_getElem? (i := 50) rfl)))) (mvT hZ (hw _ (List.mem_of_getElem? (i := 50) rfl))) (mvT hZ (hw _ (List.mem_of_getElem? (i := 49) rfl))) (by decide) (backOf (W := 1) (rm11 l Z ag hw [] a1 [d0] cs h0 n0 Z0 L_ O_ S_cs hcs) hZ (hw _ (List.mem_of_getElem? (i := 51) rfl)) (hw _ (List.mem_of_getElem? (i := 12) rfl)) (by decide) (by decide)) q711a q711c (g := (mkF m 17 #[.val (.ref a0), .val (.ref a1), .val (.int 0)] [(.ref a1), .int 0])) rfl (by rw [hml]; rfl) (Steps.refl _) (argsL := []) (rest := [(.int (0 : Int32))]) (lenOf pd_1 rfl) rfl (by show 2 * 0 + _ ≤ _; exact Nat.le_of_eq rfl) (hb hby d10_17) (fun _ _ => ⟨rfl, e708, (by decide : 0 + 0 ≤ _), (by decide : 0 + 0 ≤ _)⟩)
    dsimp only [Pt.U, Pt.locs, Pt.cells, Pt.slots] at X711 l711 y711 z711 st711 hQ711
    subst l711 y711 z711
    obtain ⟨rfl, N711q, e711⟩ := hQ711
    have N711 := Fr.app N708 N711q
    obtain ⟨cq712, kq712, q712a, q712b, q712c⟩ := isOf hZ e711 T_.1
    obtain ⟨_, _, ⟨T712, L712, k712, n712⟩, -, X712, ⟨Lc712, hQ712, l712, y712, z712⟩, st712⟩ := X711.virtualBack hx (y := (⟨"java/lang/String", "charAt", "(I)C"⟩ : MethodName)) (z := (⟨"java/lang/String", "charAt", "(I)C"⟩ : MethodName)) hown (mvT hZ (hw _ (List.mem_of_getElem? (i := 79) rfl))) (mvT hZ (hw _ (List.mem_of_getElem? (i := 80) rfl))) (notFace_of_selects (args := #[]) (mvT hZ (hw _ (List.mem_of_getElem? (i := 82) rfl)))) (mvT hZ (hw _ (List.mem_of_getElem? (i := 82) rfl))) (mvT hZ (hw _ (List.mem_of_getElem? (i := 81) rfl))) (by decide) (backOf (W := 0) (rm19 l Z ag hw [] a0 (0 : Int32) us cs gf h0 n0 Z0 T_ (by decide) (own_us_ix1 us hus hc709 (by decide)) O_ S_cs hcs S_gf rv_gf S_ad S_hi S_lo) hZ (hw _ (List.mem_of_getElem? (i := 83) rfl)) (hw _ (List.mem_of_getElem? (i := 12) rfl)) (by decide) (by decide)) q712a q712c (g := (mkF m 25 #[.val (.ref a0), .val (.ref a1), .val (.int 0)] [.int 0, (.ref a0)])) rfl (by rw [hml]; rfl) (Steps.refl _) (argsL := [(.int (0 : Int32))]) (rest := []) (lenOf pd_7 rfl) rfl (by show 2 * 0 + _ ≤ _; exact Nat.le_of_eq rfl) (hb hby d10_25) (fun _ _ => ⟨rfl, e711, (by decide : 0 + 0 ≤ _), (by decide : 0 + 0 ≤ _)⟩)
    dsimp only [Pt.U, Pt.locs, Pt.cells, Pt.slots] at X712 l712 y712 z712 st712 hQ712
    subst l712 y712 z712
    obtain ⟨rfl, N712q, e712⟩ := hQ712
    have N712 := Fr.app N711 N712q
    obtain ⟨_, _, ⟨T713, L713, k713, n713⟩, -, X713, ⟨Lc713, hQ713, l713, y713, z713⟩, st713⟩ := Jvm.LawKit.callS X712 hx (y := (⟨"com/example/tenpoint/tenpoint/AsciiCase", "fold", "(C)C"⟩ : MethodName)) hown (mvT hZ (hw _ (List.mem_of_getElem? (i := 106) rfl))) (mvT hZ (hw _ (List.mem_of_getElem? (i := 107) rfl))) (mvT hZ (hw _ (List.mem_of_getElem? (i := 45) rfl))) (mvT hZ (hw _ (List.mem_of_getElem? (i := 108) rfl))) (by decide) (backOf (W := 0) (rm26 l Z ag hw [] (us.getD ((0 : Int32)).toNatClampNeg 0)  h0 n0 Z0 ) hZ (hw _ (List.mem_of_getElem? (i := 108) rfl)) (hw _ (List.mem_of_getElem? (i := 45) rfl)) (by decide) (by decide)) (g := (mkF m 28 #[.val (.ref a0), .val (.ref a1), .val (.int 0)] [(.int (us.getD ((0 : Int32)).toNatClampNeg 0))])) rfl (by rw [hml]; rfl) (argsL := [(.int (us.getD ((0 : Int32)).toNatClampNeg 0))]) (rest := []) (lenOf pd_4 rfl) rfl (by show 2 * 0 + _ ≤ _; exact Nat.le_of_eq rfl) (hb hby d10_28) (fun _ _ => ⟨rfl, e712, (by decide : 0 + 0 ≤ _), (by decide : 0 + 0 ≤ _)⟩)
    dsimp only [Pt.U, Pt.locs, Pt.cells, Pt.slots] at X713 l713 y713 z713 st713 hQ713
    subst l713 y713 z713
    obtain ⟨rfl, N713q, e713⟩ := hQ713
    have N713 := Fr.app N712 N713q
    have cp714 : ∀ target, own_S p e below T713 (mkF m 33 #[.val (.ref a0), .val (.ref a1), .val (.int 0)] [.int 0, (.ref a1), (.int (own_fold (us.getD ((0 : Int32)).toNatClampNeg 0)))]) target → own_S p e below s₁ (mkF m 0 #[.val (.ref a0), .val (.ref a1), .unset] []) target := by
      intro target kt
      show own_S p e below s₁ (mkF m 0 #[.val (.ref a0), .val (.ref a1), .unset] []) _
      refine cp710 _ ?_
      show own_S p e below T708 (mkF m 8 #[.val (.ref a0), .val (.ref a1), .unset] [.int 1, (.int (Int32.ofNat us.length))]) _
      refine XS.icmpYes X708.here hx rfl (pc0 := 8) (pc' := 13) rfl (hb hby d10_8) rfl (flt hc709).2.1 (by decide) (by decide) ?_
      show own_S p e below T708 (mkF m 13 #[.val (.ref a0), .val (.ref a1), .unset] []) _
      refine XS.iconst X708.here hx rfl (hb hby d10_13) ?_
      show own_S p e below T708 (mkF m 14 #[.val (.ref a0), .val (.ref a1), .unset] [.int 0]) _
      refine XS.istoreN X708.here hx rfl (hb hby d10_14) rfl (l' := #[.val (.ref a0), .val (.ref a1), .val (.int 0)]) rfl ?_
      show own_S p e below T708 (mkF m 15 #[.val (.ref a0), .val (.ref a1), .val (.int 0)] []) _
      refine XS.iloadN X708.here hx rfl (hb hby d10_15) rfl ?_
      show own_S p e below T708 (mkF m 16 #[.val (.ref a0), .val (.ref a1), .val (.int 0)] [.int 0]) _
      refine XS.aloadN X708.here hx rfl (hb hby d10_16) rfl rfl ?_
      show own_S p e below T708 (mkF m 17 #[.val (.ref a0), .val (.ref a1), .val (.int 0)] [(.ref a1), .int 0]) _
      refine st711.trans ?_
      show own_S p e below T711 (mkF m 20 #[.val (.ref a0), .val (.ref a1), .val (.int 0)] [.int 1, .int 0]) _
      refine XS.icmpNo X711.here hx rfl (hb hby d10_20) rfl (tlt (by decide : (0 : Int32) < (1 : Int32))).2.1 ?_
      show own_S p e below T711 (mkF m 23 #[.val (.ref a0), .val (.ref a1), .val (.int 0)] []) _
      refine XS.aloadN X711.here hx rfl (hb hby d10_23) rfl rfl ?_
      show own_S p e below T711 (mkF m 24 #[.val (.ref a0), .val (.ref a1), .val (.int 0)] [(.ref a0)]) _
      refine XS.iloadN X711.here hx rfl (hb hby d10_24) rfl ?_
      show own_S p e below T711 (mkF m 25 #[.val (.ref a0), .val (.ref a1), .val (.int 0)] [.int 0, (.ref a0)]) _
      refine st712.trans ?_
      show own_S p e below T712 (mkF m 28 #[.val (.ref a0), .val (.ref a1), .val (.int 0)] [(.int (us.getD ((0 : Int32)).toNatClampNeg 0))]) _
      refine st713 _ ?_
      show own_S p e below T713 (mkF m 31 #[.val (.ref a0), .val (.ref a1), .val (.int 0)] [(.int (own_fold (us.getD ((0 : Int32)).toNatClampNeg 0)))]) _
      refine XS.aloadN X713.here hx rfl (hb hby d10_31) rfl rfl ?_
      show own_S p e below T713 (mkF m 32 #[.val (.ref a0), .val (.ref a1), .val (.int 0)] [(.ref a1), (.int (own_fold (us.getD ((0 : Int32)).toNatClampNeg 0)))]) _
      refine XS.iloadN X713.here hx rfl (hb hby d10_32) rfl ?_
      exact kt
    obtain ⟨cq715, kq715, q715a, q715b, q715c⟩ := isOf hZ e713 L_.1
    obtain ⟨_, _, ⟨T715, L715, k715, n715⟩, -, X715, ⟨Lc715, hQ715, l715, y715, z715⟩, st715⟩ := X713.virtualBack hx (y := (⟨"java/lang/String", "charAt", "(I)C"⟩ : MethodName)) (z := (⟨"java/lang/String", "charAt", "(I)C"⟩ : MethodName)) hown (mvT hZ (hw _ (List.mem_of_getElem? (i := 79) rfl))) (mvT hZ (hw _ (List.mem_of_getElem? (i := 80) rfl))) (notFace_of_selects (args := #[]) (mvT hZ (hw _ (List.mem_of_getElem? (i := 82) rfl)))) (mvT hZ (hw _ (List.mem_of_getElem? (i := 82) rfl))) (mvT hZ (hw _ (List.mem_of_getElem? (i := 81) rfl))) (by decide) (backOf (W := 1) (rm19 l Z ag hw [] a1 (0 : Int32) [d0] cs gf h0 n0 Z0 L_ (by decide) (Nat.le_of_ble_eq_true rfl) O_ S_cs hcs S_gf rv_gf S_ad S_hi S_lo) hZ (hw _ (List.mem_of_getElem? (i := 83) rfl)) (hw _ (List.mem_of_getElem? (i := 12) rfl)) (by decide) (by decide)) q715a q715c (g := (mkF m 33 #[.val (.ref a0), .val (.ref a1), .val (.int 0)] [.int 0, (.ref a1), (.int (own_fold (us.getD ((0 : Int32)).toNatClampNeg 0)))])) rfl (by rw [hml]; rfl) (Steps.refl _) (argsL := [(.int (0 : Int32))]) (rest := [(.int (own_fold (us.getD ((0 : Int32)).toNatClampNeg 0)))]) (lenOf pd_7 rfl) rfl (by show 2 * 0 + _ ≤ _; exact Nat.le_of_eq rfl) (hb hby d10_33) (fun _ _ => ⟨rfl, e713, (by decide : 0 + 0 ≤ _), (by decide : 0 + 0 ≤ _)⟩)
    dsimp only [Pt.U, Pt.locs, Pt.cells, Pt.slots] at X715 l715 y715 z715 st715 hQ715
    subst l715 y715 z715
    obtain ⟨rfl, N715q, e715⟩ := hQ715
    have N715 := Fr.app N713 N715q
    by_cases hc716 : (own_fold (us.getD ((0 : Int32)).toNatClampNeg 0)) = d0
    · obtain ⟨cq717, kq717, q717a, q717b, q717c⟩ := isOf hZ e715 L_.1
      obtain ⟨_, _, ⟨T717, L717, k717, n717⟩, -, X717, ⟨Lc717, hQ717, l717, y717, z717⟩, st717⟩ := X715.virtualBack hx (y := (⟨"java/lang/String", "length", "()I"⟩ : MethodName)) (z := (⟨"java/lang/String", "length", "()I"⟩ : MethodName)) hown (mvT hZ (hw _ (List.mem_of_getElem? (i := 47) rfl))) (mvT hZ (hw _ (List.mem_of_getElem? (i := 48) rfl))) (notFace_of_selects (args := #[]) (mvT hZ (hw _ (List.mem_of_getElem? (i := 50) rfl)))) (mvT hZ (hw _ (List.mem_of_getElem? (i := 50) rfl))) (mvT hZ (hw _ (List.mem_of_getElem? (i := 49) rfl))) (by decide) (backOf (W := 1) (rm11 l Z ag hw [] a1 [d0] cs h0 n0 Z0 L_ O_ S_cs hcs) hZ (hw _ (List.mem_of_getElem? (i := 51) rfl)) (hw _ (List.mem_of_getElem? (i := 12) rfl)) (by decide) (by decide)) q717a q717c (g := (mkF m 17 #[.val (.ref a0), .val (.ref a1), .val (.int 1)] [(.ref a1), .int 1])) rfl (by rw [hml]; rfl) (Steps.refl _) (argsL := []) (rest := [(.int (1 : Int32))]) (lenOf pd_1 rfl) rfl (by show 2 * 0 + _ ≤ _; exact Nat.le_of_eq rfl) (hb hby d10_17) (fun _ _ => ⟨rfl, e715, (by decide : 0 + 0 ≤ _), (by decide : 0 + 0 ≤ _)⟩)
      dsimp only [Pt.U, Pt.locs, Pt.cells, Pt.slots] at X717 l717 y717 z717 st717 hQ717
      subst l717 y717 z717
      obtain ⟨rfl, N717q, e717⟩ := hQ717
      have N717 := Fr.app N715 N717q
      obtain ⟨fs, hr, hrun, hended, hW, hsame⟩ := X717.leave (v := some (.int (1 : Int32))) (fun h => by rw [Bd.returns] at h; cases h)
      refine ⟨_, _, pre0 _ ?_, hrun, hended, _, _, rfl, ?_, ⟨_, rfl⟩, hW, hsame.mono (by decide) (by decide)⟩
      · show own_S p e below s₁ (mkF m 0 #[.val (.ref a0), .val (.ref a1), .unset] []) _
        refine cp714 _ ?_
        show own_S p e below T713 (mkF m 33 #[.val (.ref a0), .val (.ref a1), .val (.int 0)] [.int 0, (.ref a1), (.int (own_fold (us.getD ((0 : Int32)).toNatClampNeg 0)))]) _
        refine st715.trans ?_
        show own_S p e below T715 (mkF m 36 #[.val (.ref a0), .val (.ref a1), .val (.int 0)] [(.int d0), (.int (own_fold (us.getD ((0 : Int32)).toNatClampNeg 0)))]) _
        refine XS.icmpYes X715.here hx rfl (pc0 := 36) (pc' := 41) rfl (hb hby d10_36) rfl (teq hc716).1 (by decide) (by decide) ?_
        show own_S p e below T715 (mkF m 41 #[.val (.ref a0), .val (.ref a1), .val (.int 0)] []) _
        refine XS.iinc X715.here hx rfl (hb hby d10_41) rfl (l' := #[.val (.ref a0), .val (.ref a1), .val (.int 1)]) rfl ?_
        show own_S p e below T715 (mkF m 44 #[.val (.ref a0), .val (.ref a1), .val (.int 1)] []) _
        refine XS.goto X715.here hx rfl (pc0 := 44) (pc' := 15) rfl (hb hby d10_44) (by decide) (by decide) ?_
        show own_S p e below T715 (mkF m 15 #[.val (.ref a0), .val (.ref a1), .val (.int 1)] []) _
        refine XS.iloadN X715.here hx rfl (hb hby d10_15) rfl ?_
        show own_S p e below T715 (mkF m 16 #[.val (.ref a0), .val (.ref a1), .val (.int 1)] [.int 1]) _
        refine XS.aloadN X715.here hx rfl (hb hby d10_16) rfl rfl ?_
        show own_S p e below T715 (mkF m 17 #[.val (.ref a0), .val (.ref a1), .val (.int 1)] [(.ref a1), .int 1]) _
        refine st717.trans ?_
        show own_S p e below T717 (mkF m 20 #[.val (.ref a0), .val (.ref a1), .val (.int 1)] [.int 1, .int 1]) _
        refine XS.icmpYes X717.here hx rfl (pc0 := 20) (pc' := 47) rfl (hb hby d10_20) rfl (flt (by decide : ¬ ((1 : Int32) < (1 : Int32)))).2.1 (by decide) (by decide) ?_
        show own_S p e below T717 (mkF m 47 #[.val (.ref a0), .val (.ref a1), .val (.int 1)] []) _
        refine XS.iconst X717.here hx rfl (hb hby d10_47) ?_
        show own_S p e below T717 (mkF m 48 #[.val (.ref a0), .val (.ref a1), .val (.int 1)] [.int 1]) _
        exact retN X717 hx (t := .boolean) Bd.returns (by simp) (hb hby d10_48) hr
      · show Q10_1 Z a0 a1 us d0 cs gf h0 n0 _ T717.heap _
        rw [e717]
        exact ⟨congrArg (fun z => some (Value.int z)) (show _ = own_sw1 us d0 from by unfold own_sw1; rw [if_neg hc709, if_pos hc716]), N717, rfl⟩
    · obtain ⟨fs, hr, hrun, hended, hW, hsame⟩ := X715.leave (v := some (.int (0 : Int32))) (fun h => by rw [Bd.returns] at h; cases h)
      refine ⟨_, _, pre0 _ ?_, hrun, hended, _, _, rfl, ?_, ⟨_, rfl⟩, hW, hsame.mono (by decide) (by decide)⟩
      · show own_S p e below s₁ (mkF m 0 #[.val (.ref a0), .val (.ref a1), .unset] []) _
        refine cp714 _ ?_
        show own_S p e below T713 (mkF m 33 #[.val (.ref a0), .val (.ref a1), .val (.int 0)] [.int 0, (.ref a1), (.int (own_fold (us.getD ((0 : Int32)).toNatClampNeg 0)))]) _
        refine st715.trans ?_
        show own_S p e below T715 (mkF m 36 #[.val (.ref a0), .val (.ref a1), .val (.int 0)] [(.int d0), (.int (own_fold (us.getD ((0 : Int32)).toNatClampNeg 0)))]) _
        refine XS.icmpNo X715.here hx rfl (hb hby d10_36) rfl (feq hc716).1 ?_
        show own_S p e below T715 (mkF m 39 #[.val (.ref a0), .val (.ref a1), .val (.int 0)] []) _
        refine XS.iconst X715.here hx rfl (hb hby d10_39) ?_
        show own_S p e below T715 (mkF m 40 #[.val (.ref a0), .val (.ref a1), .val (.int 0)] [.int 0]) _
        exact retN X715 hx (t := .boolean) Bd.returns (by simp) (hb hby d10_40) hr
      · show Q10_1 Z a0 a1 us d0 cs gf h0 n0 _ T715.heap _
        rw [e715]
        exact ⟨congrArg (fun z => some (Value.int z)) (show _ = own_sw1 us d0 from by unfold own_sw1; rw [if_neg hc709, if_neg hc716]), N715, rfl⟩
def own_sw0 (us : List Int32)  : Int32 := if (Int32.ofNat us.length) < (0 : Int32) then 0 else 1
theorem own_us_ix0 (us : List Int32) (h3 : us.length ≤ 3) (h : ¬ (Int32.ofNat us.length) < (0 : Int32)) {i : Nat} (hi : i < 0) : i < us.length := absurd hi (Nat.not_lt_zero i)
def Q10_0 (Z : State) (a0 : Addr) (a1 : Addr) (us : List Int32) (cs : Int32) (gf : Value) (h0 : Heap) (n0 : Nat) (v : Option Value) (h : Heap) (L : List Loc) : Prop := v = some (.int (own_sw0 us )) ∧ Fr n0 L ∧ h = h0
set_option maxRecDepth 65536 in
set_option maxHeartbeats 40000000 in
theorem rm10_0 (l : Launch) (Z : State) (ag : Array Value) (hw : ∀ d ∈ tables_1, d.before ag Z = true) (ws : List Jvm.Cond) (a0 : Addr) (a1 : Addr) (us : List Int32) (cs : Int32) (gf : Value) (h0 : Heap) (n0 : Nat) (Z0 : n0 ≤ h0.size) (T_ : own_str Z h0 a0 us) (L_ : own_str Z h0 a1 []) (hus : us.length ≤ 3) (O_ : Old Z n0 h0) (S_cs : Sta Z Z.heap "java/lang/String" "COMPACT_STRINGS" "Z" (.int cs)) (hcs : ¬ cs = (0 : Int32)) (S_gf : Sta Z Z.heap "jdk/internal/util/Preconditions" "SIOOBE_FORMATTER" "Ljava/util/function/BiFunction;" gf) (rv_gf : gf.isRef = true) (S_ad : Sta Z Z.heap "java/lang/StringUTF16" "$assertionsDisabled" "Z" (.int (1 : Int32))) (S_hi : Sta Z Z.heap "java/lang/StringUTF16" "HI_BYTE_SHIFT" "I" (.int (0 : Int32))) (S_lo : Sta Z Z.heap "java/lang/StringUTF16" "LO_BYTE_SHIFT" "I" (.int (8 : Int32))) :
    MetFree l (⟨"com/example/tenpoint/tenpoint/AsciiCase", "startsWith", "(Ljava/lang/String;Ljava/lang/String;)Z"⟩ : MethodName) (head1 (Jvm.Cond.code (⟨"com/example/tenpoint/tenpoint/AsciiCase", "startsWith", "(Ljava/lang/String;Ljava/lang/String;)Z"⟩ : MethodName) prog_2_method_3_code 3 (some .boolean) :: ws) ({ frames := 6, cells := 0, slots := 0, locals := 84 } : Room)) (fun a U => a = #[(.ref a0), (.ref a1)] ∧ Z.Warmed39 U.vm ∧ U.heap = h0) (fun _ _ _ _ _ => True) (fun _ U o U' => ∃ v L, o = .returned v ∧ Q10_0 Z a0 a1 us cs gf h0 n0 v U'.heap L ∧ FrameEnd U o U' L ({ frames := 6, cells := 0, slots := 0, locals := 84 } : Room).cells ({ frames := 6, cells := 0, slots := 0, locals := 84 } : Room).slots) := by
  refine MetFree.of_bodySF (plainFor_of_name pn_0) hisR ?_
  intro p e s m args below meth c s₁ Bd hml0 hP hK
  obtain ⟨rfl, hZ, hh⟩ := hP
  have hx := Bd.exec
  have hby := Bd.bytes
  have hml : c.maxLocals = 3 := hml0
  have hown : s.vm.findClass "com/example/tenpoint/tenpoint/AsciiCase" = some m.cls := findClass_of_methodNamed Bd.named
  have hnm := (name_of_methodNamed Bd.named Bd.method).1
  have X0 : Stand p l e ({ frames := 6, cells := 0, slots := 0, locals := 84 } : Room) s m #[(.ref a0), (.ref a1)] below meth c s₁ [] 0 0 := Stand.of_body Bd
  have e0 : s₁.heap = h0 := by rw [← hh, Bd.state]; rfl
  have N0 := Fr.nil n0
  have pre0 : ∀ t, Steps p.tables e below (s₁.setTop (mkF m 0 #[.val (.ref a0), .val (.ref a1), .unset] [])) t → Steps p.tables e below (s₁.setTop (entryFrame m #[(.ref a0), (.ref a1)] 3)) t := fun t k => castTop (ef_10 m a0 a1) k
  obtain ⟨cq718, kq718, q718a, q718b, q718c⟩ := isOf hZ e0 T_.1
  obtain ⟨_, _, ⟨T718, L718, k718, n718⟩, -, X718, ⟨Lc718, hQ718, l718, y718, z718⟩, st718⟩ := X0.virtualBack hx (y := (⟨"java/lang/String", "length", "()I"⟩ : MethodName)) (z := (⟨"java/lang/String", "length", "()I"⟩ : MethodName)) hown (mvT hZ (hw _ (List.mem_of_getElem? (i := 47) rfl))) (mvT hZ (hw _ (List.mem_of_getElem? (i := 48) rfl))) (notFace_of_selects (args := #[]) (mvT hZ (hw _ (List.mem_of_getElem? (i := 50) rfl)))) (mvT hZ (hw _ (List.mem_of_getElem? (i := 50) rfl))) (mvT hZ (hw _ (List.mem_of_getElem? (i := 49) rfl))) (by decide) (backOf (W := 0) (rm11 l Z ag hw [] a0 us cs h0 n0 Z0 T_ O_ S_cs hcs) hZ (hw _ (List.mem_of_getElem? (i := 51) rfl)) (hw _ (List.mem_of_getElem? (i := 12) rfl)) (by decide) (by decide)) q718a q718c (g := (mkF m 1 #[.val (.ref a0), .val (.ref a1), .unset] [(.ref a0)])) rfl (by rw [hml]; rfl) (Steps.refl _) (argsL := []) (rest := []) (lenOf pd_1 rfl) rfl (by show 2 * 0 + _ ≤ _; exact Nat.le_of_eq rfl) (hb hby d10_1) (fun _ _ => ⟨rfl, e0, (by decide : 0 + 0 ≤ _), (by decide : 0 + 0 ≤ _)⟩)
  dsimp only [Pt.U, Pt.locs, Pt.cells, Pt.slots] at X718 l718 y718 z718 st718 hQ718
  subst l718 y718 z718
  obtain ⟨rfl, N718q, e718⟩ := hQ718
  have N718 := Fr.app N0 N718q
  obtain ⟨cq719, kq719, q719a, q719b, q719c⟩ := isOf hZ e718 L_.1
  obtain ⟨_, _, ⟨T719, L719, k719, n719⟩, -, X719, ⟨Lc719, hQ719, l719, y719, z719⟩, st719⟩ := X718.virtualBack hx (y := (⟨"java/lang/String", "length", "()I"⟩ : MethodName)) (z := (⟨"java/lang/String", "length", "()I"⟩ : MethodName)) hown (mvT hZ (hw _ (List.mem_of_getElem? (i := 47) rfl))) (mvT hZ (hw _ (List.mem_of_getElem? (i := 48) rfl))) (notFace_of_selects (args := #[]) (mvT hZ (hw _ (List.mem_of_getElem? (i := 50) rfl)))) (mvT hZ (hw _ (List.mem_of_getElem? (i := 50) rfl))) (mvT hZ (hw _ (List.mem_of_getElem? (i := 49) rfl))) (by decide) (backOf (W := 1) (rm11 l Z ag hw [] a1 [] cs h0 n0 Z0 L_ O_ S_cs hcs) hZ (hw _ (List.mem_of_getElem? (i := 51) rfl)) (hw _ (List.mem_of_getElem? (i := 12) rfl)) (by decide) (by decide)) q719a q719c (g := (mkF m 5 #[.val (.ref a0), .val (.ref a1), .unset] [(.ref a1), (.int (Int32.ofNat us.length))])) rfl (by rw [hml]; rfl) (Steps.refl _) (argsL := []) (rest := [(.int (Int32.ofNat us.length))]) (lenOf pd_1 rfl) rfl (by show 2 * 0 + _ ≤ _; exact Nat.le_of_eq rfl) (hb hby d10_5) (fun _ _ => ⟨rfl, e718, (by decide : 0 + 0 ≤ _), (by decide : 0 + 0 ≤ _)⟩)
  dsimp only [Pt.U, Pt.locs, Pt.cells, Pt.slots] at X719 l719 y719 z719 st719 hQ719
  subst l719 y719 z719
  obtain ⟨rfl, N719q, e719⟩ := hQ719
  have N719 := Fr.app N718 N719q
  have cp721 : ∀ target, own_S p e below T719 (mkF m 8 #[.val (.ref a0), .val (.ref a1), .unset] [.int 0, (.int (Int32.ofNat us.length))]) target → own_S p e below s₁ (mkF m 0 #[.val (.ref a0), .val (.ref a1), .unset] []) target := by
    intro target kt
    show own_S p e below s₁ (mkF m 0 #[.val (.ref a0), .val (.ref a1), .unset] []) _
    refine XS.aloadN X0.here hx rfl (hb hby d10_0) rfl rfl ?_
    show own_S p e below s₁ (mkF m 1 #[.val (.ref a0), .val (.ref a1), .unset] [(.ref a0)]) _
    refine st718.trans ?_
    show own_S p e below T718 (mkF m 4 #[.val (.ref a0), .val (.ref a1), .unset] [(.int (Int32.ofNat us.length))]) _
    refine XS.aloadN X718.here hx rfl (hb hby d10_4) rfl rfl ?_
    show own_S p e below T718 (mkF m 5 #[.val (.ref a0), .val (.ref a1), .unset] [(.ref a1), (.int (Int32.ofNat us.length))]) _
    refine st719.trans ?_
    exact kt
  by_cases hc720 : (Int32.ofNat us.length) < (0 : Int32)
  · obtain ⟨fs, hr, hrun, hended, hW, hsame⟩ := X719.leave (v := some (.int (0 : Int32))) (fun h => by rw [Bd.returns] at h; cases h)
    refine ⟨_, _, pre0 _ ?_, hrun, hended, _, _, rfl, ?_, ⟨_, rfl⟩, hW, hsame.mono (by decide) (by decide)⟩
    · show own_S p e below s₁ (mkF m 0 #[.val (.ref a0), .val (.ref a1), .unset] []) _
      refine cp721 _ ?_
      show own_S p e below T719 (mkF m 8 #[.val (.ref a0), .val (.ref a1), .unset] [.int 0, (.int (Int32.ofNat us.length))]) _
      refine XS.icmpNo X719.here hx rfl (hb hby d10_8) rfl (tlt hc720).2.1 ?_
      show own_S p e below T719 (mkF m 11 #[.val (.ref a0), .val (.ref a1), .unset] []) _
      refine XS.iconst X719.here hx rfl (hb hby d10_11) ?_
      show own_S p e below T719 (mkF m 12 #[.val (.ref a0), .val (.ref a1), .unset] [.int 0]) _
      exact retN X719 hx (t := .boolean) Bd.returns (by simp) (hb hby d10_12) hr
    · show Q10_0 Z a0 a1 us cs gf h0 n0 _ T719.heap _
      rw [e719]
      exact ⟨congrArg (fun z => some (Value.int z)) (show _ = own_sw0 us  from by unfold own_sw0; rw [if_pos hc720]), N719, rfl⟩
  · obtain ⟨cq722, kq722, q722a, q722b, q722c⟩ := isOf hZ e719 L_.1
    obtain ⟨_, _, ⟨T722, L722, k722, n722⟩, -, X722, ⟨Lc722, hQ722, l722, y722, z722⟩, st722⟩ := X719.virtualBack hx (y := (⟨"java/lang/String", "length", "()I"⟩ : MethodName)) (z := (⟨"java/lang/String", "length", "()I"⟩ : MethodName)) hown (mvT hZ (hw _ (List.mem_of_getElem? (i := 47) rfl))) (mvT hZ (hw _ (List.mem_of_getElem? (i := 48) rfl))) (notFace_of_selects (args := #[]) (mvT hZ (hw _ (List.mem_of_getElem? (i := 50) rfl)))) (mvT hZ (hw _ (List.mem_of_getElem? (i := 50) rfl))) (mvT hZ (hw _ (List.mem_of_getElem? (i := 49) rfl))) (by decide) (backOf (W := 1) (rm11 l Z ag hw [] a1 [] cs h0 n0 Z0 L_ O_ S_cs hcs) hZ (hw _ (List.mem_of_getElem? (i := 51) rfl)) (hw _ (List.mem_of_getElem? (i := 12) rfl)) (by decide) (by decide)) q722a q722c (g := (mkF m 17 #[.val (.ref a0), .val (.ref a1), .val (.int 0)] [(.ref a1), .int 0])) rfl (by rw [hml]; rfl) (Steps.refl _) (argsL := []) (rest := [(.int (0 : Int32))]) (lenOf pd_1 rfl) rfl (by show 2 * 0 + _ ≤ _; exact Nat.le_of_eq rfl) (hb hby d10_17) (fun _ _ => ⟨rfl, e719, (by decide : 0 + 0 ≤ _), (by decide : 0 + 0 ≤ _)⟩)
    dsimp only [Pt.U, Pt.locs, Pt.cells, Pt.slots] at X722 l722 y722 z722 st722 hQ722
    subst l722 y722 z722
    obtain ⟨rfl, N722q, e722⟩ := hQ722
    have N722 := Fr.app N719 N722q
    obtain ⟨fs, hr, hrun, hended, hW, hsame⟩ := X722.leave (v := some (.int (1 : Int32))) (fun h => by rw [Bd.returns] at h; cases h)
    refine ⟨_, _, pre0 _ ?_, hrun, hended, _, _, rfl, ?_, ⟨_, rfl⟩, hW, hsame.mono (by decide) (by decide)⟩
    · show own_S p e below s₁ (mkF m 0 #[.val (.ref a0), .val (.ref a1), .unset] []) _
      refine cp721 _ ?_
      show own_S p e below T719 (mkF m 8 #[.val (.ref a0), .val (.ref a1), .unset] [.int 0, (.int (Int32.ofNat us.length))]) _
      refine XS.icmpYes X719.here hx rfl (pc0 := 8) (pc' := 13) rfl (hb hby d10_8) rfl (flt hc720).2.1 (by decide) (by decide) ?_
      show own_S p e below T719 (mkF m 13 #[.val (.ref a0), .val (.ref a1), .unset] []) _
      refine XS.iconst X719.here hx rfl (hb hby d10_13) ?_
      show own_S p e below T719 (mkF m 14 #[.val (.ref a0), .val (.ref a1), .unset] [.int 0]) _
      refine XS.istoreN X719.here hx rfl (hb hby d10_14) rfl (l' := #[.val (.ref a0), .val (.ref a1), .val (.int 0)]) rfl ?_
      show own_S p e below T719 (mkF m 15 #[.val (.ref a0), .val (.ref a1), .val (.int 0)] []) _
      refine XS.iloadN X719.here hx rfl (hb hby d10_15) rfl ?_
      show own_S p e below T719 (mkF m 16 #[.val (.ref a0), .val (.ref a1), .val (.int 0)] [.int 0]) _
      refine XS.aloadN X719.here hx rfl (hb hby d10_16) rfl rfl ?_
      show own_S p e below T719 (mkF m 17 #[.val (.ref a0), .val (.ref a1), .val (.int 0)] [(.ref a1), .int 0]) _
      refine st722.trans ?_
      show own_S p e below T722 (mkF m 20 #[.val (.ref a0), .val (.ref a1), .val (.int 0)] [.int 0, .int 0]) _
      refine XS.icmpYes X722.here hx rfl (pc0 := 20) (pc' := 47) rfl (hb hby d10_20) rfl (flt (by decide : ¬ ((0 : Int32) < (0 : Int32)))).2.1 (by decide) (by decide) ?_
      show own_S p e below T722 (mkF m 47 #[.val (.ref a0), .val (.ref a1), .val (.int 0)] []) _
      refine XS.iconst X722.here hx rfl (hb hby d10_47) ?_
      show own_S p e below T722 (mkF m 48 #[.val (.ref a0), .val (.ref a1), .val (.int 0)] [.int 1]) _
      exact retN X722 hx (t := .boolean) Bd.returns (by simp) (hb hby d10_48) hr
    · show Q10_0 Z a0 a1 us cs gf h0 n0 _ T722.heap _
      rw [e722]
      exact ⟨congrArg (fun z => some (Value.int z)) (show _ = own_sw0 us  from by unfold own_sw0; rw [if_neg hc720]), N722, rfl⟩
theorem own_list_len (n a b c : Int32) : (own_list n a b c).length ≤ 3 := by unfold own_list; (repeat' split) <;> simp
def own_swg (us : List Int32) (n d0 d1 d2 : Int32) : Int32 := if n = (0 : Int32) then own_sw0 us else if n = (1 : Int32) then own_sw1 us (nar .char d0) else if n = (2 : Int32) then own_sw2 us (nar .char d0) (nar .char d1) else own_sw3 us (nar .char d0) (nar .char d1) (nar .char d2)
theorem own_swg_0 (us : List Int32) (d0 d1 d2 : Int32) : own_swg us (0 : Int32) d0 d1 d2 = own_sw0 us  := by unfold own_swg; rw [if_pos rfl]
theorem own_swg_1 (us : List Int32) (d0 d1 d2 : Int32) : own_swg us (1 : Int32) d0 d1 d2 = own_sw1 us (nar .char d0) := by unfold own_swg; rw [if_neg (by decide), if_pos rfl]
theorem own_swg_2 (us : List Int32) (d0 d1 d2 : Int32) : own_swg us (2 : Int32) d0 d1 d2 = own_sw2 us (nar .char d0) (nar .char d1) := by unfold own_swg; rw [if_neg (by decide), if_neg (by decide), if_pos rfl]
theorem own_swg_3 (us : List Int32) (d0 d1 d2 : Int32) : own_swg us (3 : Int32) d0 d1 d2 = own_sw3 us (nar .char d0) (nar .char d1) (nar .char d2) := by unfold own_swg; rw [if_neg (by decide), if_neg (by decide), if_neg (by decide)]
theorem own_ll4 (p5 : Int32) : ((own_ushr p5 (2 : Int32)) &&& (3 : Int32)) = 0 ∨ ((own_ushr p5 (2 : Int32)) &&& (3 : Int32)) = 1 ∨ ((own_ushr p5 (2 : Int32)) &&& (3 : Int32)) = 2 ∨ ((own_ushr p5 (2 : Int32)) &&& (3 : Int32)) = 3 := by
  have m := c_mask (own_ushr p5 (2 : Int32)) 3 2 (by decide) (by decide)
  simp only [← Int32.toInt_inj, show (0 : Int32).toInt = 0 from rfl, show (1 : Int32).toInt = 1 from rfl, show (2 : Int32).toInt = 2 from rfl, show (3 : Int32).toInt = 3 from rfl]; omega
theorem rm10 (l : Launch) (Z : State) (a0_ : Array Value) (hw : ∀ d ∈ tables_1, d.before a0_ Z = true) (ws : List Jvm.Cond) (a0 a1 : Addr) (us : List Int32) (n d0 d1 d2 : Int32) (cs : Int32) (gf : Value) (h0 : Heap) (n0 : Nat) (Z0 : n0 ≤ h0.size) (T_ : own_str Z h0 a0 us) (L_ : own_str Z h0 a1 (own_list n d0 d1 d2)) (hus : us.length ≤ 3) (hn : n = 0 ∨ n = 1 ∨ n = 2 ∨ n = 3) (O_ : Old Z n0 h0) (S_cs : Sta Z Z.heap "java/lang/String" "COMPACT_STRINGS" "Z" (.int cs)) (hcs : ¬ cs = (0 : Int32)) (S_gf : Sta Z Z.heap "jdk/internal/util/Preconditions" "SIOOBE_FORMATTER" "Ljava/util/function/BiFunction;" gf) (rv_gf : gf.isRef = true) (S_ad : Sta Z Z.heap "java/lang/StringUTF16" "$assertionsDisabled" "Z" (.int (1 : Int32))) (S_hi : Sta Z Z.heap "java/lang/StringUTF16" "HI_BYTE_SHIFT" "I" (.int (0 : Int32))) (S_lo : Sta Z Z.heap "java/lang/StringUTF16" "LO_BYTE_SHIFT" "I" (.int (8 : Int32))) :
    MetFree l (⟨"com/example/tenpoint/tenpoint/AsciiCase", "startsWith", "(Ljava/lang/String;Ljava/lang/String;)Z"⟩ : MethodName) (head1 (Jvm.Cond.code (⟨"com/example/tenpoint/tenpoint/AsciiCase", "startsWith", "(Ljava/lang/String;Ljava/lang/String;)Z"⟩ : MethodName) prog_2_method_3_code 3 (some .boolean) :: ws) ({ frames := 6, cells := 0, slots := 0, locals := 84 } : Room)) (fun a U => a = #[(.ref a0), (.ref a1)] ∧ Z.Warmed39 U.vm ∧ U.heap = h0) (fun _ _ _ _ _ => True) (fun _ U o U' => ∃ v L, o = .returned v ∧ own_Qi (own_swg us n d0 d1 d2) h0 n0 v U'.heap L ∧ FrameEnd U o U' L ({ frames := 6, cells := 0, slots := 0, locals := 84 } : Room).cells ({ frames := 6, cells := 0, slots := 0, locals := 84 } : Room).slots) := by
  rcases hn with rfl | rfl | rfl | rfl
  · rw [own_list_0] at L_; rw [own_swg_0]; exact rm10_0 l Z a0_ hw ws a0 a1 us  cs gf h0 n0 Z0 T_ L_ hus O_ S_cs hcs S_gf rv_gf S_ad S_hi S_lo
  · rw [own_list_1] at L_; rw [own_swg_1]; exact rm10_1 l Z a0_ hw ws a0 a1 us _ cs gf h0 n0 Z0 T_ L_ hus O_ S_cs hcs S_gf rv_gf S_ad S_hi S_lo
  · rw [own_list_2] at L_; rw [own_swg_2]; exact rm10_2 l Z a0_ hw ws a0 a1 us _ _ cs gf h0 n0 Z0 T_ L_ hus O_ S_cs hcs S_gf rv_gf S_ad S_hi S_lo
  · rw [own_list_3] at L_; rw [own_swg_3]; exact rm10_3 l Z a0_ hw ws a0 a1 us _ _ _ cs gf h0 n0 Z0 T_ L_ hus O_ S_cs hcs S_gf rv_gf S_ad S_hi S_lo
theorem own_l12 {x : Int32} (h : x < (1 : Int32)) : x < (2 : Int32) := by rw [Int32.lt_iff_toInt_lt, show (1 : Int32).toInt = 1 from rfl] at h; rw [Int32.lt_iff_toInt_lt, show (2 : Int32).toInt = 2 from rfl]; omega
theorem own_l13 {x : Int32} (h : x < (1 : Int32)) : x < (3 : Int32) := by rw [Int32.lt_iff_toInt_lt, show (1 : Int32).toInt = 1 from rfl] at h; rw [Int32.lt_iff_toInt_lt, show (3 : Int32).toInt = 3 from rfl]; omega
theorem own_l23 {x : Int32} (h : x < (2 : Int32)) : x < (3 : Int32) := by rw [Int32.lt_iff_toInt_lt, show (2 : Int32).toInt = 2 from rfl] at h; rw [Int32.lt_iff_toInt_lt, show (3 : Int32).toInt = 3 from rfl]; omega
def own_ex (tl ll m0 m1 m2 : Int32) : Int32 := if tl < ll then (0 : Int32) else if ll < (1 : Int32) then (1 : Int32) else if m0 = (0 : Int32) then (0 : Int32) else if ll < (2 : Int32) then (1 : Int32) else if m1 = (0 : Int32) then (0 : Int32) else if ll < (3 : Int32) then (1 : Int32) else if m2 = (0 : Int32) then (0 : Int32) else (1 : Int32)
def own_exq (p0 p1 p2 p3 p4 p5 : Int32) : Int32 := own_ex (p5 &&& (3 : Int32)) ((own_ushr p5 (2 : Int32)) &&& (3 : Int32)) (own_m (own_pick p0) (own_der (own_pick p0) p3)) (own_m (own_pick p1) (own_der (own_pick p1) p4)) (own_m (own_pick p2) (own_der (own_pick p2) (own_ushr p5 (4 : Int32))))
theorem own_c_rng (x : Int32) : 0 ≤ (x.toUInt32.toUInt16.toUInt32.toInt32).toInt ∧ (x.toUInt32.toUInt16.toUInt32.toInt32).toInt < 65536 := (c_i2c x).2
theorem own_n_rng (x : Int32) : 0 ≤ (nar .char x).toInt ∧ (nar .char x).toInt < 65536 := (c_i2c x).2
theorem own_pick_rng (p : Int32) : 0 ≤ (own_pick p).toInt ∧ (own_pick p).toInt < 65536 := by
  unfold own_pick; split <;> exact own_n_rng _
theorem own_der_rng (c y : Int32) (hc : 0 ≤ c.toInt ∧ c.toInt < 65536) : (0 ≤ (own_der c y).toInt ∧ (own_der c y).toInt < 65536) ∧ ¬ (65 ≤ (own_der c y).toInt ∧ (own_der c y).toInt ≤ 90) := by
  have e65 : (65 : Int32).toInt = 65 := rfl; have e90 : (90 : Int32).toInt = 90 := rfl; have e32 : (32 : Int32).toInt = 32 := rfl
  have key : ∀ x : Int32, 0 ≤ x.toInt ∧ x.toInt < 65536 → (0 ≤ (if x < (65 : Int32) then (nar .char x) else (if (90 : Int32) < x then (nar .char x) else (nar .char ((x + (32 : Int32)).toUInt32.toUInt16.toUInt32.toInt32)))).toInt ∧ (if x < (65 : Int32) then (nar .char x) else (if (90 : Int32) < x then (nar .char x) else (nar .char ((x + (32 : Int32)).toUInt32.toUInt16.toUInt32.toInt32)))).toInt < 65536) ∧ ¬ (65 ≤ (if x < (65 : Int32) then (nar .char x) else (if (90 : Int32) < x then (nar .char x) else (nar .char ((x + (32 : Int32)).toUInt32.toUInt16.toUInt32.toInt32)))).toInt ∧ (if x < (65 : Int32) then (nar .char x) else (if (90 : Int32) < x then (nar .char x) else (nar .char ((x + (32 : Int32)).toUInt32.toUInt16.toUInt32.toInt32)))).toInt ≤ 90) := by
    intro x hx
    by_cases a : x < (65 : Int32)
    · rw [if_pos a, own_nar x hx.1 hx.2]; rw [Int32.lt_iff_toInt_lt] at a; omega
    · rw [if_neg a]
      by_cases b : (90 : Int32) < x
      · rw [if_pos b, own_nar x hx.1 hx.2]; rw [Int32.lt_iff_toInt_lt] at b; omega
      · rw [if_neg b]; rw [Int32.lt_iff_toInt_lt] at a b
        have s := c_iadd x 32; have r := rng32 (x + 32)
        have u : (x + (32 : Int32)).toInt = x.toInt + 32 := by omega
        rw [own_char _ (by omega) (by omega), own_nar _ (by omega) (by omega)]; omega
  unfold own_der
  split
  · exact key _ hc
  · split
    · exact key _ (own_c_rng _)
    · split
      · exact key _ (own_c_rng _)
      · exact key _ (own_c_rng _)
theorem own_mm (c d : Int32) (hc : 0 ≤ c.toInt ∧ c.toInt < 65536) (hd : 0 ≤ d.toInt ∧ d.toInt < 65536) (hu : ¬ (65 ≤ d.toInt ∧ d.toInt ≤ 90)) : own_fold (nar .char c) = nar .char d ↔ ¬ own_m c d = (0 : Int32) := by
  have e65 : (65 : Int32).toInt = 65 := rfl; have e90 : (90 : Int32).toInt = 90 := rfl; have e32 : (32 : Int32).toInt = 32 := rfl
  rw [own_nar c hc.1 hc.2, own_nar d hd.1 hd.2]
  have s := c_iadd c 32; have r := rng32 (c + 32)
  have u : (c + (32 : Int32)).toInt = c.toInt + 32 := by omega
  unfold own_fold own_m
  by_cases e : c = d
  · rw [if_pos e]; subst e
    have h1 : ¬ ((1 : Int32) = 0) := by decide
    simp only [h1, not_false_iff, iff_true]
    by_cases a : c < (65 : Int32)
    · rw [if_pos a, own_nar c hc.1 hc.2]
    · rw [if_neg a]; rw [Int32.lt_iff_toInt_lt] at a
      rw [if_pos (by rw [Int32.lt_iff_toInt_lt]; omega), own_nar c hc.1 hc.2]
  · rw [if_neg e]
    by_cases a : c < (65 : Int32)
    · rw [if_pos a, if_pos a, own_nar c hc.1 hc.2]; constructor
      · intro h; exact absurd h e
      · intro h; exact absurd rfl h
    · rw [if_neg a, if_neg a]
      by_cases b : (90 : Int32) < c
      · rw [if_pos b, if_pos b, own_nar c hc.1 hc.2]; constructor
        · intro h; exact absurd h e
        · intro h; exact absurd rfl h
      · rw [if_neg b, if_neg b]; rw [Int32.lt_iff_toInt_lt] at a b
        rw [own_char (c + 32) (by omega) (by omega), own_nar (c + 32) (by omega) (by omega)]
        by_cases f : c + (32 : Int32) = d
        · rw [if_pos f]; constructor
          · intro _; decide
          · intro _; exact f
        · rw [if_neg f]; constructor
          · intro h; exact absurd h f
          · intro h; exact absurd rfl h
theorem own_tl4 (p5 : Int32) : (p5 &&& (3 : Int32)) = 0 ∨ (p5 &&& (3 : Int32)) = 1 ∨ (p5 &&& (3 : Int32)) = 2 ∨ (p5 &&& (3 : Int32)) = 3 := by
  have m := c_mask p5 3 2 (by decide) (by decide)
  simp only [← Int32.toInt_inj, show (0 : Int32).toInt = 0 from rfl, show (1 : Int32).toInt = 1 from rfl, show (2 : Int32).toInt = 2 from rfl, show (3 : Int32).toInt = 3 from rfl]; omega
/-- the plain law: what startsWith answers is what was expected -/
theorem own_plain (tl ll c0 c1 c2 d0 d1 d2 : Int32) (ht : tl = 0 ∨ tl = 1 ∨ tl = 2 ∨ tl = 3) (hl : ll = 0 ∨ ll = 1 ∨ ll = 2 ∨ ll = 3)
    (h0 : own_fold (nar .char c0) = nar .char d0 ↔ ¬ own_m c0 d0 = (0 : Int32)) (h1 : own_fold (nar .char c1) = nar .char d1 ↔ ¬ own_m c1 d1 = (0 : Int32)) (h2 : own_fold (nar .char c2) = nar .char d2 ↔ ¬ own_m c2 d2 = (0 : Int32)) :
    own_swg (own_list tl c0 c1 c2) ll d0 d1 d2 = own_ex tl ll (own_m c0 d0) (own_m c1 d1) (own_m c2 d2) := by
  have z0 : (0 : Int32).toNatClampNeg = 0 := rfl; have z1 : (1 : Int32).toNatClampNeg = 1 := rfl; have z2 : (2 : Int32).toNatClampNeg = 2 := rfl
  rcases ht with rfl | rfl | rfl | rfl <;> rcases hl with rfl | rfl | rfl | rfl <;>
    simp only [own_list_0, own_list_1, own_list_2, own_list_3, own_swg_0, own_swg_1, own_swg_2, own_swg_3] <;>
    simp only [own_sw0, own_sw1, own_sw2, own_sw3, own_ex, z0, z1, z2, List.length_cons, List.length_nil, List.getD_cons_zero, List.getD_cons_succ] <;>
    by_cases m0 : own_m c0 d0 = (0 : Int32) <;> by_cases m1 : own_m c1 d1 = (0 : Int32) <;> by_cases m2 : own_m c2 d2 = (0 : Int32) <;>
    simp only [m0, m1, m2, not_true, not_false_iff, iff_true, iff_false] at h0 h1 h2 <;>
    simp only [h0, h1, h2, m0, m1, m2, if_true, if_false, ↓reduceIte] <;> first | decide | rfl
theorem own_fin (p0 p1 p2 p3 p4 p5 : Int32) : own_swg (own_list (p5 &&& (3 : Int32)) (own_pick p0) (own_pick p1) (own_pick p2)) ((own_ushr p5 (2 : Int32)) &&& (3 : Int32)) (own_der (own_pick p0) p3) (own_der (own_pick p1) p4) (own_der (own_pick p2) (own_ushr p5 (4 : Int32))) = own_exq p0 p1 p2 p3 p4 p5 := by
  have r0 := own_pick_rng p0; have r1 := own_pick_rng p1; have r2 := own_pick_rng p2
  have q0 := own_der_rng _ p3 r0; have q1 := own_der_rng _ p4 r1; have q2 := own_der_rng _ (own_ushr p5 (4 : Int32)) r2
  exact own_plain _ _ _ _ _ _ _ _ (own_tl4 p5) (own_ll4 p5) (own_mm _ _ r0 q0.1 q0.2) (own_mm _ _ r1 q1.1 q1.2) (own_mm _ _ r2 q2.1 q2.2)
theorem ef_0 (m : MethodId) (p0 : Int32) (p1 : Int32) (p2 : Int32) (p3 : Int32) (p4 : Int32) (p5 : Int32) : entryFrame m #[(.int p0), (.int p1), (.int p2), (.int p3), (.int p4), (.int p5)] maxLocals = mkF m 0 #[.val (.int p0), .val (.int p1), .val (.int p2), .val (.int p3), .val (.int p4), .val (.int p5), .unset, .unset, .unset, .unset, .unset, .unset, .unset, .unset, .unset, .unset, .unset, .unset] [] := by first | (simp [entryFrame, mkF, argsToLocals, Value.category, maxLocals]; done) | rfl
abbrev own_loc34 (p0 : Int32) (p1 : Int32) (p2 : Int32) (p3 : Int32) (p4 : Int32) (p5 : Int32) : Array Slot := #[.val (.int p0), .val (.int p1), .val (.int p2), .val (.int p3), .val (.int p4), .val (.int p5), .unset, .unset, .unset, .unset, .unset, .unset, .unset, .unset, .unset, .unset, .unset, .unset]
abbrev own_loc35 (p0 : Int32) (p1 : Int32) (p2 : Int32) (p3 : Int32) (p4 : Int32) (p5 : Int32) : Array Slot := #[.val (.int p0), .val (.int p1), .val (.int p2), .val (.int p3), .val (.int p4), .val (.int p5), .val (.int (p5 &&& (3 : Int32))), .unset, .unset, .unset, .unset, .unset, .unset, .unset, .unset, .unset, .unset, .unset]
abbrev own_loc36 (p0 : Int32) (p1 : Int32) (p2 : Int32) (p3 : Int32) (p4 : Int32) (p5 : Int32) : Array Slot := #[.val (.int p0), .val (.int p1), .val (.int p2), .val (.int p3), .val (.int p4), .val (.int p5), .val (.int (p5 &&& (3 : Int32))), .val (.int ((own_ushr p5 (2 : Int32)) &&& (3 : Int32))), .unset, .unset, .unset, .unset, .unset, .unset, .unset, .unset, .unset, .unset]
abbrev own_loc37 (p0 : Int32) (p1 : Int32) (p2 : Int32) (p3 : Int32) (p4 : Int32) (p5 : Int32) : Array Slot := #[.val (.int p0), .val (.int p1), .val (.int p2), .val (.int p3), .val (.int p4), .val (.int p5), .val (.int (p5 &&& (3 : Int32))), .val (.int ((own_ushr p5 (2 : Int32)) &&& (3 : Int32))), .val (.int (own_ushr p5 (4 : Int32))), .unset, .unset, .unset, .unset, .unset, .unset, .unset, .unset, .unset]
abbrev own_loc38 (p0 : Int32) (p1 : Int32) (p2 : Int32) (p3 : Int32) (p4 : Int32) (p5 : Int32) : Array Slot := #[.val (.int p0), .val (.int p1), .val (.int p2), .val (.int p3), .val (.int p4), .val (.int p5), .val (.int (p5 &&& (3 : Int32))), .val (.int ((own_ushr p5 (2 : Int32)) &&& (3 : Int32))), .val (.int (own_ushr p5 (4 : Int32))), .val (.int (own_pick p0)), .unset, .unset, .unset, .unset, .unset, .unset, .unset, .unset]
abbrev own_loc39 (p0 : Int32) (p1 : Int32) (p2 : Int32) (p3 : Int32) (p4 : Int32) (p5 : Int32) : Array Slot := #[.val (.int p0), .val (.int p1), .val (.int p2), .val (.int p3), .val (.int p4), .val (.int p5), .val (.int (p5 &&& (3 : Int32))), .val (.int ((own_ushr p5 (2 : Int32)) &&& (3 : Int32))), .val (.int (own_ushr p5 (4 : Int32))), .val (.int (own_pick p0)), .val (.int (own_pick p1)), .unset, .unset, .unset, .unset, .unset, .unset, .unset]
abbrev own_loc40 (p0 : Int32) (p1 : Int32) (p2 : Int32) (p3 : Int32) (p4 : Int32) (p5 : Int32) : Array Slot := #[.val (.int p0), .val (.int p1), .val (.int p2), .val (.int p3), .val (.int p4), .val (.int p5), .val (.int (p5 &&& (3 : Int32))), .val (.int ((own_ushr p5 (2 : Int32)) &&& (3 : Int32))), .val (.int (own_ushr p5 (4 : Int32))), .val (.int (own_pick p0)), .val (.int (own_pick p1)), .val (.int (own_pick p2)), .unset, .unset, .unset, .unset, .unset, .unset]
theorem pd_6 : parseMethodDescriptor "(CI)C" = some ⟨[.char, .int], some .char⟩ := by decide +kernel
abbrev own_loc41 (p0 : Int32) (p1 : Int32) (p2 : Int32) (p3 : Int32) (p4 : Int32) (p5 : Int32) : Array Slot := #[.val (.int p0), .val (.int p1), .val (.int p2), .val (.int p3), .val (.int p4), .val (.int p5), .val (.int (p5 &&& (3 : Int32))), .val (.int ((own_ushr p5 (2 : Int32)) &&& (3 : Int32))), .val (.int (own_ushr p5 (4 : Int32))), .val (.int (own_pick p0)), .val (.int (own_pick p1)), .val (.int (own_pick p2)), .val (.int (own_der (own_pick p0) p3)), .unset, .unset, .unset, .unset, .unset]
abbrev own_loc42 (p0 : Int32) (p1 : Int32) (p2 : Int32) (p3 : Int32) (p4 : Int32) (p5 : Int32) : Array Slot := #[.val (.int p0), .val (.int p1), .val (.int p2), .val (.int p3), .val (.int p4), .val (.int p5), .val (.int (p5 &&& (3 : Int32))), .val (.int ((own_ushr p5 (2 : Int32)) &&& (3 : Int32))), .val (.int (own_ushr p5 (4 : Int32))), .val (.int (own_pick p0)), .val (.int (own_pick p1)), .val (.int (own_pick p2)), .val (.int (own_der (own_pick p0) p3)), .val (.int (own_der (own_pick p1) p4)), .unset, .unset, .unset, .unset]
abbrev own_loc43 (p0 : Int32) (p1 : Int32) (p2 : Int32) (p3 : Int32) (p4 : Int32) (p5 : Int32) : Array Slot := #[.val (.int p0), .val (.int p1), .val (.int p2), .val (.int p3), .val (.int p4), .val (.int p5), .val (.int (p5 &&& (3 : Int32))), .val (.int ((own_ushr p5 (2 : Int32)) &&& (3 : Int32))), .val (.int (own_ushr p5 (4 : Int32))), .val (.int (own_pick p0)), .val (.int (own_pick p1)), .val (.int (own_pick p2)), .val (.int (own_der (own_pick p0) p3)), .val (.int (own_der (own_pick p1) p4)), .val (.int (own_der (own_pick p2) (own_ushr p5 (4 : Int32)))), .unset, .unset, .unset]
theorem pd_10 : parseMethodDescriptor "(ICCC)Ljava/lang/String;" = some ⟨[.int, .char, .char, .char], some (.object "java/lang/String")⟩ := by decide +kernel
abbrev own_loc44 (p0 : Int32) (p1 : Int32) (p2 : Int32) (p3 : Int32) (p4 : Int32) (p5 : Int32) (r731 : Addr) : Array Slot := #[.val (.int p0), .val (.int p1), .val (.int p2), .val (.int p3), .val (.int p4), .val (.int p5), .val (.int (p5 &&& (3 : Int32))), .val (.int ((own_ushr p5 (2 : Int32)) &&& (3 : Int32))), .val (.int (own_ushr p5 (4 : Int32))), .val (.int (own_pick p0)), .val (.int (own_pick p1)), .val (.int (own_pick p2)), .val (.int (own_der (own_pick p0) p3)), .val (.int (own_der (own_pick p1) p4)), .val (.int (own_der (own_pick p2) (own_ushr p5 (4 : Int32)))), .val (.ref r731), .unset, .unset]
abbrev own_loc45 (p0 : Int32) (p1 : Int32) (p2 : Int32) (p3 : Int32) (p4 : Int32) (p5 : Int32) (r731 : Addr) (r735 : Addr) : Array Slot := #[.val (.int p0), .val (.int p1), .val (.int p2), .val (.int p3), .val (.int p4), .val (.int p5), .val (.int (p5 &&& (3 : Int32))), .val (.int ((own_ushr p5 (2 : Int32)) &&& (3 : Int32))), .val (.int (own_ushr p5 (4 : Int32))), .val (.int (own_pick p0)), .val (.int (own_pick p1)), .val (.int (own_pick p2)), .val (.int (own_der (own_pick p0) p3)), .val (.int (own_der (own_pick p1) p4)), .val (.int (own_der (own_pick p2) (own_ushr p5 (4 : Int32)))), .val (.ref r731), .val (.ref r735), .unset]
abbrev own_loc46 (p0 : Int32) (p1 : Int32) (p2 : Int32) (p3 : Int32) (p4 : Int32) (p5 : Int32) (r731 : Addr) (r735 : Addr) : Array Slot := #[.val (.int p0), .val (.int p1), .val (.int p2), .val (.int p3), .val (.int p4), .val (.int p5), .val (.int (p5 &&& (3 : Int32))), .val (.int ((own_ushr p5 (2 : Int32)) &&& (3 : Int32))), .val (.int (own_ushr p5 (4 : Int32))), .val (.int (own_pick p0)), .val (.int (own_pick p1)), .val (.int (own_pick p2)), .val (.int (own_der (own_pick p0) p3)), .val (.int (own_der (own_pick p1) p4)), .val (.int (own_der (own_pick p2) (own_ushr p5 (4 : Int32)))), .val (.ref r731), .val (.ref r735), .val (.int 0)]
theorem pd_14 : parseMethodDescriptor "(Ljava/lang/String;Ljava/lang/String;)Z" = some ⟨[(.object "java/lang/String"), (.object "java/lang/String")], some .boolean⟩ := by decide +kernel
abbrev own_loc47 (p0 : Int32) (p1 : Int32) (p2 : Int32) (p3 : Int32) (p4 : Int32) (p5 : Int32) (r731 : Addr) (r735 : Addr) : Array Slot := #[.val (.int p0), .val (.int p1), .val (.int p2), .val (.int p3), .val (.int p4), .val (.int p5), .val (.int (p5 &&& (3 : Int32))), .val (.int ((own_ushr p5 (2 : Int32)) &&& (3 : Int32))), .val (.int (own_ushr p5 (4 : Int32))), .val (.int (own_pick p0)), .val (.int (own_pick p1)), .val (.int (own_pick p2)), .val (.int (own_der (own_pick p0) p3)), .val (.int (own_der (own_pick p1) p4)), .val (.int (own_der (own_pick p2) (own_ushr p5 (4 : Int32)))), .val (.ref r731), .val (.ref r735), .val (.int 1)]
theorem pd_5 : parseMethodDescriptor "(CC)Z" = some ⟨[.char, .char], some .boolean⟩ := by decide +kernel
def Q0 (n0 : Nat) (v : Option Value) (h : Heap) (L : List Loc) : Prop := v = some (.int 1) ∧ Fr n0 L
set_option maxRecDepth 65536 in
set_option maxHeartbeats 40000000 in
theorem rm0 (l : Launch) (Z : State) (ag : Array Value) (hw : ∀ d ∈ tables_1, d.before ag Z = true) (ws : List Jvm.Cond) (p0 : Int32) (p1 : Int32) (p2 : Int32) (p3 : Int32) (p4 : Int32) (p5 : Int32) (cs : Int32) (gf : Value) (h0 : Heap) (n0 : Nat) (Z0 : n0 ≤ h0.size) (O_ : Old Z n0 h0) (S_cs : Sta Z Z.heap "java/lang/String" "COMPACT_STRINGS" "Z" (.int cs)) (hcs : ¬ cs = (0 : Int32)) (S_gf : Sta Z Z.heap "jdk/internal/util/Preconditions" "SIOOBE_FORMATTER" "Ljava/util/function/BiFunction;" gf) (rv_gf : gf.isRef = true) (S_ad : Sta Z Z.heap "java/lang/StringUTF16" "$assertionsDisabled" "Z" (.int (1 : Int32))) (S_hi : Sta Z Z.heap "java/lang/StringUTF16" "HI_BYTE_SHIFT" "I" (.int (0 : Int32))) (S_lo : Sta Z Z.heap "java/lang/StringUTF16" "LO_BYTE_SHIFT" "I" (.int (8 : Int32))) :
    MetFree l x (head1 (Jvm.Cond.code x code maxLocals ret :: ws) room_1) (fun a U => a = #[(.int p0), (.int p1), (.int p2), (.int p3), (.int p4), (.int p5)] ∧ Z.Warmed39 U.vm ∧ U.heap = h0 ∧ CHv Z own_EL U.vm h0) (fun _ _ _ _ _ => True) (fun _ U o U' => ∃ v L, o = .returned v ∧ Q0 n0 v U'.heap L ∧ CHr Z own_EL U.vm U.heap U'.vm U'.heap ∧ ReturnedEndW U o U' L 12 36) := by
  refine MetFree.of_bodySF (plainFor_of_name pn_1) hisR ?_
  intro p e s m args below meth c s₁ Bd hml0 hP hK
  obtain ⟨rfl, hZ, hh, hI⟩ := hP
  have hx := Bd.exec
  have hby := Bd.bytes
  have hml : c.maxLocals = 18 := hml0
  have hown : s.vm.findClass "com/example/tenpoint/tenpoint/AsciiCaseStartsWithPinLaw" = some m.cls := findClass_of_methodNamed Bd.named
  have hnm := (name_of_methodNamed Bd.named Bd.method).1
  have X0 : Stand p l e room_1 s m #[(.int p0), (.int p1), (.int p2), (.int p3), (.int p4), (.int p5)] below meth c s₁ [] 0 0 := Stand.of_body Bd
  have e0 : s₁.heap = h0 := by rw [← hh, Bd.state]; rfl
  have N0 := Fr.nil n0
  have pre0 : ∀ t, Steps p.tables e below (s₁.setTop (mkF m 0 #[.val (.int p0), .val (.int p1), .val (.int p2), .val (.int p3), .val (.int p4), .val (.int p5), .unset, .unset, .unset, .unset, .unset, .unset, .unset, .unset, .unset, .unset, .unset, .unset] [])) t → Steps p.tables e below (s₁.setTop (entryFrame m #[(.int p0), (.int p1), (.int p2), (.int p3), (.int p4), (.int p5)] maxLocals)) t := fun t k => castTop (ef_0 m p0 p1 p2 p3 p4 p5) k
  have X0 : Stand p l e room_1 (s.setVm s.vm) m #[(.int p0), (.int p1), (.int p2), (.int p3), (.int p4), (.int p5)] below meth c s₁ [] 0 0 := X0
  have hS : s.Since s.vm 0 := (State.WarmedH.refl s).since 0
  have hkS : 0 ≤ h0.size := Nat.zero_le _
  have hC : CHr Z own_EL s.vm h0 s.vm h0 := CHr.refl hI
  have hEL : EW Z ag own_EL := own_ew hw
  have hwS : ∀ d ∈ Bundle.stringAtoms, d.before ag Z = true := fun d hd => hw d ((by decide +kernel : ∀ d ∈ Bundle.stringAtoms, d ∈ tables_1) d hd)
  have cp723 : ∀ target, own_S p e below s₁ (mkF m 21 (own_loc37 p0 p1 p2 p3 p4 p5) [(.int p0)]) target → own_S p e below s₁ (mkF m 0 (own_loc34 p0 p1 p2 p3 p4 p5) []) target := by
    intro target kt
    show own_S p e below s₁ (mkF m 0 (own_loc34 p0 p1 p2 p3 p4 p5) []) _
    refine XS.iload X0.here hx rfl (hb hby at_0) rfl ?_
    show own_S p e below s₁ (mkF m 2 (own_loc34 p0 p1 p2 p3 p4 p5) [(.int p5)]) _
    refine XS.iconst X0.here hx rfl (hb hby at_2) ?_
    show own_S p e below s₁ (mkF m 3 (own_loc34 p0 p1 p2 p3 p4 p5) [.int 3, (.int p5)]) _
    refine XS.iand X0.here hx rfl (hb hby at_3) rfl ?_
    show own_S p e below s₁ (mkF m 4 (own_loc34 p0 p1 p2 p3 p4 p5) [(.int (p5 &&& (3 : Int32)))]) _
    refine XS.istore X0.here hx rfl (hb hby at_4) rfl (l' := (own_loc35 p0 p1 p2 p3 p4 p5)) rfl ?_
    show own_S p e below s₁ (mkF m 6 (own_loc35 p0 p1 p2 p3 p4 p5) []) _
    refine XS.iload X0.here hx rfl (hb hby at_6) rfl ?_
    show own_S p e below s₁ (mkF m 8 (own_loc35 p0 p1 p2 p3 p4 p5) [(.int p5)]) _
    refine XS.iconst X0.here hx rfl (hb hby at_8) ?_
    show own_S p e below s₁ (mkF m 9 (own_loc35 p0 p1 p2 p3 p4 p5) [.int 2, (.int p5)]) _
    refine XS.iushr X0.here hx rfl (hb hby at_9) rfl ?_
    show own_S p e below s₁ (mkF m 10 (own_loc35 p0 p1 p2 p3 p4 p5) [(.int (own_ushr p5 (2 : Int32)))]) _
    refine XS.iconst X0.here hx rfl (hb hby at_10) ?_
    show own_S p e below s₁ (mkF m 11 (own_loc35 p0 p1 p2 p3 p4 p5) [.int 3, (.int (own_ushr p5 (2 : Int32)))]) _
    refine XS.iand X0.here hx rfl (hb hby at_11) rfl ?_
    show own_S p e below s₁ (mkF m 12 (own_loc35 p0 p1 p2 p3 p4 p5) [(.int ((own_ushr p5 (2 : Int32)) &&& (3 : Int32)))]) _
    refine XS.istore X0.here hx rfl (hb hby at_12) rfl (l' := (own_loc36 p0 p1 p2 p3 p4 p5)) rfl ?_
    show own_S p e below s₁ (mkF m 14 (own_loc36 p0 p1 p2 p3 p4 p5) []) _
    refine XS.iload X0.here hx rfl (hb hby at_14) rfl ?_
    show own_S p e below s₁ (mkF m 16 (own_loc36 p0 p1 p2 p3 p4 p5) [(.int p5)]) _
    refine XS.iconst X0.here hx rfl (hb hby at_16) ?_
    show own_S p e below s₁ (mkF m 17 (own_loc36 p0 p1 p2 p3 p4 p5) [.int 4, (.int p5)]) _
    refine XS.iushr X0.here hx rfl (hb hby at_17) rfl ?_
    show own_S p e below s₁ (mkF m 18 (own_loc36 p0 p1 p2 p3 p4 p5) [(.int (own_ushr p5 (4 : Int32)))]) _
    refine XS.istore X0.here hx rfl (hb hby at_18) rfl (l' := (own_loc37 p0 p1 p2 p3 p4 p5)) rfl ?_
    show own_S p e below s₁ (mkF m 20 (own_loc37 p0 p1 p2 p3 p4 p5) []) _
    refine XS.iloadN X0.here hx rfl (hb hby at_20) rfl ?_
    exact kt
  obtain ⟨_, _, ⟨T724, L724, k724, n724⟩, -, X724, ⟨Lc724, hQ724, l724, y724, z724⟩, st724⟩ := Jvm.LawKit.callS X0 hx (y := (⟨"com/example/tenpoint/tenpoint/AsciiCaseStartsWithPinLaw", "pick", "(I)C"⟩ : MethodName)) hown (mvT hZ (hw _ (List.mem_of_getElem? (i := 0) rfl))) (mvT hZ (hw _ (List.mem_of_getElem? (i := 1) rfl))) (mvT hZ (hw _ (List.mem_of_getElem? (i := 2) rfl))) (mvT hZ (hw _ (List.mem_of_getElem? (i := 3) rfl))) (by decide) (backOf (W := 0) (rm1 l Z ag hw [] p0  h0 n0 Z0 ) hZ (hw _ (List.mem_of_getElem? (i := 3) rfl)) (hw _ (List.mem_of_getElem? (i := 2) rfl)) (by decide) (by decide)) (g := (mkF m 21 (own_loc37 p0 p1 p2 p3 p4 p5) [(.int p0)])) rfl (by rw [hml]; rfl) (argsL := [(.int p0)]) (rest := []) (lenOf pd_7 rfl) rfl (by show 2 * 0 + _ ≤ _; exact Nat.le_of_eq rfl) (hb hby at_21) (fun _ _ => ⟨rfl, e0, (by decide : 0 + 0 ≤ _), (by decide : 0 + 0 ≤ _)⟩)
  dsimp only [Pt.U, Pt.locs, Pt.cells, Pt.slots] at X724 l724 y724 z724 st724 hQ724
  subst l724 y724 z724
  obtain ⟨rfl, N724q, e724⟩ := hQ724
  have N724 := Fr.app N0 N724q
  obtain ⟨_, _, ⟨T725, L725, k725, n725⟩, -, X725, ⟨Lc725, hQ725, l725, y725, z725⟩, st725⟩ := Jvm.LawKit.callS X724 hx (y := (⟨"com/example/tenpoint/tenpoint/AsciiCaseStartsWithPinLaw", "pick", "(I)C"⟩ : MethodName)) hown (mvT hZ (hw _ (List.mem_of_getElem? (i := 0) rfl))) (mvT hZ (hw _ (List.mem_of_getElem? (i := 1) rfl))) (mvT hZ (hw _ (List.mem_of_getElem? (i := 2) rfl))) (mvT hZ (hw _ (List.mem_of_getElem? (i := 3) rfl))) (by decide) (backOf (W := 0) (rm1 l Z ag hw [] p1  h0 n0 Z0 ) hZ (hw _ (List.mem_of_getElem? (i := 3) rfl)) (hw _ (List.mem_of_getElem? (i := 2) rfl)) (by decide) (by decide)) (g := (mkF m 27 (own_loc38 p0 p1 p2 p3 p4 p5) [(.int p1)])) rfl (by rw [hml]; rfl) (argsL := [(.int p1)]) (rest := []) (lenOf pd_7 rfl) rfl (by show 2 * 0 + _ ≤ _; exact Nat.le_of_eq rfl) (hb hby at_27) (fun _ _ => ⟨rfl, e724, (by decide : 0 + 0 ≤ _), (by decide : 0 + 0 ≤ _)⟩)
  dsimp only [Pt.U, Pt.locs, Pt.cells, Pt.slots] at X725 l725 y725 z725 st725 hQ725
  subst l725 y725 z725
  obtain ⟨rfl, N725q, e725⟩ := hQ725
  have N725 := Fr.app N724 N725q
  obtain ⟨_, _, ⟨T726, L726, k726, n726⟩, -, X726, ⟨Lc726, hQ726, l726, y726, z726⟩, st726⟩ := Jvm.LawKit.callS X725 hx (y := (⟨"com/example/tenpoint/tenpoint/AsciiCaseStartsWithPinLaw", "pick", "(I)C"⟩ : MethodName)) hown (mvT hZ (hw _ (List.mem_of_getElem? (i := 0) rfl))) (mvT hZ (hw _ (List.mem_of_getElem? (i := 1) rfl))) (mvT hZ (hw _ (List.mem_of_getElem? (i := 2) rfl))) (mvT hZ (hw _ (List.mem_of_getElem? (i := 3) rfl))) (by decide) (backOf (W := 0) (rm1 l Z ag hw [] p2  h0 n0 Z0 ) hZ (hw _ (List.mem_of_getElem? (i := 3) rfl)) (hw _ (List.mem_of_getElem? (i := 2) rfl)) (by decide) (by decide)) (g := (mkF m 33 (own_loc39 p0 p1 p2 p3 p4 p5) [(.int p2)])) rfl (by rw [hml]; rfl) (argsL := [(.int p2)]) (rest := []) (lenOf pd_7 rfl) rfl (by show 2 * 0 + _ ≤ _; exact Nat.le_of_eq rfl) (hb hby at_33) (fun _ _ => ⟨rfl, e725, (by decide : 0 + 0 ≤ _), (by decide : 0 + 0 ≤ _)⟩)
  dsimp only [Pt.U, Pt.locs, Pt.cells, Pt.slots] at X726 l726 y726 z726 st726 hQ726
  subst l726 y726 z726
  obtain ⟨rfl, N726q, e726⟩ := hQ726
  have N726 := Fr.app N725 N726q
  obtain ⟨_, _, ⟨T727, L727, k727, n727⟩, -, X727, ⟨Lc727, hQ727, l727, y727, z727⟩, st727⟩ := Jvm.LawKit.callS X726 hx (y := (⟨"com/example/tenpoint/tenpoint/AsciiCaseStartsWithPinLaw", "derive", "(CI)C"⟩ : MethodName)) hown (mvT hZ (hw _ (List.mem_of_getElem? (i := 4) rfl))) (mvT hZ (hw _ (List.mem_of_getElem? (i := 5) rfl))) (mvT hZ (hw _ (List.mem_of_getElem? (i := 2) rfl))) (mvT hZ (hw _ (List.mem_of_getElem? (i := 6) rfl))) (by decide) (backOf (W := 0) (rm2 l Z ag hw [] (own_pick p0) p3  h0 n0 Z0 ) hZ (hw _ (List.mem_of_getElem? (i := 6) rfl)) (hw _ (List.mem_of_getElem? (i := 2) rfl)) (by decide) (by decide)) (g := (mkF m 41 (own_loc40 p0 p1 p2 p3 p4 p5) [(.int p3), (.int (own_pick p0))])) rfl (by rw [hml]; rfl) (argsL := [(.int (own_pick p0)), (.int p3)]) (rest := []) (lenOf pd_6 rfl) rfl (by show 2 * 0 + _ ≤ _; exact Nat.le_of_eq rfl) (hb hby at_41) (fun _ _ => ⟨rfl, e726, (by decide : 0 + 0 ≤ _), (by decide : 0 + 0 ≤ _)⟩)
  dsimp only [Pt.U, Pt.locs, Pt.cells, Pt.slots] at X727 l727 y727 z727 st727 hQ727
  subst l727 y727 z727
  obtain ⟨rfl, N727q, e727⟩ := hQ727
  have N727 := Fr.app N726 N727q
  have cp728 : ∀ target, own_S p e below T727 (mkF m 50 (own_loc41 p0 p1 p2 p3 p4 p5) [(.int p4), (.int (own_pick p1))]) target → own_S p e below s₁ (mkF m 0 (own_loc34 p0 p1 p2 p3 p4 p5) []) target := by
    intro target kt
    show own_S p e below s₁ (mkF m 0 (own_loc34 p0 p1 p2 p3 p4 p5) []) _
    refine cp723 _ ?_
    show own_S p e below s₁ (mkF m 21 (own_loc37 p0 p1 p2 p3 p4 p5) [(.int p0)]) _
    refine st724 _ ?_
    show own_S p e below T724 (mkF m 24 (own_loc37 p0 p1 p2 p3 p4 p5) [(.int (own_pick p0))]) _
    refine XS.istore X724.here hx rfl (hb hby at_24) rfl (l' := (own_loc38 p0 p1 p2 p3 p4 p5)) rfl ?_
    show own_S p e below T724 (mkF m 26 (own_loc38 p0 p1 p2 p3 p4 p5) []) _
    refine XS.iloadN X724.here hx rfl (hb hby at_26) rfl ?_
    show own_S p e below T724 (mkF m 27 (own_loc38 p0 p1 p2 p3 p4 p5) [(.int p1)]) _
    refine st725 _ ?_
    show own_S p e below T725 (mkF m 30 (own_loc38 p0 p1 p2 p3 p4 p5) [(.int (own_pick p1))]) _
    refine XS.istore X725.here hx rfl (hb hby at_30) rfl (l' := (own_loc39 p0 p1 p2 p3 p4 p5)) rfl ?_
    show own_S p e below T725 (mkF m 32 (own_loc39 p0 p1 p2 p3 p4 p5) []) _
    refine XS.iloadN X725.here hx rfl (hb hby at_32) rfl ?_
    show own_S p e below T725 (mkF m 33 (own_loc39 p0 p1 p2 p3 p4 p5) [(.int p2)]) _
    refine st726 _ ?_
    show own_S p e below T726 (mkF m 36 (own_loc39 p0 p1 p2 p3 p4 p5) [(.int (own_pick p2))]) _
    refine XS.istore X726.here hx rfl (hb hby at_36) rfl (l' := (own_loc40 p0 p1 p2 p3 p4 p5)) rfl ?_
    show own_S p e below T726 (mkF m 38 (own_loc40 p0 p1 p2 p3 p4 p5) []) _
    refine XS.iload X726.here hx rfl (hb hby at_38) rfl ?_
    show own_S p e below T726 (mkF m 40 (own_loc40 p0 p1 p2 p3 p4 p5) [(.int (own_pick p0))]) _
    refine XS.iloadN X726.here hx rfl (hb hby at_40) rfl ?_
    show own_S p e below T726 (mkF m 41 (own_loc40 p0 p1 p2 p3 p4 p5) [(.int p3), (.int (own_pick p0))]) _
    refine st727 _ ?_
    show own_S p e below T727 (mkF m 44 (own_loc40 p0 p1 p2 p3 p4 p5) [(.int (own_der (own_pick p0) p3))]) _
    refine XS.istore X727.here hx rfl (hb hby at_44) rfl (l' := (own_loc41 p0 p1 p2 p3 p4 p5)) rfl ?_
    show own_S p e below T727 (mkF m 46 (own_loc41 p0 p1 p2 p3 p4 p5) []) _
    refine XS.iload X727.here hx rfl (hb hby at_46) rfl ?_
    show own_S p e below T727 (mkF m 48 (own_loc41 p0 p1 p2 p3 p4 p5) [(.int (own_pick p1))]) _
    refine XS.iload X727.here hx rfl (hb hby at_48) rfl ?_
    exact kt
  obtain ⟨_, _, ⟨T729, L729, k729, n729⟩, -, X729, ⟨Lc729, hQ729, l729, y729, z729⟩, st729⟩ := Jvm.LawKit.callS X727 hx (y := (⟨"com/example/tenpoint/tenpoint/AsciiCaseStartsWithPinLaw", "derive", "(CI)C"⟩ : MethodName)) hown (mvT hZ (hw _ (List.mem_of_getElem? (i := 4) rfl))) (mvT hZ (hw _ (List.mem_of_getElem? (i := 5) rfl))) (mvT hZ (hw _ (List.mem_of_getElem? (i := 2) rfl))) (mvT hZ (hw _ (List.mem_of_getElem? (i := 6) rfl))) (by decide) (backOf (W := 0) (rm2 l Z ag hw [] (own_pick p1) p4  h0 n0 Z0 ) hZ (hw _ (List.mem_of_getElem? (i := 6) rfl)) (hw _ (List.mem_of_getElem? (i := 2) rfl)) (by decide) (by decide)) (g := (mkF m 50 (own_loc41 p0 p1 p2 p3 p4 p5) [(.int p4), (.int (own_pick p1))])) rfl (by rw [hml]; rfl) (argsL := [(.int (own_pick p1)), (.int p4)]) (rest := []) (lenOf pd_6 rfl) rfl (by show 2 * 0 + _ ≤ _; exact Nat.le_of_eq rfl) (hb hby at_50) (fun _ _ => ⟨rfl, e727, (by decide : 0 + 0 ≤ _), (by decide : 0 + 0 ≤ _)⟩)
  dsimp only [Pt.U, Pt.locs, Pt.cells, Pt.slots] at X729 l729 y729 z729 st729 hQ729
  subst l729 y729 z729
  obtain ⟨rfl, N729q, e729⟩ := hQ729
  have N729 := Fr.app N727 N729q
  obtain ⟨_, _, ⟨T730, L730, k730, n730⟩, -, X730, ⟨Lc730, hQ730, l730, y730, z730⟩, st730⟩ := Jvm.LawKit.callS X729 hx (y := (⟨"com/example/tenpoint/tenpoint/AsciiCaseStartsWithPinLaw", "derive", "(CI)C"⟩ : MethodName)) hown (mvT hZ (hw _ (List.mem_of_getElem? (i := 4) rfl))) (mvT hZ (hw _ (List.mem_of_getElem? (i := 5) rfl))) (mvT hZ (hw _ (List.mem_of_getElem? (i := 2) rfl))) (mvT hZ (hw _ (List.mem_of_getElem? (i := 6) rfl))) (by decide) (backOf (W := 0) (rm2 l Z ag hw [] (own_pick p2) (own_ushr p5 (4 : Int32))  h0 n0 Z0 ) hZ (hw _ (List.mem_of_getElem? (i := 6) rfl)) (hw _ (List.mem_of_getElem? (i := 2) rfl)) (by decide) (by decide)) (g := (mkF m 59 (own_loc42 p0 p1 p2 p3 p4 p5) [(.int (own_ushr p5 (4 : Int32))), (.int (own_pick p2))])) rfl (by rw [hml]; rfl) (argsL := [(.int (own_pick p2)), (.int (own_ushr p5 (4 : Int32)))]) (rest := []) (lenOf pd_6 rfl) rfl (by show 2 * 0 + _ ≤ _; exact Nat.le_of_eq rfl) (hb hby at_59) (fun _ _ => ⟨rfl, e729, (by decide : 0 + 0 ≤ _), (by decide : 0 + 0 ≤ _)⟩)
  dsimp only [Pt.U, Pt.locs, Pt.cells, Pt.slots] at X730 l730 y730 z730 st730 hQ730
  subst l730 y730 z730
  obtain ⟨rfl, N730q, e730⟩ := hQ730
  have N730 := Fr.app N729 N730q
  obtain ⟨_, _, ⟨T731, L731, k731, n731⟩, -, X731, hS2_731, hg2_731, ⟨Lc731, hQ731, l731, y731, z731, hCs731⟩, st731⟩ := callSS X730 hx (y := (⟨"com/example/tenpoint/tenpoint/AsciiCaseStartsWithPinLaw", "str", "(ICCC)Ljava/lang/String;"⟩ : MethodName)) hown (mvT hZ (hw _ (List.mem_of_getElem? (i := 7) rfl))) (mvT hZ (hw _ (List.mem_of_getElem? (i := 8) rfl))) (mvT hZ (hw _ (List.mem_of_getElem? (i := 2) rfl))) (mvT hZ (hw _ (List.mem_of_getElem? (i := 9) rfl))) (by decide) (backOfSH (W := 0) (rm3 l Z ag hw [] (p5 &&& (3 : Int32)) (own_pick p0) (own_pick p1) (own_pick p2) cs h0 n0 Z0 O_ S_cs hcs S_ad S_hi S_lo) hZ (hw _ (List.mem_of_getElem? (i := 9) rfl)) (hw _ (List.mem_of_getElem? (i := 2) rfl)) (by decide) (by decide) hEL hC.1) (g := (mkF m 72 (own_loc43 p0 p1 p2 p3 p4 p5) [(.int (own_pick p2)), (.int (own_pick p1)), (.int (own_pick p0)), (.int (p5 &&& (3 : Int32)))])) rfl (by rw [hml]; rfl) (argsL := [(.int (p5 &&& (3 : Int32))), (.int (own_pick p0)), (.int (own_pick p1)), (.int (own_pick p2))]) (rest := []) (lenOf pd_10 rfl) rfl (by show 2 * 0 + _ ≤ _; exact Nat.le_of_eq rfl) (hb hby at_72) (fun _ _ => ⟨rfl, e730, (by decide : 0 + 6 ≤ _), (by decide : 0 + 18 ≤ _)⟩)
  dsimp only [Pt.U, Pt.locs, Pt.cells, Pt.slots] at X731 l731 y731 z731 st731 hQ731 hS2_731 hg2_731 hCs731
  subst l731 y731 z731
  obtain ⟨X731, hS, hZ, hown⟩ := rebS hS (by rw [e730]; exact hkS) X731 hS2_731 hg2_731 hZ hown
  obtain ⟨r731, rfl, N731q, K731, ge_r731, gq_r731, Sr731⟩ := hQ731
  have N731 := Fr.app N730 N731q
  have x732 := O_.keep K731 all0
  have sz733 : n0 ≤ T731.heap.size := Nat.le_trans Z0 K731.1
  have hkS := Nat.le_trans hkS K731.1
  have hC := hC.trans hCs731
  have hkS : T731.heap.size ≤ T731.heap.size := Nat.le_refl _
  have cp734 : ∀ target, own_S p e below T731 (mkF m 85 (own_loc44 p0 p1 p2 p3 p4 p5 r731) [(.int (own_der (own_pick p2) (own_ushr p5 (4 : Int32)))), (.int (own_der (own_pick p1) p4)), (.int (own_der (own_pick p0) p3)), (.int ((own_ushr p5 (2 : Int32)) &&& (3 : Int32)))]) target → own_S p e below s₁ (mkF m 0 (own_loc34 p0 p1 p2 p3 p4 p5) []) target := by
    intro target kt
    show own_S p e below s₁ (mkF m 0 (own_loc34 p0 p1 p2 p3 p4 p5) []) _
    refine cp728 _ ?_
    show own_S p e below T727 (mkF m 50 (own_loc41 p0 p1 p2 p3 p4 p5) [(.int p4), (.int (own_pick p1))]) _
    refine st729 _ ?_
    show own_S p e below T729 (mkF m 53 (own_loc41 p0 p1 p2 p3 p4 p5) [(.int (own_der (own_pick p1) p4))]) _
    refine XS.istore X729.here hx rfl (hb hby at_53) rfl (l' := (own_loc42 p0 p1 p2 p3 p4 p5)) rfl ?_
    show own_S p e below T729 (mkF m 55 (own_loc42 p0 p1 p2 p3 p4 p5) []) _
    refine XS.iload X729.here hx rfl (hb hby at_55) rfl ?_
    show own_S p e below T729 (mkF m 57 (own_loc42 p0 p1 p2 p3 p4 p5) [(.int (own_pick p2))]) _
    refine XS.iload X729.here hx rfl (hb hby at_57) rfl ?_
    show own_S p e below T729 (mkF m 59 (own_loc42 p0 p1 p2 p3 p4 p5) [(.int (own_ushr p5 (4 : Int32))), (.int (own_pick p2))]) _
    refine st730 _ ?_
    show own_S p e below T730 (mkF m 62 (own_loc42 p0 p1 p2 p3 p4 p5) [(.int (own_der (own_pick p2) (own_ushr p5 (4 : Int32))))]) _
    refine XS.istore X730.here hx rfl (hb hby at_62) rfl (l' := (own_loc43 p0 p1 p2 p3 p4 p5)) rfl ?_
    show own_S p e below T730 (mkF m 64 (own_loc43 p0 p1 p2 p3 p4 p5) []) _
    refine XS.iload X730.here hx rfl (hb hby at_64) rfl ?_
    show own_S p e below T730 (mkF m 66 (own_loc43 p0 p1 p2 p3 p4 p5) [(.int (p5 &&& (3 : Int32)))]) _
    refine XS.iload X730.here hx rfl (hb hby at_66) rfl ?_
    show own_S p e below T730 (mkF m 68 (own_loc43 p0 p1 p2 p3 p4 p5) [(.int (own_pick p0)), (.int (p5 &&& (3 : Int32)))]) _
    refine XS.iload X730.here hx rfl (hb hby at_68) rfl ?_
    show own_S p e below T730 (mkF m 70 (own_loc43 p0 p1 p2 p3 p4 p5) [(.int (own_pick p1)), (.int (own_pick p0)), (.int (p5 &&& (3 : Int32)))]) _
    refine XS.iload X730.here hx rfl (hb hby at_70) rfl ?_
    show own_S p e below T730 (mkF m 72 (own_loc43 p0 p1 p2 p3 p4 p5) [(.int (own_pick p2)), (.int (own_pick p1)), (.int (own_pick p0)), (.int (p5 &&& (3 : Int32)))]) _
    refine st731.trans ?_
    show own_S p e below T731 (mkF m 75 (own_loc43 p0 p1 p2 p3 p4 p5) [(.ref r731)]) _
    refine XS.astore X731.here hx rfl (hb hby at_75) rfl rfl (l' := (own_loc44 p0 p1 p2 p3 p4 p5 r731)) rfl ?_
    show own_S p e below T731 (mkF m 77 (own_loc44 p0 p1 p2 p3 p4 p5 r731) []) _
    refine XS.iload X731.here hx rfl (hb hby at_77) rfl ?_
    show own_S p e below T731 (mkF m 79 (own_loc44 p0 p1 p2 p3 p4 p5 r731) [(.int ((own_ushr p5 (2 : Int32)) &&& (3 : Int32)))]) _
    refine XS.iload X731.here hx rfl (hb hby at_79) rfl ?_
    show own_S p e below T731 (mkF m 81 (own_loc44 p0 p1 p2 p3 p4 p5 r731) [(.int (own_der (own_pick p0) p3)), (.int ((own_ushr p5 (2 : Int32)) &&& (3 : Int32)))]) _
    refine XS.iload X731.here hx rfl (hb hby at_81) rfl ?_
    show own_S p e below T731 (mkF m 83 (own_loc44 p0 p1 p2 p3 p4 p5 r731) [(.int (own_der (own_pick p1) p4)), (.int (own_der (own_pick p0) p3)), (.int ((own_ushr p5 (2 : Int32)) &&& (3 : Int32)))]) _
    refine XS.iload X731.here hx rfl (hb hby at_83) rfl ?_
    exact kt
  obtain ⟨_, _, ⟨T735, L735, k735, n735⟩, -, X735, hS2_735, hg2_735, ⟨Lc735, hQ735, l735, y735, z735, hCs735⟩, st735⟩ := callSS X731 hx (y := (⟨"com/example/tenpoint/tenpoint/AsciiCaseStartsWithPinLaw", "str", "(ICCC)Ljava/lang/String;"⟩ : MethodName)) hown (mvT hZ (hw _ (List.mem_of_getElem? (i := 7) rfl))) (mvT hZ (hw _ (List.mem_of_getElem? (i := 8) rfl))) (mvT hZ (hw _ (List.mem_of_getElem? (i := 2) rfl))) (mvT hZ (hw _ (List.mem_of_getElem? (i := 9) rfl))) (by decide) (backOfSH (W := 0) (rm3 l Z ag hw [] ((own_ushr p5 (2 : Int32)) &&& (3 : Int32)) (own_der (own_pick p0) p3) (own_der (own_pick p1) p4) (own_der (own_pick p2) (own_ushr p5 (4 : Int32))) cs T731.heap n0 sz733 x732 S_cs hcs S_ad S_hi S_lo) hZ (hw _ (List.mem_of_getElem? (i := 9) rfl)) (hw _ (List.mem_of_getElem? (i := 2) rfl)) (by decide) (by decide) hEL hC.1) (g := (mkF m 85 (own_loc44 p0 p1 p2 p3 p4 p5 r731) [(.int (own_der (own_pick p2) (own_ushr p5 (4 : Int32)))), (.int (own_der (own_pick p1) p4)), (.int (own_der (own_pick p0) p3)), (.int ((own_ushr p5 (2 : Int32)) &&& (3 : Int32)))])) rfl (by rw [hml]; rfl) (argsL := [(.int ((own_ushr p5 (2 : Int32)) &&& (3 : Int32))), (.int (own_der (own_pick p0) p3)), (.int (own_der (own_pick p1) p4)), (.int (own_der (own_pick p2) (own_ushr p5 (4 : Int32))))]) (rest := []) (lenOf pd_10 rfl) rfl (by show 2 * 0 + _ ≤ _; exact Nat.le_of_eq rfl) (hb hby at_85) (fun _ _ => ⟨rfl, rfl, (by decide : 6 + 6 ≤ _), (by decide : 18 + 18 ≤ _)⟩)
  dsimp only [Pt.U, Pt.locs, Pt.cells, Pt.slots] at X735 l735 y735 z735 st735 hQ735 hS2_735 hg2_735 hCs735
  subst l735 y735 z735
  obtain ⟨X735, hS, hZ, hown⟩ := rebS hS hkS X735 hS2_735 hg2_735 hZ hown
  obtain ⟨r735, rfl, N735q, K735, ge_r735, gq_r735, Sr735⟩ := hQ735
  have N735 := Fr.app N731 N735q
  have ne736 : r731 ≠ r735 := Nat.ne_of_lt (Nat.lt_of_lt_of_le Sr731.lt gq_r735)
  have x737 := x732.keep K735 all0
  have x738 := Sr731.keep0 K735
  have sz739 : n0 ≤ T735.heap.size := Nat.le_trans sz733 K735.1
  have hkS := Nat.le_trans hkS K735.1
  have hC := hC.trans hCs735
  have hkS : T735.heap.size ≤ T735.heap.size := Nat.le_refl _
  have cp741 : ∀ target, own_S p e below T735 (mkF m 94 (own_loc45 p0 p1 p2 p3 p4 p5 r731 r735) [(.int ((own_ushr p5 (2 : Int32)) &&& (3 : Int32))), (.int (p5 &&& (3 : Int32)))]) target → own_S p e below s₁ (mkF m 0 (own_loc34 p0 p1 p2 p3 p4 p5) []) target := by
    intro target kt
    show own_S p e below s₁ (mkF m 0 (own_loc34 p0 p1 p2 p3 p4 p5) []) _
    refine cp734 _ ?_
    show own_S p e below T731 (mkF m 85 (own_loc44 p0 p1 p2 p3 p4 p5 r731) [(.int (own_der (own_pick p2) (own_ushr p5 (4 : Int32)))), (.int (own_der (own_pick p1) p4)), (.int (own_der (own_pick p0) p3)), (.int ((own_ushr p5 (2 : Int32)) &&& (3 : Int32)))]) _
    refine st735.trans ?_
    show own_S p e below T735 (mkF m 88 (own_loc44 p0 p1 p2 p3 p4 p5 r731) [(.ref r735)]) _
    refine XS.astore X735.here hx rfl (hb hby at_88) rfl rfl (l' := (own_loc45 p0 p1 p2 p3 p4 p5 r731 r735)) rfl ?_
    show own_S p e below T735 (mkF m 90 (own_loc45 p0 p1 p2 p3 p4 p5 r731 r735) []) _
    refine XS.iload X735.here hx rfl (hb hby at_90) rfl ?_
    show own_S p e below T735 (mkF m 92 (own_loc45 p0 p1 p2 p3 p4 p5 r731 r735) [(.int (p5 &&& (3 : Int32)))]) _
    refine XS.iload X735.here hx rfl (hb hby at_92) rfl ?_
    exact kt
  by_cases hc740 : (p5 &&& (3 : Int32)) < ((own_ushr p5 (2 : Int32)) &&& (3 : Int32))
  · obtain ⟨_, _, ⟨T742, L742, k742, n742⟩, -, X742, ⟨Lc742, hQ742, l742, y742, z742⟩, st742⟩ := Jvm.LawKit.callS X735 hx (y := (⟨"com/example/tenpoint/tenpoint/AsciiCase", "startsWith", "(Ljava/lang/String;Ljava/lang/String;)Z"⟩ : MethodName)) hown (mvT hZ (hw _ (List.mem_of_getElem? (i := 43) rfl))) (mvT hZ (hw _ (List.mem_of_getElem? (i := 44) rfl))) (mvT hZ (hw _ (List.mem_of_getElem? (i := 45) rfl))) (mvT hZ (hw _ (List.mem_of_getElem? (i := 46) rfl))) (by decide) (backOf (W := 0) (rm10 l Z ag hw [] r731 r735 (own_list (p5 &&& (3 : Int32)) (own_pick p0) (own_pick p1) (own_pick p2)) ((own_ushr p5 (2 : Int32)) &&& (3 : Int32)) (own_der (own_pick p0) p3) (own_der (own_pick p1) p4) (own_der (own_pick p2) (own_ushr p5 (4 : Int32))) cs gf T735.heap n0 sz739 x738 Sr735 (own_list_len _ _ _ _) (own_ll4 p5) x737 S_cs hcs S_gf rv_gf S_ad S_hi S_lo) hZ (hw _ (List.mem_of_getElem? (i := 46) rfl)) (hw _ (List.mem_of_getElem? (i := 45) rfl)) (by decide) (by decide)) (g := (mkF m 156 (own_loc46 p0 p1 p2 p3 p4 p5 r731 r735) [(.ref r735), (.ref r731)])) rfl (by rw [hml]; rfl) (argsL := [(.ref r731), (.ref r735)]) (rest := []) (lenOf pd_14 rfl) rfl (by show 2 * 0 + _ ≤ _; exact Nat.le_of_eq rfl) (hb hby at_156) (fun _ _ => ⟨rfl, rfl, (by decide : 12 + 0 ≤ _), (by decide : 36 + 0 ≤ _)⟩)
    dsimp only [Pt.U, Pt.locs, Pt.cells, Pt.slots] at X742 l742 y742 z742 st742 hQ742
    subst l742 y742 z742
    obtain ⟨rfl, N742q, e742⟩ := hQ742
    have N742 := Fr.app N735 N742q
    obtain ⟨fs, hr, hrun, hended, hEnd⟩ := X742.leaveW hS (by rw [e742]; exact hkS) (v := some (.int (1 : Int32))) (fun h => by rw [Bd.returns] at h; cases h)
    refine ⟨_, _, pre0 _ ?_, hrun, hended, _, _, rfl, ?_, ?_, hEnd.1, hEnd.2.1, hEnd.2.2.1, hEnd.2.2.2.mono (by decide) (by decide)⟩
    · show own_S p e below s₁ (mkF m 0 (own_loc34 p0 p1 p2 p3 p4 p5) []) _
      refine cp741 _ ?_
      show own_S p e below T735 (mkF m 94 (own_loc45 p0 p1 p2 p3 p4 p5 r731 r735) [(.int ((own_ushr p5 (2 : Int32)) &&& (3 : Int32))), (.int (p5 &&& (3 : Int32)))]) _
      refine XS.icmpYes X735.here hx rfl (pc0 := 94) (pc' := 149) rfl (hb hby at_94) rfl (tlt hc740).1 (by decide) (by decide) ?_
      show own_S p e below T735 (mkF m 149 (own_loc45 p0 p1 p2 p3 p4 p5 r731 r735) []) _
      refine XS.iconst X735.here hx rfl (hb hby at_149) ?_
      show own_S p e below T735 (mkF m 150 (own_loc45 p0 p1 p2 p3 p4 p5 r731 r735) [.int 0]) _
      refine XS.istore X735.here hx rfl (hb hby at_150) rfl (l' := (own_loc46 p0 p1 p2 p3 p4 p5 r731 r735)) rfl ?_
      show own_S p e below T735 (mkF m 152 (own_loc46 p0 p1 p2 p3 p4 p5 r731 r735) []) _
      refine XS.aload X735.here hx rfl (hb hby at_152) rfl rfl ?_
      show own_S p e below T735 (mkF m 154 (own_loc46 p0 p1 p2 p3 p4 p5 r731 r735) [(.ref r731)]) _
      refine XS.aload X735.here hx rfl (hb hby at_154) rfl rfl ?_
      show own_S p e below T735 (mkF m 156 (own_loc46 p0 p1 p2 p3 p4 p5 r731 r735) [(.ref r735), (.ref r731)]) _
      refine st742 _ ?_
      show own_S p e below T742 (mkF m 159 (own_loc46 p0 p1 p2 p3 p4 p5 r731 r735) [(.int (own_swg (own_list (p5 &&& (3 : Int32)) (own_pick p0) (own_pick p1) (own_pick p2)) ((own_ushr p5 (2 : Int32)) &&& (3 : Int32)) (own_der (own_pick p0) p3) (own_der (own_pick p1) p4) (own_der (own_pick p2) (own_ushr p5 (4 : Int32)))))]) _
      refine XS.iload X742.here hx rfl (hb hby at_159) rfl ?_
      show own_S p e below T742 (mkF m 161 (own_loc46 p0 p1 p2 p3 p4 p5 r731 r735) [.int 0, (.int (own_swg (own_list (p5 &&& (3 : Int32)) (own_pick p0) (own_pick p1) (own_pick p2)) ((own_ushr p5 (2 : Int32)) &&& (3 : Int32)) (own_der (own_pick p0) p3) (own_der (own_pick p1) p4) (own_der (own_pick p2) (own_ushr p5 (4 : Int32)))))]) _
      refine XS.icmpNo X742.here hx rfl (hb hby at_161) rfl (teq (show (own_swg (own_list (p5 &&& (3 : Int32)) (own_pick p0) (own_pick p1) (own_pick p2)) ((own_ushr p5 (2 : Int32)) &&& (3 : Int32)) (own_der (own_pick p0) p3) (own_der (own_pick p1) p4) (own_der (own_pick p2) (own_ushr p5 (4 : Int32)))) = (0 : Int32) from ((own_fin p0 p1 p2 p3 p4 p5).trans (show own_exq p0 p1 p2 p3 p4 p5 = (0 : Int32) from by unfold own_exq own_ex; rw [if_pos hc740])))).2 ?_
      show own_S p e below T742 (mkF m 164 (own_loc46 p0 p1 p2 p3 p4 p5 r731 r735) []) _
      refine XS.iconst X742.here hx rfl (hb hby at_164) ?_
      show own_S p e below T742 (mkF m 165 (own_loc46 p0 p1 p2 p3 p4 p5 r731 r735) [.int 1]) _
      refine XS.goto X742.here hx rfl (pc0 := 165) (pc' := 169) rfl (hb hby at_165) (by decide) (by decide) ?_
      show own_S p e below T742 (mkF m 169 (own_loc46 p0 p1 p2 p3 p4 p5 r731 r735) [.int 1]) _
      exact retN X742 hx (t := .boolean) Bd.returns (by simp) (hb hby at_169) hr
    · exact ⟨rfl, N742⟩
    · show CHr Z own_EL s.vm s.heap T742.vm T742.heap
      rw [hh, show T742.heap = T735.heap from e742]
      exact hC.trans (CHv.at X742 hZ hEL hC.1)
  · have cp744 : ∀ target, own_S p e below T735 (mkF m 100 (own_loc45 p0 p1 p2 p3 p4 p5 r731 r735) [.int 1, (.int ((own_ushr p5 (2 : Int32)) &&& (3 : Int32)))]) target → own_S p e below s₁ (mkF m 0 (own_loc34 p0 p1 p2 p3 p4 p5) []) target := by
      intro target kt
      show own_S p e below s₁ (mkF m 0 (own_loc34 p0 p1 p2 p3 p4 p5) []) _
      refine cp741 _ ?_
      show own_S p e below T735 (mkF m 94 (own_loc45 p0 p1 p2 p3 p4 p5 r731 r735) [(.int ((own_ushr p5 (2 : Int32)) &&& (3 : Int32))), (.int (p5 &&& (3 : Int32)))]) _
      refine XS.icmpNo X735.here hx rfl (hb hby at_94) rfl (flt hc740).1 ?_
      show own_S p e below T735 (mkF m 97 (own_loc45 p0 p1 p2 p3 p4 p5 r731 r735) []) _
      refine XS.iload X735.here hx rfl (hb hby at_97) rfl ?_
      show own_S p e below T735 (mkF m 99 (own_loc45 p0 p1 p2 p3 p4 p5 r731 r735) [(.int ((own_ushr p5 (2 : Int32)) &&& (3 : Int32)))]) _
      refine XS.iconst X735.here hx rfl (hb hby at_99) ?_
      exact kt
    by_cases hc743 : ((own_ushr p5 (2 : Int32)) &&& (3 : Int32)) < (1 : Int32)
    · have cp745 : ∀ target, own_S p e below T735 (mkF m 156 (own_loc47 p0 p1 p2 p3 p4 p5 r731 r735) [(.ref r735), (.ref r731)]) target → own_S p e below s₁ (mkF m 0 (own_loc34 p0 p1 p2 p3 p4 p5) []) target := by
        intro target kt
        show own_S p e below s₁ (mkF m 0 (own_loc34 p0 p1 p2 p3 p4 p5) []) _
        refine cp744 _ ?_
        show own_S p e below T735 (mkF m 100 (own_loc45 p0 p1 p2 p3 p4 p5 r731 r735) [.int 1, (.int ((own_ushr p5 (2 : Int32)) &&& (3 : Int32)))]) _
        refine XS.icmpYes X735.here hx rfl (pc0 := 100) (pc' := 113) rfl (hb hby at_100) rfl (tlt hc743).1 (by decide) (by decide) ?_
        show own_S p e below T735 (mkF m 113 (own_loc45 p0 p1 p2 p3 p4 p5 r731 r735) []) _
        refine XS.iload X735.here hx rfl (hb hby at_113) rfl ?_
        show own_S p e below T735 (mkF m 115 (own_loc45 p0 p1 p2 p3 p4 p5 r731 r735) [(.int ((own_ushr p5 (2 : Int32)) &&& (3 : Int32)))]) _
        refine XS.iconst X735.here hx rfl (hb hby at_115) ?_
        show own_S p e below T735 (mkF m 116 (own_loc45 p0 p1 p2 p3 p4 p5 r731 r735) [.int 2, (.int ((own_ushr p5 (2 : Int32)) &&& (3 : Int32)))]) _
        refine XS.icmpYes X735.here hx rfl (pc0 := 116) (pc' := 129) rfl (hb hby at_116) rfl (tlt (show ((own_ushr p5 (2 : Int32)) &&& (3 : Int32)) < (2 : Int32) from (own_l12 hc743))).1 (by decide) (by decide) ?_
        show own_S p e below T735 (mkF m 129 (own_loc45 p0 p1 p2 p3 p4 p5 r731 r735) []) _
        refine XS.iload X735.here hx rfl (hb hby at_129) rfl ?_
        show own_S p e below T735 (mkF m 131 (own_loc45 p0 p1 p2 p3 p4 p5 r731 r735) [(.int ((own_ushr p5 (2 : Int32)) &&& (3 : Int32)))]) _
        refine XS.iconst X735.here hx rfl (hb hby at_131) ?_
        show own_S p e below T735 (mkF m 132 (own_loc45 p0 p1 p2 p3 p4 p5 r731 r735) [.int 3, (.int ((own_ushr p5 (2 : Int32)) &&& (3 : Int32)))]) _
        refine XS.icmpYes X735.here hx rfl (pc0 := 132) (pc' := 145) rfl (hb hby at_132) rfl (tlt (show ((own_ushr p5 (2 : Int32)) &&& (3 : Int32)) < (3 : Int32) from (own_l13 hc743))).1 (by decide) (by decide) ?_
        show own_S p e below T735 (mkF m 145 (own_loc45 p0 p1 p2 p3 p4 p5 r731 r735) []) _
        refine XS.iconst X735.here hx rfl (hb hby at_145) ?_
        show own_S p e below T735 (mkF m 146 (own_loc45 p0 p1 p2 p3 p4 p5 r731 r735) [.int 1]) _
        refine XS.goto X735.here hx rfl (pc0 := 146) (pc' := 150) rfl (hb hby at_146) (by decide) (by decide) ?_
        show own_S p e below T735 (mkF m 150 (own_loc45 p0 p1 p2 p3 p4 p5 r731 r735) [.int 1]) _
        refine XS.istore X735.here hx rfl (hb hby at_150) rfl (l' := (own_loc47 p0 p1 p2 p3 p4 p5 r731 r735)) rfl ?_
        show own_S p e below T735 (mkF m 152 (own_loc47 p0 p1 p2 p3 p4 p5 r731 r735) []) _
        refine XS.aload X735.here hx rfl (hb hby at_152) rfl rfl ?_
        show own_S p e below T735 (mkF m 154 (own_loc47 p0 p1 p2 p3 p4 p5 r731 r735) [(.ref r731)]) _
        refine XS.aload X735.here hx rfl (hb hby at_154) rfl rfl ?_
        exact kt
      obtain ⟨_, _, ⟨T746, L746, k746, n746⟩, -, X746, ⟨Lc746, hQ746, l746, y746, z746⟩, st746⟩ := Jvm.LawKit.callS X735 hx (y := (⟨"com/example/tenpoint/tenpoint/AsciiCase", "startsWith", "(Ljava/lang/String;Ljava/lang/String;)Z"⟩ : MethodName)) hown (mvT hZ (hw _ (List.mem_of_getElem? (i := 43) rfl))) (mvT hZ (hw _ (List.mem_of_getElem? (i := 44) rfl))) (mvT hZ (hw _ (List.mem_of_getElem? (i := 45) rfl))) (mvT hZ (hw _ (List.mem_of_getElem? (i := 46) rfl))) (by decide) (backOf (W := 0) (rm10 l Z ag hw [] r731 r735 (own_list (p5 &&& (3 : Int32)) (own_pick p0) (own_pick p1) (own_pick p2)) ((own_ushr p5 (2 : Int32)) &&& (3 : Int32)) (own_der (own_pick p0) p3) (own_der (own_pick p1) p4) (own_der (own_pick p2) (own_ushr p5 (4 : Int32))) cs gf T735.heap n0 sz739 x738 Sr735 (own_list_len _ _ _ _) (own_ll4 p5) x737 S_cs hcs S_gf rv_gf S_ad S_hi S_lo) hZ (hw _ (List.mem_of_getElem? (i := 46) rfl)) (hw _ (List.mem_of_getElem? (i := 45) rfl)) (by decide) (by decide)) (g := (mkF m 156 (own_loc47 p0 p1 p2 p3 p4 p5 r731 r735) [(.ref r735), (.ref r731)])) rfl (by rw [hml]; rfl) (argsL := [(.ref r731), (.ref r735)]) (rest := []) (lenOf pd_14 rfl) rfl (by show 2 * 0 + _ ≤ _; exact Nat.le_of_eq rfl) (hb hby at_156) (fun _ _ => ⟨rfl, rfl, (by decide : 12 + 0 ≤ _), (by decide : 36 + 0 ≤ _)⟩)
      dsimp only [Pt.U, Pt.locs, Pt.cells, Pt.slots] at X746 l746 y746 z746 st746 hQ746
      subst l746 y746 z746
      obtain ⟨rfl, N746q, e746⟩ := hQ746
      have N746 := Fr.app N735 N746q
      obtain ⟨fs, hr, hrun, hended, hEnd⟩ := X746.leaveW hS (by rw [e746]; exact hkS) (v := some (.int (1 : Int32))) (fun h => by rw [Bd.returns] at h; cases h)
      refine ⟨_, _, pre0 _ ?_, hrun, hended, _, _, rfl, ?_, ?_, hEnd.1, hEnd.2.1, hEnd.2.2.1, hEnd.2.2.2.mono (by decide) (by decide)⟩
      · show own_S p e below s₁ (mkF m 0 (own_loc34 p0 p1 p2 p3 p4 p5) []) _
        refine cp745 _ ?_
        show own_S p e below T735 (mkF m 156 (own_loc47 p0 p1 p2 p3 p4 p5 r731 r735) [(.ref r735), (.ref r731)]) _
        refine st746 _ ?_
        show own_S p e below T746 (mkF m 159 (own_loc47 p0 p1 p2 p3 p4 p5 r731 r735) [(.int (own_swg (own_list (p5 &&& (3 : Int32)) (own_pick p0) (own_pick p1) (own_pick p2)) ((own_ushr p5 (2 : Int32)) &&& (3 : Int32)) (own_der (own_pick p0) p3) (own_der (own_pick p1) p4) (own_der (own_pick p2) (own_ushr p5 (4 : Int32)))))]) _
        refine XS.iload X746.here hx rfl (hb hby at_159) rfl ?_
        show own_S p e below T746 (mkF m 161 (own_loc47 p0 p1 p2 p3 p4 p5 r731 r735) [.int 1, (.int (own_swg (own_list (p5 &&& (3 : Int32)) (own_pick p0) (own_pick p1) (own_pick p2)) ((own_ushr p5 (2 : Int32)) &&& (3 : Int32)) (own_der (own_pick p0) p3) (own_der (own_pick p1) p4) (own_der (own_pick p2) (own_ushr p5 (4 : Int32)))))]) _
        refine XS.icmpNo X746.here hx rfl (hb hby at_161) rfl (teq (show (own_swg (own_list (p5 &&& (3 : Int32)) (own_pick p0) (own_pick p1) (own_pick p2)) ((own_ushr p5 (2 : Int32)) &&& (3 : Int32)) (own_der (own_pick p0) p3) (own_der (own_pick p1) p4) (own_der (own_pick p2) (own_ushr p5 (4 : Int32)))) = (1 : Int32) from ((own_fin p0 p1 p2 p3 p4 p5).trans (show own_exq p0 p1 p2 p3 p4 p5 = (1 : Int32) from by unfold own_exq own_ex; rw [if_neg hc740, if_pos hc743])))).2 ?_
        show own_S p e below T746 (mkF m 164 (own_loc47 p0 p1 p2 p3 p4 p5 r731 r735) []) _
        refine XS.iconst X746.here hx rfl (hb hby at_164) ?_
        show own_S p e below T746 (mkF m 165 (own_loc47 p0 p1 p2 p3 p4 p5 r731 r735) [.int 1]) _
        refine XS.goto X746.here hx rfl (pc0 := 165) (pc' := 169) rfl (hb hby at_165) (by decide) (by decide) ?_
        show own_S p e below T746 (mkF m 169 (own_loc47 p0 p1 p2 p3 p4 p5 r731 r735) [.int 1]) _
        exact retN X746 hx (t := .boolean) Bd.returns (by simp) (hb hby at_169) hr
      · exact ⟨rfl, N746⟩
      · show CHr Z own_EL s.vm s.heap T746.vm T746.heap
        rw [hh, show T746.heap = T735.heap from e746]
        exact hC.trans (CHv.at X746 hZ hEL hC.1)
    · obtain ⟨_, _, ⟨T747, L747, k747, n747⟩, -, X747, ⟨Lc747, hQ747, l747, y747, z747⟩, st747⟩ := Jvm.LawKit.callS X735 hx (y := (⟨"com/example/tenpoint/tenpoint/AsciiCaseStartsWithPinLaw", "m", "(CC)Z"⟩ : MethodName)) hown (mvT hZ (hw _ (List.mem_of_getElem? (i := 76) rfl))) (mvT hZ (hw _ (List.mem_of_getElem? (i := 77) rfl))) (mvT hZ (hw _ (List.mem_of_getElem? (i := 2) rfl))) (mvT hZ (hw _ (List.mem_of_getElem? (i := 78) rfl))) (by decide) (backOf (W := 0) (rm18 l Z ag hw [] (own_pick p0) (own_der (own_pick p0) p3)  T735.heap n0 sz739 ) hZ (hw _ (List.mem_of_getElem? (i := 78) rfl)) (hw _ (List.mem_of_getElem? (i := 2) rfl)) (by decide) (by decide)) (g := (mkF m 107 (own_loc45 p0 p1 p2 p3 p4 p5 r731 r735) [(.int (own_der (own_pick p0) p3)), (.int (own_pick p0))])) rfl (by rw [hml]; rfl) (argsL := [(.int (own_pick p0)), (.int (own_der (own_pick p0) p3))]) (rest := []) (lenOf pd_5 rfl) rfl (by show 2 * 0 + _ ≤ _; exact Nat.le_of_eq rfl) (hb hby at_107) (fun _ _ => ⟨rfl, rfl, (by decide : 12 + 0 ≤ _), (by decide : 36 + 0 ≤ _)⟩)
      dsimp only [Pt.U, Pt.locs, Pt.cells, Pt.slots] at X747 l747 y747 z747 st747 hQ747
      subst l747 y747 z747
      obtain ⟨rfl, N747q, e747⟩ := hQ747
      have N747 := Fr.app N735 N747q
      have cp749 : ∀ target, own_S p e below T747 (mkF m 110 (own_loc45 p0 p1 p2 p3 p4 p5 r731 r735) [(.int (own_m (own_pick p0) (own_der (own_pick p0) p3)))]) target → own_S p e below s₁ (mkF m 0 (own_loc34 p0 p1 p2 p3 p4 p5) []) target := by
        intro target kt
        show own_S p e below s₁ (mkF m 0 (own_loc34 p0 p1 p2 p3 p4 p5) []) _
        refine cp744 _ ?_
        show own_S p e below T735 (mkF m 100 (own_loc45 p0 p1 p2 p3 p4 p5 r731 r735) [.int 1, (.int ((own_ushr p5 (2 : Int32)) &&& (3 : Int32)))]) _
        refine XS.icmpNo X735.here hx rfl (hb hby at_100) rfl (flt hc743).1 ?_
        show own_S p e below T735 (mkF m 103 (own_loc45 p0 p1 p2 p3 p4 p5 r731 r735) []) _
        refine XS.iload X735.here hx rfl (hb hby at_103) rfl ?_
        show own_S p e below T735 (mkF m 105 (own_loc45 p0 p1 p2 p3 p4 p5 r731 r735) [(.int (own_pick p0))]) _
        refine XS.iload X735.here hx rfl (hb hby at_105) rfl ?_
        show own_S p e below T735 (mkF m 107 (own_loc45 p0 p1 p2 p3 p4 p5 r731 r735) [(.int (own_der (own_pick p0) p3)), (.int (own_pick p0))]) _
        refine st747 _ ?_
        exact kt
      by_cases hc748 : (own_m (own_pick p0) (own_der (own_pick p0) p3)) = (0 : Int32)
      · obtain ⟨_, _, ⟨T750, L750, k750, n750⟩, -, X750, ⟨Lc750, hQ750, l750, y750, z750⟩, st750⟩ := Jvm.LawKit.callS X747 hx (y := (⟨"com/example/tenpoint/tenpoint/AsciiCase", "startsWith", "(Ljava/lang/String;Ljava/lang/String;)Z"⟩ : MethodName)) hown (mvT hZ (hw _ (List.mem_of_getElem? (i := 43) rfl))) (mvT hZ (hw _ (List.mem_of_getElem? (i := 44) rfl))) (mvT hZ (hw _ (List.mem_of_getElem? (i := 45) rfl))) (mvT hZ (hw _ (List.mem_of_getElem? (i := 46) rfl))) (by decide) (backOf (W := 0) (rm10 l Z ag hw [] r731 r735 (own_list (p5 &&& (3 : Int32)) (own_pick p0) (own_pick p1) (own_pick p2)) ((own_ushr p5 (2 : Int32)) &&& (3 : Int32)) (own_der (own_pick p0) p3) (own_der (own_pick p1) p4) (own_der (own_pick p2) (own_ushr p5 (4 : Int32))) cs gf T735.heap n0 sz739 x738 Sr735 (own_list_len _ _ _ _) (own_ll4 p5) x737 S_cs hcs S_gf rv_gf S_ad S_hi S_lo) hZ (hw _ (List.mem_of_getElem? (i := 46) rfl)) (hw _ (List.mem_of_getElem? (i := 45) rfl)) (by decide) (by decide)) (g := (mkF m 156 (own_loc46 p0 p1 p2 p3 p4 p5 r731 r735) [(.ref r735), (.ref r731)])) rfl (by rw [hml]; rfl) (argsL := [(.ref r731), (.ref r735)]) (rest := []) (lenOf pd_14 rfl) rfl (by show 2 * 0 + _ ≤ _; exact Nat.le_of_eq rfl) (hb hby at_156) (fun _ _ => ⟨rfl, e747, (by decide : 12 + 0 ≤ _), (by decide : 36 + 0 ≤ _)⟩)
        dsimp only [Pt.U, Pt.locs, Pt.cells, Pt.slots] at X750 l750 y750 z750 st750 hQ750
        subst l750 y750 z750
        obtain ⟨rfl, N750q, e750⟩ := hQ750
        have N750 := Fr.app N747 N750q
        obtain ⟨fs, hr, hrun, hended, hEnd⟩ := X750.leaveW hS (by rw [e750]; exact hkS) (v := some (.int (1 : Int32))) (fun h => by rw [Bd.returns] at h; cases h)
        refine ⟨_, _, pre0 _ ?_, hrun, hended, _, _, rfl, ?_, ?_, hEnd.1, hEnd.2.1, hEnd.2.2.1, hEnd.2.2.2.mono (by decide) (by decide)⟩
        · show own_S p e below s₁ (mkF m 0 (own_loc34 p0 p1 p2 p3 p4 p5) []) _
          refine cp749 _ ?_
          show own_S p e below T747 (mkF m 110 (own_loc45 p0 p1 p2 p3 p4 p5 r731 r735) [(.int (own_m (own_pick p0) (own_der (own_pick p0) p3)))]) _
          refine XS.ifYes X747.here hx rfl (pc0 := 110) (pc' := 149) rfl (hb hby at_110) rfl ((if0 _ _).trans (teq hc748).1) (by decide) (by decide) ?_
          show own_S p e below T747 (mkF m 149 (own_loc45 p0 p1 p2 p3 p4 p5 r731 r735) []) _
          refine XS.iconst X747.here hx rfl (hb hby at_149) ?_
          show own_S p e below T747 (mkF m 150 (own_loc45 p0 p1 p2 p3 p4 p5 r731 r735) [.int 0]) _
          refine XS.istore X747.here hx rfl (hb hby at_150) rfl (l' := (own_loc46 p0 p1 p2 p3 p4 p5 r731 r735)) rfl ?_
          show own_S p e below T747 (mkF m 152 (own_loc46 p0 p1 p2 p3 p4 p5 r731 r735) []) _
          refine XS.aload X747.here hx rfl (hb hby at_152) rfl rfl ?_
          show own_S p e below T747 (mkF m 154 (own_loc46 p0 p1 p2 p3 p4 p5 r731 r735) [(.ref r731)]) _
          refine XS.aload X747.here hx rfl (hb hby at_154) rfl rfl ?_
          show own_S p e below T747 (mkF m 156 (own_loc46 p0 p1 p2 p3 p4 p5 r731 r735) [(.ref r735), (.ref r731)]) _
          refine st750 _ ?_
          show own_S p e below T750 (mkF m 159 (own_loc46 p0 p1 p2 p3 p4 p5 r731 r735) [(.int (own_swg (own_list (p5 &&& (3 : Int32)) (own_pick p0) (own_pick p1) (own_pick p2)) ((own_ushr p5 (2 : Int32)) &&& (3 : Int32)) (own_der (own_pick p0) p3) (own_der (own_pick p1) p4) (own_der (own_pick p2) (own_ushr p5 (4 : Int32)))))]) _
          refine XS.iload X750.here hx rfl (hb hby at_159) rfl ?_
          show own_S p e below T750 (mkF m 161 (own_loc46 p0 p1 p2 p3 p4 p5 r731 r735) [.int 0, (.int (own_swg (own_list (p5 &&& (3 : Int32)) (own_pick p0) (own_pick p1) (own_pick p2)) ((own_ushr p5 (2 : Int32)) &&& (3 : Int32)) (own_der (own_pick p0) p3) (own_der (own_pick p1) p4) (own_der (own_pick p2) (own_ushr p5 (4 : Int32)))))]) _
          refine XS.icmpNo X750.here hx rfl (hb hby at_161) rfl (teq (show (own_swg (own_list (p5 &&& (3 : Int32)) (own_pick p0) (own_pick p1) (own_pick p2)) ((own_ushr p5 (2 : Int32)) &&& (3 : Int32)) (own_der (own_pick p0) p3) (own_der (own_pick p1) p4) (own_der (own_pick p2) (own_ushr p5 (4 : Int32)))) = (0 : Int32) from ((own_fin p0 p1 p2 p3 p4 p5).trans (show own_exq p0 p1 p2 p3 p4 p5 = (0 : Int32) from by unfold own_exq own_ex; rw [if_neg hc740, if_neg hc743, if_pos hc748])))).2 ?_
          show own_S p e below T750 (mkF m 164 (own_loc46 p0 p1 p2 p3 p4 p5 r731 r735) []) _
          refine XS.iconst X750.here hx rfl (hb hby at_164) ?_
          show own_S p e below T750 (mkF m 165 (own_loc46 p0 p1 p2 p3 p4 p5 r731 r735) [.int 1]) _
          refine XS.goto X750.here hx rfl (pc0 := 165) (pc' := 169) rfl (hb hby at_165) (by decide) (by decide) ?_
          show own_S p e below T750 (mkF m 169 (own_loc46 p0 p1 p2 p3 p4 p5 r731 r735) [.int 1]) _
          exact retN X750 hx (t := .boolean) Bd.returns (by simp) (hb hby at_169) hr
        · exact ⟨rfl, N750⟩
        · show CHr Z own_EL s.vm s.heap T750.vm T750.heap
          rw [hh, show T750.heap = T735.heap from e750]
          exact hC.trans (CHv.at X750 hZ hEL hC.1)
      · have cp752 : ∀ target, own_S p e below T747 (mkF m 116 (own_loc45 p0 p1 p2 p3 p4 p5 r731 r735) [.int 2, (.int ((own_ushr p5 (2 : Int32)) &&& (3 : Int32)))]) target → own_S p e below s₁ (mkF m 0 (own_loc34 p0 p1 p2 p3 p4 p5) []) target := by
          intro target kt
          show own_S p e below s₁ (mkF m 0 (own_loc34 p0 p1 p2 p3 p4 p5) []) _
          refine cp749 _ ?_
          show own_S p e below T747 (mkF m 110 (own_loc45 p0 p1 p2 p3 p4 p5 r731 r735) [(.int (own_m (own_pick p0) (own_der (own_pick p0) p3)))]) _
          refine XS.ifNo X747.here hx rfl (hb hby at_110) rfl ((if0 _ _).trans (feq hc748).1) ?_
          show own_S p e below T747 (mkF m 113 (own_loc45 p0 p1 p2 p3 p4 p5 r731 r735) []) _
          refine XS.iload X747.here hx rfl (hb hby at_113) rfl ?_
          show own_S p e below T747 (mkF m 115 (own_loc45 p0 p1 p2 p3 p4 p5 r731 r735) [(.int ((own_ushr p5 (2 : Int32)) &&& (3 : Int32)))]) _
          refine XS.iconst X747.here hx rfl (hb hby at_115) ?_
          exact kt
        by_cases hc751 : ((own_ushr p5 (2 : Int32)) &&& (3 : Int32)) < (2 : Int32)
        · obtain ⟨_, _, ⟨T753, L753, k753, n753⟩, -, X753, ⟨Lc753, hQ753, l753, y753, z753⟩, st753⟩ := Jvm.LawKit.callS X747 hx (y := (⟨"com/example/tenpoint/tenpoint/AsciiCase", "startsWith", "(Ljava/lang/String;Ljava/lang/String;)Z"⟩ : MethodName)) hown (mvT hZ (hw _ (List.mem_of_getElem? (i := 43) rfl))) (mvT hZ (hw _ (List.mem_of_getElem? (i := 44) rfl))) (mvT hZ (hw _ (List.mem_of_getElem? (i := 45) rfl))) (mvT hZ (hw _ (List.mem_of_getElem? (i := 46) rfl))) (by decide) (backOf (W := 0) (rm10 l Z ag hw [] r731 r735 (own_list (p5 &&& (3 : Int32)) (own_pick p0) (own_pick p1) (own_pick p2)) ((own_ushr p5 (2 : Int32)) &&& (3 : Int32)) (own_der (own_pick p0) p3) (own_der (own_pick p1) p4) (own_der (own_pick p2) (own_ushr p5 (4 : Int32))) cs gf T735.heap n0 sz739 x738 Sr735 (own_list_len _ _ _ _) (own_ll4 p5) x737 S_cs hcs S_gf rv_gf S_ad S_hi S_lo) hZ (hw _ (List.mem_of_getElem? (i := 46) rfl)) (hw _ (List.mem_of_getElem? (i := 45) rfl)) (by decide) (by decide)) (g := (mkF m 156 (own_loc47 p0 p1 p2 p3 p4 p5 r731 r735) [(.ref r735), (.ref r731)])) rfl (by rw [hml]; rfl) (argsL := [(.ref r731), (.ref r735)]) (rest := []) (lenOf pd_14 rfl) rfl (by show 2 * 0 + _ ≤ _; exact Nat.le_of_eq rfl) (hb hby at_156) (fun _ _ => ⟨rfl, e747, (by decide : 12 + 0 ≤ _), (by decide : 36 + 0 ≤ _)⟩)
          dsimp only [Pt.U, Pt.locs, Pt.cells, Pt.slots] at X753 l753 y753 z753 st753 hQ753
          subst l753 y753 z753
          obtain ⟨rfl, N753q, e753⟩ := hQ753
          have N753 := Fr.app N747 N753q
          obtain ⟨fs, hr, hrun, hended, hEnd⟩ := X753.leaveW hS (by rw [e753]; exact hkS) (v := some (.int (1 : Int32))) (fun h => by rw [Bd.returns] at h; cases h)
          refine ⟨_, _, pre0 _ ?_, hrun, hended, _, _, rfl, ?_, ?_, hEnd.1, hEnd.2.1, hEnd.2.2.1, hEnd.2.2.2.mono (by decide) (by decide)⟩
          · show own_S p e below s₁ (mkF m 0 (own_loc34 p0 p1 p2 p3 p4 p5) []) _
            refine cp752 _ ?_
            show own_S p e below T747 (mkF m 116 (own_loc45 p0 p1 p2 p3 p4 p5 r731 r735) [.int 2, (.int ((own_ushr p5 (2 : Int32)) &&& (3 : Int32)))]) _
            refine XS.icmpYes X747.here hx rfl (pc0 := 116) (pc' := 129) rfl (hb hby at_116) rfl (tlt hc751).1 (by decide) (by decide) ?_
            show own_S p e below T747 (mkF m 129 (own_loc45 p0 p1 p2 p3 p4 p5 r731 r735) []) _
            refine XS.iload X747.here hx rfl (hb hby at_129) rfl ?_
            show own_S p e below T747 (mkF m 131 (own_loc45 p0 p1 p2 p3 p4 p5 r731 r735) [(.int ((own_ushr p5 (2 : Int32)) &&& (3 : Int32)))]) _
            refine XS.iconst X747.here hx rfl (hb hby at_131) ?_
            show own_S p e below T747 (mkF m 132 (own_loc45 p0 p1 p2 p3 p4 p5 r731 r735) [.int 3, (.int ((own_ushr p5 (2 : Int32)) &&& (3 : Int32)))]) _
            refine XS.icmpYes X747.here hx rfl (pc0 := 132) (pc' := 145) rfl (hb hby at_132) rfl (tlt (show ((own_ushr p5 (2 : Int32)) &&& (3 : Int32)) < (3 : Int32) from (own_l23 hc751))).1 (by decide) (by decide) ?_
            show own_S p e below T747 (mkF m 145 (own_loc45 p0 p1 p2 p3 p4 p5 r731 r735) []) _
            refine XS.iconst X747.here hx rfl (hb hby at_145) ?_
            show own_S p e below T747 (mkF m 146 (own_loc45 p0 p1 p2 p3 p4 p5 r731 r735) [.int 1]) _
            refine XS.goto X747.here hx rfl (pc0 := 146) (pc' := 150) rfl (hb hby at_146) (by decide) (by decide) ?_
            show own_S p e below T747 (mkF m 150 (own_loc45 p0 p1 p2 p3 p4 p5 r731 r735) [.int 1]) _
            refine XS.istore X747.here hx rfl (hb hby at_150) rfl (l' := (own_loc47 p0 p1 p2 p3 p4 p5 r731 r735)) rfl ?_
            show own_S p e below T747 (mkF m 152 (own_loc47 p0 p1 p2 p3 p4 p5 r731 r735) []) _
            refine XS.aload X747.here hx rfl (hb hby at_152) rfl rfl ?_
            show own_S p e below T747 (mkF m 154 (own_loc47 p0 p1 p2 p3 p4 p5 r731 r735) [(.ref r731)]) _
            refine XS.aload X747.here hx rfl (hb hby at_154) rfl rfl ?_
            show own_S p e below T747 (mkF m 156 (own_loc47 p0 p1 p2 p3 p4 p5 r731 r735) [(.ref r735), (.ref r731)]) _
            refine st753 _ ?_
            show own_S p e below T753 (mkF m 159 (own_loc47 p0 p1 p2 p3 p4 p5 r731 r735) [(.int (own_swg (own_list (p5 &&& (3 : Int32)) (own_pick p0) (own_pick p1) (own_pick p2)) ((own_ushr p5 (2 : Int32)) &&& (3 : Int32)) (own_der (own_pick p0) p3) (own_der (own_pick p1) p4) (own_der (own_pick p2) (own_ushr p5 (4 : Int32)))))]) _
            refine XS.iload X753.here hx rfl (hb hby at_159) rfl ?_
            show own_S p e below T753 (mkF m 161 (own_loc47 p0 p1 p2 p3 p4 p5 r731 r735) [.int 1, (.int (own_swg (own_list (p5 &&& (3 : Int32)) (own_pick p0) (own_pick p1) (own_pick p2)) ((own_ushr p5 (2 : Int32)) &&& (3 : Int32)) (own_der (own_pick p0) p3) (own_der (own_pick p1) p4) (own_der (own_pick p2) (own_ushr p5 (4 : Int32)))))]) _
            refine XS.icmpNo X753.here hx rfl (hb hby at_161) rfl (teq (show (own_swg (own_list (p5 &&& (3 : Int32)) (own_pick p0) (own_pick p1) (own_pick p2)) ((own_ushr p5 (2 : Int32)) &&& (3 : Int32)) (own_der (own_pick p0) p3) (own_der (own_pick p1) p4) (own_der (own_pick p2) (own_ushr p5 (4 : Int32)))) = (1 : Int32) from ((own_fin p0 p1 p2 p3 p4 p5).trans (show own_exq p0 p1 p2 p3 p4 p5 = (1 : Int32) from by unfold own_exq own_ex; rw [if_neg hc740, if_neg hc743, if_neg hc748, if_pos hc751])))).2 ?_
            show own_S p e below T753 (mkF m 164 (own_loc47 p0 p1 p2 p3 p4 p5 r731 r735) []) _
            refine XS.iconst X753.here hx rfl (hb hby at_164) ?_
            show own_S p e below T753 (mkF m 165 (own_loc47 p0 p1 p2 p3 p4 p5 r731 r735) [.int 1]) _
            refine XS.goto X753.here hx rfl (pc0 := 165) (pc' := 169) rfl (hb hby at_165) (by decide) (by decide) ?_
            show own_S p e below T753 (mkF m 169 (own_loc47 p0 p1 p2 p3 p4 p5 r731 r735) [.int 1]) _
            exact retN X753 hx (t := .boolean) Bd.returns (by simp) (hb hby at_169) hr
          · exact ⟨rfl, N753⟩
          · show CHr Z own_EL s.vm s.heap T753.vm T753.heap
            rw [hh, show T753.heap = T735.heap from e753]
            exact hC.trans (CHv.at X753 hZ hEL hC.1)
        · obtain ⟨_, _, ⟨T754, L754, k754, n754⟩, -, X754, ⟨Lc754, hQ754, l754, y754, z754⟩, st754⟩ := Jvm.LawKit.callS X747 hx (y := (⟨"com/example/tenpoint/tenpoint/AsciiCaseStartsWithPinLaw", "m", "(CC)Z"⟩ : MethodName)) hown (mvT hZ (hw _ (List.mem_of_getElem? (i := 76) rfl))) (mvT hZ (hw _ (List.mem_of_getElem? (i := 77) rfl))) (mvT hZ (hw _ (List.mem_of_getElem? (i := 2) rfl))) (mvT hZ (hw _ (List.mem_of_getElem? (i := 78) rfl))) (by decide) (backOf (W := 0) (rm18 l Z ag hw [] (own_pick p1) (own_der (own_pick p1) p4)  T735.heap n0 sz739 ) hZ (hw _ (List.mem_of_getElem? (i := 78) rfl)) (hw _ (List.mem_of_getElem? (i := 2) rfl)) (by decide) (by decide)) (g := (mkF m 123 (own_loc45 p0 p1 p2 p3 p4 p5 r731 r735) [(.int (own_der (own_pick p1) p4)), (.int (own_pick p1))])) rfl (by rw [hml]; rfl) (argsL := [(.int (own_pick p1)), (.int (own_der (own_pick p1) p4))]) (rest := []) (lenOf pd_5 rfl) rfl (by show 2 * 0 + _ ≤ _; exact Nat.le_of_eq rfl) (hb hby at_123) (fun _ _ => ⟨rfl, e747, (by decide : 12 + 0 ≤ _), (by decide : 36 + 0 ≤ _)⟩)
          dsimp only [Pt.U, Pt.locs, Pt.cells, Pt.slots] at X754 l754 y754 z754 st754 hQ754
          subst l754 y754 z754
          obtain ⟨rfl, N754q, e754⟩ := hQ754
          have N754 := Fr.app N747 N754q
          have cp756 : ∀ target, own_S p e below T754 (mkF m 126 (own_loc45 p0 p1 p2 p3 p4 p5 r731 r735) [(.int (own_m (own_pick p1) (own_der (own_pick p1) p4)))]) target → own_S p e below s₁ (mkF m 0 (own_loc34 p0 p1 p2 p3 p4 p5) []) target := by
            intro target kt
            show own_S p e below s₁ (mkF m 0 (own_loc34 p0 p1 p2 p3 p4 p5) []) _
            refine cp752 _ ?_
            show own_S p e below T747 (mkF m 116 (own_loc45 p0 p1 p2 p3 p4 p5 r731 r735) [.int 2, (.int ((own_ushr p5 (2 : Int32)) &&& (3 : Int32)))]) _
            refine XS.icmpNo X747.here hx rfl (hb hby at_116) rfl (flt hc751).1 ?_
            show own_S p e below T747 (mkF m 119 (own_loc45 p0 p1 p2 p3 p4 p5 r731 r735) []) _
            refine XS.iload X747.here hx rfl (hb hby at_119) rfl ?_
            show own_S p e below T747 (mkF m 121 (own_loc45 p0 p1 p2 p3 p4 p5 r731 r735) [(.int (own_pick p1))]) _
            refine XS.iload X747.here hx rfl (hb hby at_121) rfl ?_
            show own_S p e below T747 (mkF m 123 (own_loc45 p0 p1 p2 p3 p4 p5 r731 r735) [(.int (own_der (own_pick p1) p4)), (.int (own_pick p1))]) _
            refine st754 _ ?_
            exact kt
          by_cases hc755 : (own_m (own_pick p1) (own_der (own_pick p1) p4)) = (0 : Int32)
          · obtain ⟨_, _, ⟨T757, L757, k757, n757⟩, -, X757, ⟨Lc757, hQ757, l757, y757, z757⟩, st757⟩ := Jvm.LawKit.callS X754 hx (y := (⟨"com/example/tenpoint/tenpoint/AsciiCase", "startsWith", "(Ljava/lang/String;Ljava/lang/String;)Z"⟩ : MethodName)) hown (mvT hZ (hw _ (List.mem_of_getElem? (i := 43) rfl))) (mvT hZ (hw _ (List.mem_of_getElem? (i := 44) rfl))) (mvT hZ (hw _ (List.mem_of_getElem? (i := 45) rfl))) (mvT hZ (hw _ (List.mem_of_getElem? (i := 46) rfl))) (by decide) (backOf (W := 0) (rm10 l Z ag hw [] r731 r735 (own_list (p5 &&& (3 : Int32)) (own_pick p0) (own_pick p1) (own_pick p2)) ((own_ushr p5 (2 : Int32)) &&& (3 : Int32)) (own_der (own_pick p0) p3) (own_der (own_pick p1) p4) (own_der (own_pick p2) (own_ushr p5 (4 : Int32))) cs gf T735.heap n0 sz739 x738 Sr735 (own_list_len _ _ _ _) (own_ll4 p5) x737 S_cs hcs S_gf rv_gf S_ad S_hi S_lo) hZ (hw _ (List.mem_of_getElem? (i := 46) rfl)) (hw _ (List.mem_of_getElem? (i := 45) rfl)) (by decide) (by decide)) (g := (mkF m 156 (own_loc46 p0 p1 p2 p3 p4 p5 r731 r735) [(.ref r735), (.ref r731)])) rfl (by rw [hml]; rfl) (argsL := [(.ref r731), (.ref r735)]) (rest := []) (lenOf pd_14 rfl) rfl (by show 2 * 0 + _ ≤ _; exact Nat.le_of_eq rfl) (hb hby at_156) (fun _ _ => ⟨rfl, e754, (by decide : 12 + 0 ≤ _), (by decide : 36 + 0 ≤ _)⟩)
            dsimp only [Pt.U, Pt.locs, Pt.cells, Pt.slots] at X757 l757 y757 z757 st757 hQ757
            subst l757 y757 z757
            obtain ⟨rfl, N757q, e757⟩ := hQ757
            have N757 := Fr.app N754 N757q
            obtain ⟨fs, hr, hrun, hended, hEnd⟩ := X757.leaveW hS (by rw [e757]; exact hkS) (v := some (.int (1 : Int32))) (fun h => by rw [Bd.returns] at h; cases h)
            refine ⟨_, _, pre0 _ ?_, hrun, hended, _, _, rfl, ?_, ?_, hEnd.1, hEnd.2.1, hEnd.2.2.1, hEnd.2.2.2.mono (by decide) (by decide)⟩
            · show own_S p e below s₁ (mkF m 0 (own_loc34 p0 p1 p2 p3 p4 p5) []) _
              refine cp756 _ ?_
              show own_S p e below T754 (mkF m 126 (own_loc45 p0 p1 p2 p3 p4 p5 r731 r735) [(.int (own_m (own_pick p1) (own_der (own_pick p1) p4)))]) _
              refine XS.ifYes X754.here hx rfl (pc0 := 126) (pc' := 149) rfl (hb hby at_126) rfl ((if0 _ _).trans (teq hc755).1) (by decide) (by decide) ?_
              show own_S p e below T754 (mkF m 149 (own_loc45 p0 p1 p2 p3 p4 p5 r731 r735) []) _
              refine XS.iconst X754.here hx rfl (hb hby at_149) ?_
              show own_S p e below T754 (mkF m 150 (own_loc45 p0 p1 p2 p3 p4 p5 r731 r735) [.int 0]) _
              refine XS.istore X754.here hx rfl (hb hby at_150) rfl (l' := (own_loc46 p0 p1 p2 p3 p4 p5 r731 r735)) rfl ?_
              show own_S p e below T754 (mkF m 152 (own_loc46 p0 p1 p2 p3 p4 p5 r731 r735) []) _
              refine XS.aload X754.here hx rfl (hb hby at_152) rfl rfl ?_
              show own_S p e below T754 (mkF m 154 (own_loc46 p0 p1 p2 p3 p4 p5 r731 r735) [(.ref r731)]) _
              refine XS.aload X754.here hx rfl (hb hby at_154) rfl rfl ?_
              show own_S p e below T754 (mkF m 156 (own_loc46 p0 p1 p2 p3 p4 p5 r731 r735) [(.ref r735), (.ref r731)]) _
              refine st757 _ ?_
              show own_S p e below T757 (mkF m 159 (own_loc46 p0 p1 p2 p3 p4 p5 r731 r735) [(.int (own_swg (own_list (p5 &&& (3 : Int32)) (own_pick p0) (own_pick p1) (own_pick p2)) ((own_ushr p5 (2 : Int32)) &&& (3 : Int32)) (own_der (own_pick p0) p3) (own_der (own_pick p1) p4) (own_der (own_pick p2) (own_ushr p5 (4 : Int32)))))]) _
              refine XS.iload X757.here hx rfl (hb hby at_159) rfl ?_
              show own_S p e below T757 (mkF m 161 (own_loc46 p0 p1 p2 p3 p4 p5 r731 r735) [.int 0, (.int (own_swg (own_list (p5 &&& (3 : Int32)) (own_pick p0) (own_pick p1) (own_pick p2)) ((own_ushr p5 (2 : Int32)) &&& (3 : Int32)) (own_der (own_pick p0) p3) (own_der (own_pick p1) p4) (own_der (own_pick p2) (own_ushr p5 (4 : Int32)))))]) _
              refine XS.icmpNo X757.here hx rfl (hb hby at_161) rfl (teq (show (own_swg (own_list (p5 &&& (3 : Int32)) (own_pick p0) (own_pick p1) (own_pick p2)) ((own_ushr p5 (2 : Int32)) &&& (3 : Int32)) (own_der (own_pick p0) p3) (own_der (own_pick p1) p4) (own_der (own_pick p2) (own_ushr p5 (4 : Int32)))) = (0 : Int32) from ((own_fin p0 p1 p2 p3 p4 p5).trans (show own_exq p0 p1 p2 p3 p4 p5 = (0 : Int32) from by unfold own_exq own_ex; rw [if_neg hc740, if_neg hc743, if_neg hc748, if_neg hc751, if_pos hc755])))).2 ?_
              show own_S p e below T757 (mkF m 164 (own_loc46 p0 p1 p2 p3 p4 p5 r731 r735) []) _
              refine XS.iconst X757.here hx rfl (hb hby at_164) ?_
              show own_S p e below T757 (mkF m 165 (own_loc46 p0 p1 p2 p3 p4 p5 r731 r735) [.int 1]) _
              refine XS.goto X757.here hx rfl (pc0 := 165) (pc' := 169) rfl (hb hby at_165) (by decide) (by decide) ?_
              show own_S p e below T757 (mkF m 169 (own_loc46 p0 p1 p2 p3 p4 p5 r731 r735) [.int 1]) _
              exact retN X757 hx (t := .boolean) Bd.returns (by simp) (hb hby at_169) hr
            · exact ⟨rfl, N757⟩
            · show CHr Z own_EL s.vm s.heap T757.vm T757.heap
              rw [hh, show T757.heap = T735.heap from e757]
              exact hC.trans (CHv.at X757 hZ hEL hC.1)
          · have cp759 : ∀ target, own_S p e below T754 (mkF m 132 (own_loc45 p0 p1 p2 p3 p4 p5 r731 r735) [.int 3, (.int ((own_ushr p5 (2 : Int32)) &&& (3 : Int32)))]) target → own_S p e below s₁ (mkF m 0 (own_loc34 p0 p1 p2 p3 p4 p5) []) target := by
              intro target kt
              show own_S p e below s₁ (mkF m 0 (own_loc34 p0 p1 p2 p3 p4 p5) []) _
              refine cp756 _ ?_
              show own_S p e below T754 (mkF m 126 (own_loc45 p0 p1 p2 p3 p4 p5 r731 r735) [(.int (own_m (own_pick p1) (own_der (own_pick p1) p4)))]) _
              refine XS.ifNo X754.here hx rfl (hb hby at_126) rfl ((if0 _ _).trans (feq hc755).1) ?_
              show own_S p e below T754 (mkF m 129 (own_loc45 p0 p1 p2 p3 p4 p5 r731 r735) []) _
              refine XS.iload X754.here hx rfl (hb hby at_129) rfl ?_
              show own_S p e below T754 (mkF m 131 (own_loc45 p0 p1 p2 p3 p4 p5 r731 r735) [(.int ((own_ushr p5 (2 : Int32)) &&& (3 : Int32)))]) _
              refine XS.iconst X754.here hx rfl (hb hby at_131) ?_
              exact kt
            by_cases hc758 : ((own_ushr p5 (2 : Int32)) &&& (3 : Int32)) < (3 : Int32)
            · obtain ⟨_, _, ⟨T760, L760, k760, n760⟩, -, X760, ⟨Lc760, hQ760, l760, y760, z760⟩, st760⟩ := Jvm.LawKit.callS X754 hx (y := (⟨"com/example/tenpoint/tenpoint/AsciiCase", "startsWith", "(Ljava/lang/String;Ljava/lang/String;)Z"⟩ : MethodName)) hown (mvT hZ (hw _ (List.mem_of_getElem? (i := 43) rfl))) (mvT hZ (hw _ (List.mem_of_getElem? (i := 44) rfl))) (mvT hZ (hw _ (List.mem_of_getElem? (i := 45) rfl))) (mvT hZ (hw _ (List.mem_of_getElem? (i := 46) rfl))) (by decide) (backOf (W := 0) (rm10 l Z ag hw [] r731 r735 (own_list (p5 &&& (3 : Int32)) (own_pick p0) (own_pick p1) (own_pick p2)) ((own_ushr p5 (2 : Int32)) &&& (3 : Int32)) (own_der (own_pick p0) p3) (own_der (own_pick p1) p4) (own_der (own_pick p2) (own_ushr p5 (4 : Int32))) cs gf T735.heap n0 sz739 x738 Sr735 (own_list_len _ _ _ _) (own_ll4 p5) x737 S_cs hcs S_gf rv_gf S_ad S_hi S_lo) hZ (hw _ (List.mem_of_getElem? (i := 46) rfl)) (hw _ (List.mem_of_getElem? (i := 45) rfl)) (by decide) (by decide)) (g := (mkF m 156 (own_loc47 p0 p1 p2 p3 p4 p5 r731 r735) [(.ref r735), (.ref r731)])) rfl (by rw [hml]; rfl) (argsL := [(.ref r731), (.ref r735)]) (rest := []) (lenOf pd_14 rfl) rfl (by show 2 * 0 + _ ≤ _; exact Nat.le_of_eq rfl) (hb hby at_156) (fun _ _ => ⟨rfl, e754, (by decide : 12 + 0 ≤ _), (by decide : 36 + 0 ≤ _)⟩)
              dsimp only [Pt.U, Pt.locs, Pt.cells, Pt.slots] at X760 l760 y760 z760 st760 hQ760
              subst l760 y760 z760
              obtain ⟨rfl, N760q, e760⟩ := hQ760
              have N760 := Fr.app N754 N760q
              obtain ⟨fs, hr, hrun, hended, hEnd⟩ := X760.leaveW hS (by rw [e760]; exact hkS) (v := some (.int (1 : Int32))) (fun h => by rw [Bd.returns] at h; cases h)
              refine ⟨_, _, pre0 _ ?_, hrun, hended, _, _, rfl, ?_, ?_, hEnd.1, hEnd.2.1, hEnd.2.2.1, hEnd.2.2.2.mono (by decide) (by decide)⟩
              · show own_S p e below s₁ (mkF m 0 (own_loc34 p0 p1 p2 p3 p4 p5) []) _
                refine cp759 _ ?_
                show own_S p e below T754 (mkF m 132 (own_loc45 p0 p1 p2 p3 p4 p5 r731 r735) [.int 3, (.int ((own_ushr p5 (2 : Int32)) &&& (3 : Int32)))]) _
                refine XS.icmpYes X754.here hx rfl (pc0 := 132) (pc' := 145) rfl (hb hby at_132) rfl (tlt hc758).1 (by decide) (by decide) ?_
                show own_S p e below T754 (mkF m 145 (own_loc45 p0 p1 p2 p3 p4 p5 r731 r735) []) _
                refine XS.iconst X754.here hx rfl (hb hby at_145) ?_
                show own_S p e below T754 (mkF m 146 (own_loc45 p0 p1 p2 p3 p4 p5 r731 r735) [.int 1]) _
                refine XS.goto X754.here hx rfl (pc0 := 146) (pc' := 150) rfl (hb hby at_146) (by decide) (by decide) ?_
                show own_S p e below T754 (mkF m 150 (own_loc45 p0 p1 p2 p3 p4 p5 r731 r735) [.int 1]) _
                refine XS.istore X754.here hx rfl (hb hby at_150) rfl (l' := (own_loc47 p0 p1 p2 p3 p4 p5 r731 r735)) rfl ?_
                show own_S p e below T754 (mkF m 152 (own_loc47 p0 p1 p2 p3 p4 p5 r731 r735) []) _
                refine XS.aload X754.here hx rfl (hb hby at_152) rfl rfl ?_
                show own_S p e below T754 (mkF m 154 (own_loc47 p0 p1 p2 p3 p4 p5 r731 r735) [(.ref r731)]) _
                refine XS.aload X754.here hx rfl (hb hby at_154) rfl rfl ?_
                show own_S p e below T754 (mkF m 156 (own_loc47 p0 p1 p2 p3 p4 p5 r731 r735) [(.ref r735), (.ref r731)]) _
                refine st760 _ ?_
                show own_S p e below T760 (mkF m 159 (own_loc47 p0 p1 p2 p3 p4 p5 r731 r735) [(.int (own_swg (own_list (p5 &&& (3 : Int32)) (own_pick p0) (own_pick p1) (own_pick p2)) ((own_ushr p5 (2 : Int32)) &&& (3 : Int32)) (own_der (own_pick p0) p3) (own_der (own_pick p1) p4) (own_der (own_pick p2) (own_ushr p5 (4 : Int32)))))]) _
                refine XS.iload X760.here hx rfl (hb hby at_159) rfl ?_
                show own_S p e below T760 (mkF m 161 (own_loc47 p0 p1 p2 p3 p4 p5 r731 r735) [.int 1, (.int (own_swg (own_list (p5 &&& (3 : Int32)) (own_pick p0) (own_pick p1) (own_pick p2)) ((own_ushr p5 (2 : Int32)) &&& (3 : Int32)) (own_der (own_pick p0) p3) (own_der (own_pick p1) p4) (own_der (own_pick p2) (own_ushr p5 (4 : Int32)))))]) _
                refine XS.icmpNo X760.here hx rfl (hb hby at_161) rfl (teq (show (own_swg (own_list (p5 &&& (3 : Int32)) (own_pick p0) (own_pick p1) (own_pick p2)) ((own_ushr p5 (2 : Int32)) &&& (3 : Int32)) (own_der (own_pick p0) p3) (own_der (own_pick p1) p4) (own_der (own_pick p2) (own_ushr p5 (4 : Int32)))) = (1 : Int32) from ((own_fin p0 p1 p2 p3 p4 p5).trans (show own_exq p0 p1 p2 p3 p4 p5 = (1 : Int32) from by unfold own_exq own_ex; rw [if_neg hc740, if_neg hc743, if_neg hc748, if_neg hc751, if_neg hc755, if_pos hc758])))).2 ?_
                show own_S p e below T760 (mkF m 164 (own_loc47 p0 p1 p2 p3 p4 p5 r731 r735) []) _
                refine XS.iconst X760.here hx rfl (hb hby at_164) ?_
                show own_S p e below T760 (mkF m 165 (own_loc47 p0 p1 p2 p3 p4 p5 r731 r735) [.int 1]) _
                refine XS.goto X760.here hx rfl (pc0 := 165) (pc' := 169) rfl (hb hby at_165) (by decide) (by decide) ?_
                show own_S p e below T760 (mkF m 169 (own_loc47 p0 p1 p2 p3 p4 p5 r731 r735) [.int 1]) _
                exact retN X760 hx (t := .boolean) Bd.returns (by simp) (hb hby at_169) hr
              · exact ⟨rfl, N760⟩
              · show CHr Z own_EL s.vm s.heap T760.vm T760.heap
                rw [hh, show T760.heap = T735.heap from e760]
                exact hC.trans (CHv.at X760 hZ hEL hC.1)
            · obtain ⟨_, _, ⟨T761, L761, k761, n761⟩, -, X761, ⟨Lc761, hQ761, l761, y761, z761⟩, st761⟩ := Jvm.LawKit.callS X754 hx (y := (⟨"com/example/tenpoint/tenpoint/AsciiCaseStartsWithPinLaw", "m", "(CC)Z"⟩ : MethodName)) hown (mvT hZ (hw _ (List.mem_of_getElem? (i := 76) rfl))) (mvT hZ (hw _ (List.mem_of_getElem? (i := 77) rfl))) (mvT hZ (hw _ (List.mem_of_getElem? (i := 2) rfl))) (mvT hZ (hw _ (List.mem_of_getElem? (i := 78) rfl))) (by decide) (backOf (W := 0) (rm18 l Z ag hw [] (own_pick p2) (own_der (own_pick p2) (own_ushr p5 (4 : Int32)))  T735.heap n0 sz739 ) hZ (hw _ (List.mem_of_getElem? (i := 78) rfl)) (hw _ (List.mem_of_getElem? (i := 2) rfl)) (by decide) (by decide)) (g := (mkF m 139 (own_loc45 p0 p1 p2 p3 p4 p5 r731 r735) [(.int (own_der (own_pick p2) (own_ushr p5 (4 : Int32)))), (.int (own_pick p2))])) rfl (by rw [hml]; rfl) (argsL := [(.int (own_pick p2)), (.int (own_der (own_pick p2) (own_ushr p5 (4 : Int32))))]) (rest := []) (lenOf pd_5 rfl) rfl (by show 2 * 0 + _ ≤ _; exact Nat.le_of_eq rfl) (hb hby at_139) (fun _ _ => ⟨rfl, e754, (by decide : 12 + 0 ≤ _), (by decide : 36 + 0 ≤ _)⟩)
              dsimp only [Pt.U, Pt.locs, Pt.cells, Pt.slots] at X761 l761 y761 z761 st761 hQ761
              subst l761 y761 z761
              obtain ⟨rfl, N761q, e761⟩ := hQ761
              have N761 := Fr.app N754 N761q
              have cp763 : ∀ target, own_S p e below T761 (mkF m 142 (own_loc45 p0 p1 p2 p3 p4 p5 r731 r735) [(.int (own_m (own_pick p2) (own_der (own_pick p2) (own_ushr p5 (4 : Int32)))))]) target → own_S p e below s₁ (mkF m 0 (own_loc34 p0 p1 p2 p3 p4 p5) []) target := by
                intro target kt
                show own_S p e below s₁ (mkF m 0 (own_loc34 p0 p1 p2 p3 p4 p5) []) _
                refine cp759 _ ?_
                show own_S p e below T754 (mkF m 132 (own_loc45 p0 p1 p2 p3 p4 p5 r731 r735) [.int 3, (.int ((own_ushr p5 (2 : Int32)) &&& (3 : Int32)))]) _
                refine XS.icmpNo X754.here hx rfl (hb hby at_132) rfl (flt hc758).1 ?_
                show own_S p e below T754 (mkF m 135 (own_loc45 p0 p1 p2 p3 p4 p5 r731 r735) []) _
                refine XS.iload X754.here hx rfl (hb hby at_135) rfl ?_
                show own_S p e below T754 (mkF m 137 (own_loc45 p0 p1 p2 p3 p4 p5 r731 r735) [(.int (own_pick p2))]) _
                refine XS.iload X754.here hx rfl (hb hby at_137) rfl ?_
                show own_S p e below T754 (mkF m 139 (own_loc45 p0 p1 p2 p3 p4 p5 r731 r735) [(.int (own_der (own_pick p2) (own_ushr p5 (4 : Int32)))), (.int (own_pick p2))]) _
                refine st761 _ ?_
                exact kt
              by_cases hc762 : (own_m (own_pick p2) (own_der (own_pick p2) (own_ushr p5 (4 : Int32)))) = (0 : Int32)
              · obtain ⟨_, _, ⟨T764, L764, k764, n764⟩, -, X764, ⟨Lc764, hQ764, l764, y764, z764⟩, st764⟩ := Jvm.LawKit.callS X761 hx (y := (⟨"com/example/tenpoint/tenpoint/AsciiCase", "startsWith", "(Ljava/lang/String;Ljava/lang/String;)Z"⟩ : MethodName)) hown (mvT hZ (hw _ (List.mem_of_getElem? (i := 43) rfl))) (mvT hZ (hw _ (List.mem_of_getElem? (i := 44) rfl))) (mvT hZ (hw _ (List.mem_of_getElem? (i := 45) rfl))) (mvT hZ (hw _ (List.mem_of_getElem? (i := 46) rfl))) (by decide) (backOf (W := 0) (rm10 l Z ag hw [] r731 r735 (own_list (p5 &&& (3 : Int32)) (own_pick p0) (own_pick p1) (own_pick p2)) ((own_ushr p5 (2 : Int32)) &&& (3 : Int32)) (own_der (own_pick p0) p3) (own_der (own_pick p1) p4) (own_der (own_pick p2) (own_ushr p5 (4 : Int32))) cs gf T735.heap n0 sz739 x738 Sr735 (own_list_len _ _ _ _) (own_ll4 p5) x737 S_cs hcs S_gf rv_gf S_ad S_hi S_lo) hZ (hw _ (List.mem_of_getElem? (i := 46) rfl)) (hw _ (List.mem_of_getElem? (i := 45) rfl)) (by decide) (by decide)) (g := (mkF m 156 (own_loc46 p0 p1 p2 p3 p4 p5 r731 r735) [(.ref r735), (.ref r731)])) rfl (by rw [hml]; rfl) (argsL := [(.ref r731), (.ref r735)]) (rest := []) (lenOf pd_14 rfl) rfl (by show 2 * 0 + _ ≤ _; exact Nat.le_of_eq rfl) (hb hby at_156) (fun _ _ => ⟨rfl, e761, (by decide : 12 + 0 ≤ _), (by decide : 36 + 0 ≤ _)⟩)
                dsimp only [Pt.U, Pt.locs, Pt.cells, Pt.slots] at X764 l764 y764 z764 st764 hQ764
                subst l764 y764 z764
                obtain ⟨rfl, N764q, e764⟩ := hQ764
                have N764 := Fr.app N761 N764q
                obtain ⟨fs, hr, hrun, hended, hEnd⟩ := X764.leaveW hS (by rw [e764]; exact hkS) (v := some (.int (1 : Int32))) (fun h => by rw [Bd.returns] at h; cases h)
                refine ⟨_, _, pre0 _ ?_, hrun, hended, _, _, rfl, ?_, ?_, hEnd.1, hEnd.2.1, hEnd.2.2.1, hEnd.2.2.2.mono (by decide) (by decide)⟩
                · show own_S p e below s₁ (mkF m 0 (own_loc34 p0 p1 p2 p3 p4 p5) []) _
                  refine cp763 _ ?_
                  show own_S p e below T761 (mkF m 142 (own_loc45 p0 p1 p2 p3 p4 p5 r731 r735) [(.int (own_m (own_pick p2) (own_der (own_pick p2) (own_ushr p5 (4 : Int32)))))]) _
                  refine XS.ifYes X761.here hx rfl (pc0 := 142) (pc' := 149) rfl (hb hby at_142) rfl ((if0 _ _).trans (teq hc762).1) (by decide) (by decide) ?_
                  show own_S p e below T761 (mkF m 149 (own_loc45 p0 p1 p2 p3 p4 p5 r731 r735) []) _
                  refine XS.iconst X761.here hx rfl (hb hby at_149) ?_
                  show own_S p e below T761 (mkF m 150 (own_loc45 p0 p1 p2 p3 p4 p5 r731 r735) [.int 0]) _
                  refine XS.istore X761.here hx rfl (hb hby at_150) rfl (l' := (own_loc46 p0 p1 p2 p3 p4 p5 r731 r735)) rfl ?_
                  show own_S p e below T761 (mkF m 152 (own_loc46 p0 p1 p2 p3 p4 p5 r731 r735) []) _
                  refine XS.aload X761.here hx rfl (hb hby at_152) rfl rfl ?_
                  show own_S p e below T761 (mkF m 154 (own_loc46 p0 p1 p2 p3 p4 p5 r731 r735) [(.ref r731)]) _
                  refine XS.aload X761.here hx rfl (hb hby at_154) rfl rfl ?_
                  show own_S p e below T761 (mkF m 156 (own_loc46 p0 p1 p2 p3 p4 p5 r731 r735) [(.ref r735), (.ref r731)]) _
                  refine st764 _ ?_
                  show own_S p e below T764 (mkF m 159 (own_loc46 p0 p1 p2 p3 p4 p5 r731 r735) [(.int (own_swg (own_list (p5 &&& (3 : Int32)) (own_pick p0) (own_pick p1) (own_pick p2)) ((own_ushr p5 (2 : Int32)) &&& (3 : Int32)) (own_der (own_pick p0) p3) (own_der (own_pick p1) p4) (own_der (own_pick p2) (own_ushr p5 (4 : Int32)))))]) _
                  refine XS.iload X764.here hx rfl (hb hby at_159) rfl ?_
                  show own_S p e below T764 (mkF m 161 (own_loc46 p0 p1 p2 p3 p4 p5 r731 r735) [.int 0, (.int (own_swg (own_list (p5 &&& (3 : Int32)) (own_pick p0) (own_pick p1) (own_pick p2)) ((own_ushr p5 (2 : Int32)) &&& (3 : Int32)) (own_der (own_pick p0) p3) (own_der (own_pick p1) p4) (own_der (own_pick p2) (own_ushr p5 (4 : Int32)))))]) _
                  refine XS.icmpNo X764.here hx rfl (hb hby at_161) rfl (teq (show (own_swg (own_list (p5 &&& (3 : Int32)) (own_pick p0) (own_pick p1) (own_pick p2)) ((own_ushr p5 (2 : Int32)) &&& (3 : Int32)) (own_der (own_pick p0) p3) (own_der (own_pick p1) p4) (own_der (own_pick p2) (own_ushr p5 (4 : Int32)))) = (0 : Int32) from ((own_fin p0 p1 p2 p3 p4 p5).trans (show own_exq p0 p1 p2 p3 p4 p5 = (0 : Int32) from by unfold own_exq own_ex; rw [if_neg hc740, if_neg hc743, if_neg hc748, if_neg hc751, if_neg hc755, if_neg hc758, if_pos hc762])))).2 ?_
                  show own_S p e below T764 (mkF m 164 (own_loc46 p0 p1 p2 p3 p4 p5 r731 r735) []) _
                  refine XS.iconst X764.here hx rfl (hb hby at_164) ?_
                  show own_S p e below T764 (mkF m 165 (own_loc46 p0 p1 p2 p3 p4 p5 r731 r735) [.int 1]) _
                  refine XS.goto X764.here hx rfl (pc0 := 165) (pc' := 169) rfl (hb hby at_165) (by decide) (by decide) ?_
                  show own_S p e below T764 (mkF m 169 (own_loc46 p0 p1 p2 p3 p4 p5 r731 r735) [.int 1]) _
                  exact retN X764 hx (t := .boolean) Bd.returns (by simp) (hb hby at_169) hr
                · exact ⟨rfl, N764⟩
                · show CHr Z own_EL s.vm s.heap T764.vm T764.heap
                  rw [hh, show T764.heap = T735.heap from e764]
                  exact hC.trans (CHv.at X764 hZ hEL hC.1)
              · obtain ⟨_, _, ⟨T765, L765, k765, n765⟩, -, X765, ⟨Lc765, hQ765, l765, y765, z765⟩, st765⟩ := Jvm.LawKit.callS X761 hx (y := (⟨"com/example/tenpoint/tenpoint/AsciiCase", "startsWith", "(Ljava/lang/String;Ljava/lang/String;)Z"⟩ : MethodName)) hown (mvT hZ (hw _ (List.mem_of_getElem? (i := 43) rfl))) (mvT hZ (hw _ (List.mem_of_getElem? (i := 44) rfl))) (mvT hZ (hw _ (List.mem_of_getElem? (i := 45) rfl))) (mvT hZ (hw _ (List.mem_of_getElem? (i := 46) rfl))) (by decide) (backOf (W := 0) (rm10 l Z ag hw [] r731 r735 (own_list (p5 &&& (3 : Int32)) (own_pick p0) (own_pick p1) (own_pick p2)) ((own_ushr p5 (2 : Int32)) &&& (3 : Int32)) (own_der (own_pick p0) p3) (own_der (own_pick p1) p4) (own_der (own_pick p2) (own_ushr p5 (4 : Int32))) cs gf T735.heap n0 sz739 x738 Sr735 (own_list_len _ _ _ _) (own_ll4 p5) x737 S_cs hcs S_gf rv_gf S_ad S_hi S_lo) hZ (hw _ (List.mem_of_getElem? (i := 46) rfl)) (hw _ (List.mem_of_getElem? (i := 45) rfl)) (by decide) (by decide)) (g := (mkF m 156 (own_loc47 p0 p1 p2 p3 p4 p5 r731 r735) [(.ref r735), (.ref r731)])) rfl (by rw [hml]; rfl) (argsL := [(.ref r731), (.ref r735)]) (rest := []) (lenOf pd_14 rfl) rfl (by show 2 * 0 + _ ≤ _; exact Nat.le_of_eq rfl) (hb hby at_156) (fun _ _ => ⟨rfl, e761, (by decide : 12 + 0 ≤ _), (by decide : 36 + 0 ≤ _)⟩)
                dsimp only [Pt.U, Pt.locs, Pt.cells, Pt.slots] at X765 l765 y765 z765 st765 hQ765
                subst l765 y765 z765
                obtain ⟨rfl, N765q, e765⟩ := hQ765
                have N765 := Fr.app N761 N765q
                obtain ⟨fs, hr, hrun, hended, hEnd⟩ := X765.leaveW hS (by rw [e765]; exact hkS) (v := some (.int (1 : Int32))) (fun h => by rw [Bd.returns] at h; cases h)
                refine ⟨_, _, pre0 _ ?_, hrun, hended, _, _, rfl, ?_, ?_, hEnd.1, hEnd.2.1, hEnd.2.2.1, hEnd.2.2.2.mono (by decide) (by decide)⟩
                · show own_S p e below s₁ (mkF m 0 (own_loc34 p0 p1 p2 p3 p4 p5) []) _
                  refine cp763 _ ?_
                  show own_S p e below T761 (mkF m 142 (own_loc45 p0 p1 p2 p3 p4 p5 r731 r735) [(.int (own_m (own_pick p2) (own_der (own_pick p2) (own_ushr p5 (4 : Int32)))))]) _
                  refine XS.ifNo X761.here hx rfl (hb hby at_142) rfl ((if0 _ _).trans (feq hc762).1) ?_
                  show own_S p e below T761 (mkF m 145 (own_loc45 p0 p1 p2 p3 p4 p5 r731 r735) []) _
                  refine XS.iconst X761.here hx rfl (hb hby at_145) ?_
                  show own_S p e below T761 (mkF m 146 (own_loc45 p0 p1 p2 p3 p4 p5 r731 r735) [.int 1]) _
                  refine XS.goto X761.here hx rfl (pc0 := 146) (pc' := 150) rfl (hb hby at_146) (by decide) (by decide) ?_
                  show own_S p e below T761 (mkF m 150 (own_loc45 p0 p1 p2 p3 p4 p5 r731 r735) [.int 1]) _
                  refine XS.istore X761.here hx rfl (hb hby at_150) rfl (l' := (own_loc47 p0 p1 p2 p3 p4 p5 r731 r735)) rfl ?_
                  show own_S p e below T761 (mkF m 152 (own_loc47 p0 p1 p2 p3 p4 p5 r731 r735) []) _
                  refine XS.aload X761.here hx rfl (hb hby at_152) rfl rfl ?_
                  show own_S p e below T761 (mkF m 154 (own_loc47 p0 p1 p2 p3 p4 p5 r731 r735) [(.ref r731)]) _
                  refine XS.aload X761.here hx rfl (hb hby at_154) rfl rfl ?_
                  show own_S p e below T761 (mkF m 156 (own_loc47 p0 p1 p2 p3 p4 p5 r731 r735) [(.ref r735), (.ref r731)]) _
                  refine st765 _ ?_
                  show own_S p e below T765 (mkF m 159 (own_loc47 p0 p1 p2 p3 p4 p5 r731 r735) [(.int (own_swg (own_list (p5 &&& (3 : Int32)) (own_pick p0) (own_pick p1) (own_pick p2)) ((own_ushr p5 (2 : Int32)) &&& (3 : Int32)) (own_der (own_pick p0) p3) (own_der (own_pick p1) p4) (own_der (own_pick p2) (own_ushr p5 (4 : Int32)))))]) _
                  refine XS.iload X765.here hx rfl (hb hby at_159) rfl ?_
                  show own_S p e below T765 (mkF m 161 (own_loc47 p0 p1 p2 p3 p4 p5 r731 r735) [.int 1, (.int (own_swg (own_list (p5 &&& (3 : Int32)) (own_pick p0) (own_pick p1) (own_pick p2)) ((own_ushr p5 (2 : Int32)) &&& (3 : Int32)) (own_der (own_pick p0) p3) (own_der (own_pick p1) p4) (own_der (own_pick p2) (own_ushr p5 (4 : Int32)))))]) _
                  refine XS.icmpNo X765.here hx rfl (hb hby at_161) rfl (teq (show (own_swg (own_list (p5 &&& (3 : Int32)) (own_pick p0) (own_pick p1) (own_pick p2)) ((own_ushr p5 (2 : Int32)) &&& (3 : Int32)) (own_der (own_pick p0) p3) (own_der (own_pick p1) p4) (own_der (own_pick p2) (own_ushr p5 (4 : Int32)))) = (1 : Int32) from ((own_fin p0 p1 p2 p3 p4 p5).trans (show own_exq p0 p1 p2 p3 p4 p5 = (1 : Int32) from by unfold own_exq own_ex; rw [if_neg hc740, if_neg hc743, if_neg hc748, if_neg hc751, if_neg hc755, if_neg hc758, if_neg hc762])))).2 ?_
                  show own_S p e below T765 (mkF m 164 (own_loc47 p0 p1 p2 p3 p4 p5 r731 r735) []) _
                  refine XS.iconst X765.here hx rfl (hb hby at_164) ?_
                  show own_S p e below T765 (mkF m 165 (own_loc47 p0 p1 p2 p3 p4 p5 r731 r735) [.int 1]) _
                  refine XS.goto X765.here hx rfl (pc0 := 165) (pc' := 169) rfl (hb hby at_165) (by decide) (by decide) ?_
                  show own_S p e below T765 (mkF m 169 (own_loc47 p0 p1 p2 p3 p4 p5 r731 r735) [.int 1]) _
                  exact retN X765 hx (t := .boolean) Bd.returns (by simp) (hb hby at_169) hr
                · exact ⟨rfl, N765⟩
                · show CHr Z own_EL s.vm s.heap T765.vm T765.heap
                  rw [hh, show T765.heap = T735.heap from e765]
                  exact hC.trans (CHv.at X765 hZ hEL hC.1)
set_option maxRecDepth 65536 in
set_option maxHeartbeats 40000000 in
theorem comes_1 {Post : Tables → Env → Array Value → State → Outcome → State → Prop} (hpost : ∀ tb e args s v u, (limb_1_1.after args s (.returned v) u = true ∧ limb_1_2.after args s (.returned v) u = true ∧ True) → ReturnedEndW s (.returned v) u (Jvm.fieldLocs frame_1_writes args s ++ Jvm.arrayLocs frame_1_arrays args s ++ Jvm.staticLocs frame_1_statics s) 32 1216 → Post tb e args s (.returned v) u) :
    ArmFor flags0 classFile x code maxLocals ret World_1 tables_1 room_1 Calls_1 rest_1 Pre_1 Post := by
  intro l hfl _ _ p e ha hc hk s m args below hf hA hF happ hP
  obtain ⟨hcalls, hrest, hpre⟩ := hP
  obtain ⟨-, -, -, hnamed, -, -, -, hat⟩ := (Spec.applies_iff hf).mp happ
  obtain ⟨hg, hn⟩ := and_e (Cond.before_iff.mp (show (Jvm.Cond.and given_1 narrow_1).before args s = true from hpre))
  obtain ⟨g766, g767⟩ := and_e hg
  obtain ⟨g768, g769⟩ := and_e g767
  obtain ⟨g770, g771⟩ := and_e g769
  obtain ⟨g772, g773⟩ := and_e g771
  obtain ⟨g774, g775⟩ := and_e g773
  obtain ⟨g776, g777⟩ := and_e g775
  obtain ⟨w0, w1, w2, w3, w4, w5, rfl⟩ : ∃ w0 w1 w2 w3 w4 w5 : Value, args = #[w0, w1, w2, w3, w4, w5] := by
    have hs : args.size = 6 := by simpa [Cond.value, given_1] using g766
    obtain ⟨L⟩ := args
    match L, hs with
    | [w0, w1, w2, w3, w4, w5], _ => exact ⟨w0, w1, w2, w3, w4, w5, rfl⟩
  have hw := fun d (hd : d ∈ tables_1) => atoms_spec (ws := Jvm.Cond.code x code maxLocals ret :: tables_1) hat d (List.mem_cons_of_mem _ hd)
  have hfit : Fit s := fun {y c} hc i hi => by
    obtain ⟨ha, rfl⟩ := Array.getElem?_eq_some_iff.mp hc
    have q := List.all_eq_true.mp ((Array.all_eq_true_iff_forall_mem.mp hF) _ (Array.getElem_mem ha)) i (List.mem_range.mpr hi)
    simpa [Array.getElem?_eq_getElem hi] using q
  obtain ⟨hsets, hown0⟩ := atoms_of _ (rest_1_c_eq ▸ (show rest_1_c.before _ s = true from hrest))
  have hr0 := Cond.before_iff.mp hown0
  obtain ⟨i0, ei0⟩ := is_v g768
  obtain rfl : w0 = (.int i0) := Option.some.inj ei0
  obtain ⟨i1, ei1⟩ := is_v g770
  obtain rfl : w1 = (.int i1) := Option.some.inj ei1
  obtain ⟨i2, ei2⟩ := is_v g772
  obtain rfl : w2 = (.int i2) := Option.some.inj ei2
  obtain ⟨i3, ei3⟩ := is_v g774
  obtain rfl : w3 = (.int i3) := Option.some.inj ei3
  obtain ⟨i4, ei4⟩ := is_v g776
  obtain rfl : w4 = (.int i4) := Option.some.inj ei4
  obtain ⟨i5, ei5⟩ := is_v g777
  obtain rfl : w5 = (.int i5) := Option.some.inj ei5
  obtain ⟨cs, ecs⟩ := is_v (Cond.before_iff.mp (hsets _ (List.mem_of_getElem? (i := 1) rfl)))
  have S_cs : Sta s s.heap "java/lang/String" "COMPACT_STRINGS" "Z" (.int cs) := Sta.start ecs (Or.inl (hsets _ (List.mem_of_getElem? (i := 0) rfl)))
  have hcs : ¬ (cs = (0 : Int32)) := gotF (Cond.eq_ints ecs (Term.int_eval (0))) (not_v (Cond.before_iff.mp (hsets _ (List.mem_of_getElem? (i := 2) rfl))))
  obtain ⟨gf, egf, rv_gf⟩ := isR_v (Cond.before_iff.mp (hsets _ (List.mem_of_getElem? (i := 8) rfl)))
  have S_gf : Sta s s.heap "jdk/internal/util/Preconditions" "SIOOBE_FORMATTER" "Ljava/util/function/BiFunction;" gf := Sta.start egf (Or.inl (hsets _ (List.mem_of_getElem? (i := 7) rfl)))
  have S_ad : Sta s s.heap "java/lang/StringUTF16" "$assertionsDisabled" "Z" (.int (1 : Int32)) := Sta.start (own_eq_int (Cond.before_iff.mp (hsets _ (List.mem_of_getElem? (i := 12) rfl)))) (Or.inl (hsets _ (List.mem_of_getElem? (i := 11) rfl)))
  have S_hi : Sta s s.heap "java/lang/StringUTF16" "HI_BYTE_SHIFT" "I" (.int (0 : Int32)) := Sta.start (own_eq_int (Cond.before_iff.mp (hsets _ (List.mem_of_getElem? (i := 15) rfl)))) (Or.inl (hsets _ (List.mem_of_getElem? (i := 14) rfl)))
  have S_lo : Sta s s.heap "java/lang/StringUTF16" "LO_BYTE_SHIFT" "I" (.int (8 : Int32)) := Sta.start (own_eq_int (Cond.before_iff.mp (hsets _ (List.mem_of_getElem? (i := 18) rfl)))) (Or.inl (hsets _ (List.mem_of_getElem? (i := 17) rfl)))
  have hCH : CHv s own_EL s.vm s.heap := CHv.start (own_ew hw) (fun p hp => hcalls.1 p hp) (hsets _ (List.mem_of_getElem? (i := 2) rfl)) (hw _ (List.mem_of_getElem? (i := 29) rfl)) (hw _ (List.mem_of_getElem? (i := 11) rfl))
  obtain ⟨n, o, h1, h2, h3, _, L, rfl, ⟨rfl, N⟩, -, hq⟩ := rm0 l s _ hw tables_1 i0 i1 i2 i3 i4 i5 cs gf s.heap s.heap.size (Nat.le_refl _) (Old.start s) S_cs hcs S_gf rv_gf S_ad S_hi S_lo p e ha hc hk s m _ below hf ((Spec.applies_iff_loose hf).mp happ).1 ⟨rfl, State.Warmed39.refl s, rfl, hCH⟩ trivial
  refine ⟨n, _, h1, h2, h3, hpost _ _ _ _ _ _ ⟨Cond.after_iff.mpr rfl, Cond.after_iff.mpr (eq_i res_at (Term.int_eval (1)) rfl), trivial⟩ ⟨hq.1, hq.2.1, hq.2.2.1, (hq.2.2.2.sift fun y hy => Or.inr (N y hy)).mono (by decide) (by decide)⟩⟩
theorem main_1_1 : Claimed_1_1 := comes_1 fun _ _ _ _ _ _ h hF => ⟨h.1, hF⟩
theorem main_1_2 : Claimed_1_2 := comes_1 fun _ _ _ _ _ _ h hF => ⟨h.2.1, hF⟩
end Jvm.Pilot.@@N@@
namespace Jvm.Pilot.@@N@@
open Jvm Jvm.ClassFile Sem Op Lib Jvm.Free Jvm.Stand Jvm.Pilot.@@N@@.Jvm.D
/-! MADE BY PROGRAM (witnessworld.py) out of the Statement's table words and the real class files: 20 classes; the members and pool entries that the words name. The judged class is class 1, her method 5. -/
namespace start1
open Jvm.ClassFile
def u (s : String) : CpInfo := .utf8 (stringToUtf16 s)
/-- a pool by its gaps: so many unusable entries, then the entry; so many at the end -/
def gap : Nat → List CpInfo → List CpInfo
  | 0, r => r
  | n + 1, r => .unusable :: gap n r
def poolList (es : List (Nat × CpInfo)) (last : Nat) : List CpInfo := es.foldr (fun e r => gap e.1 (e.2 :: r)) (gap last [])
def pool (es : List (Nat × CpInfo)) (last : Nat) : Array CpInfo := ⟨poolList es last⟩
def fileOf (pool : Array CpInfo) (this : Nat) (attrs : Array Attribute := #[]) (ms : Array MethodInfo := #[]) (fl : Nat := 33) (sup : Nat := 0) (ifs : Array Nat := #[]) (fds : Array FieldInfo := #[]) : ClassFile where
  minorVersion := 0
  majorVersion := 65
  constantPool := pool
  accessFlags := fl
  thisClass := this
  superClass := sup
  interfaces := ifs
  fields := fds
  methods := ms
  attributes := attrs
def plain (name : String) (sup : Option ClassId) : Class where
  name := name
  kind := .ordinary
  loader := none
  accessFlags := 33
  super := sup
  interfaces := #[]
  cf := none
  fields := #[]
  methods := #[]
  instanceTypes := #[]
  staticTypes := #[]
  resolved := #[]
  callSites := []
  init := .initialized
  statics := none
  mirror := none

def pool0 : Array CpInfo := pool [(5, u "<init>"), (0, u "()V"), (1, .class_ 10), (1, u "java/lang/Object")] 113

def k0c0 : Code := { maxStack := 0, maxLocals := 1, code := object_method_1_code, exceptionTable := #[], attributes := #[] }
def k0m0 : Method := { name := "<init>", desc := "()V", sig := { parameters := [], returnType := none }, accessFlags := 1, code := some k0c0 }
/-- java/lang/Object -/
def k0 : Class := { plain "java/lang/Object" none with
  accessFlags := 33
  interfaces := #[]
  cf := some (fileOf pool0 8 #[] #[{ accessFlags := 1, nameIndex := 5, descriptorIndex := 6, attributes := #[] }] 33 0 #[] #[])
  fields := #[]
  methods := #[k0m0]
  instanceTypes := #[]
  staticTypes := #[]
  resolved := Array.replicate 124 none
  statics := none }

def pool1 : Array CpInfo := pool [(2, .class_ 4), (1, u "java/lang/Object"), (0, u "<init>"), (0, u "()V"), (0, .class_ 8), (0, u "java/lang/String"), (0, .methodref 7 10), (0, .nameAndType 5 11), (0, u "([C)V"), (0, .methodref 13 14), (0, .class_ 15), (0, .nameAndType 16 17), (0, u "com/example/tenpoint/tenpoint/AsciiCaseStartsWithPinLaw"), (0, u "pick"), (0, u "(I)C"), (0, .methodref 13 19), (0, .nameAndType 20 21), (0, u "derive"), (0, u "(CI)C"), (0, .methodref 13 23), (0, .nameAndType 24 25), (0, u "str"), (0, u "(ICCC)Ljava/lang/String;"), (0, .methodref 13 27), (0, .nameAndType 28 29), (0, u "m"), (0, u "(CC)Z"), (0, .methodref 31 32), (0, .class_ 33), (0, .nameAndType 34 35), (0, u "com/example/tenpoint/tenpoint/AsciiCase"), (0, u "startsWith"), (0, u "(Ljava/lang/String;Ljava/lang/String;)Z"), (3, u "law"), (0, u "(IIIIII)Z")] 2

def k1m0 : Method := { name := "<init>", desc := "()V", sig := { parameters := [], returnType := none }, accessFlags := 2, code := none }
def k1c1 : Code := { maxStack := 3, maxLocals := 1, code := method_2_code, exceptionTable := #[], attributes := #[] }
def k1m1 : Method := { name := "pick", desc := "(I)C", sig := { parameters := [.int], returnType := some .char }, accessFlags := 10, code := some k1c1 }
def k1c2 : Code := { maxStack := 2, maxLocals := 4, code := method_3_code, exceptionTable := #[], attributes := #[] }
def k1m2 : Method := { name := "derive", desc := "(CI)C", sig := { parameters := [.char, .int], returnType := some .char }, accessFlags := 10, code := some k1c2 }
def k1c3 : Code := { maxStack := 2, maxLocals := 2, code := method_4_code, exceptionTable := #[], attributes := #[] }
def k1m3 : Method := { name := "m", desc := "(CC)Z", sig := { parameters := [.char, .char], returnType := some .boolean }, accessFlags := 10, code := some k1c3 }
def k1c4 : Code := { maxStack := 6, maxLocals := 4, code := method_5_code, exceptionTable := #[], attributes := #[] }
def k1m4 : Method := { name := "str", desc := "(ICCC)Ljava/lang/String;", sig := { parameters := [.int, .char, .char, .char], returnType := some (.object "java/lang/String") }, accessFlags := 10, code := some k1c4 }
def k1c5 : Code := { maxStack := 4, maxLocals := 18, code := code, exceptionTable := #[], attributes := #[] }
def k1m5 : Method := { name := "law", desc := "(IIIIII)Z", sig := { parameters := [.int, .int, .int, .int, .int, .int], returnType := some .boolean }, accessFlags := 9, code := some k1c5 }
/-- com/example/tenpoint/tenpoint/AsciiCaseStartsWithPinLaw -/
def k1 : Class := { plain "com/example/tenpoint/tenpoint/AsciiCaseStartsWithPinLaw" (some 0) with
  accessFlags := 49
  interfaces := #[]
  cf := some (fileOf pool1 13 #[] #[{ accessFlags := 2, nameIndex := 5, descriptorIndex := 6, attributes := #[] }, { accessFlags := 10, nameIndex := 16, descriptorIndex := 17, attributes := #[] }, { accessFlags := 10, nameIndex := 20, descriptorIndex := 21, attributes := #[] }, { accessFlags := 10, nameIndex := 28, descriptorIndex := 29, attributes := #[] }, { accessFlags := 10, nameIndex := 24, descriptorIndex := 25, attributes := #[] }, { accessFlags := 9, nameIndex := 39, descriptorIndex := 40, attributes := #[] }] 49 2 #[] #[])
  fields := #[]
  methods := #[k1m0, k1m1, k1m2, k1m3, k1m4, k1m5]
  instanceTypes := #[]
  staticTypes := #[]
  resolved := Array.replicate 43 none
  statics := none }

def pool2 : Array CpInfo := pool [(1, .class_ 2), (0, u "java/io/Serializable"), (0, .class_ 4), (0, u "java/lang/Object")] 2

/-- java/io/Serializable -/
def k2 : Class := { plain "java/io/Serializable" (some 0) with
  accessFlags := 1537
  interfaces := #[]
  cf := some (fileOf pool2 1 #[] #[] 1537 3 #[] #[])
  fields := #[]
  methods := #[]
  instanceTypes := #[]
  staticTypes := #[]
  resolved := Array.replicate 7 none
  statics := none }

def pool3 : Array CpInfo := pool [(1, .class_ 2), (0, u "java/lang/Comparable"), (0, .class_ 4), (0, u "java/lang/Object")] 7

/-- java/lang/Comparable -/
def k3 : Class := { plain "java/lang/Comparable" (some 0) with
  accessFlags := 1537
  interfaces := #[]
  cf := some (fileOf pool3 1 #[] #[] 1537 3 #[] #[])
  fields := #[]
  methods := #[]
  instanceTypes := #[]
  staticTypes := #[]
  resolved := Array.replicate 12 none
  statics := none }

def pool4 : Array CpInfo := pool [(2, .class_ 4), (1, u "java/lang/CharSequence"), (42, .class_ 48), (0, u "java/lang/CharSequence$1CodePointIterator"), (10, .class_ 60), (0, u "java/lang/CharSequence$1CharIterator"), (5, .class_ 67), (0, u "java/lang/Object")] 63

/-- java/lang/CharSequence -/
def k4 : Class := { plain "java/lang/CharSequence" (some 0) with
  accessFlags := 1537
  interfaces := #[]
  cf := some (fileOf pool4 2 #[.nestMembers #[47, 59]] #[] 1537 66 #[] #[])
  fields := #[]
  methods := #[]
  instanceTypes := #[]
  staticTypes := #[]
  resolved := Array.replicate 131 none
  statics := none }

def pool5 : Array CpInfo := pool [(1, .class_ 2), (0, u "java/lang/constant/Constable"), (0, .class_ 4), (0, u "java/lang/Object")] 6

/-- java/lang/constant/Constable -/
def k5 : Class := { plain "java/lang/constant/Constable" (some 0) with
  accessFlags := 1537
  interfaces := #[]
  cf := some (fileOf pool5 1 #[] #[] 1537 3 #[] #[])
  fields := #[]
  methods := #[]
  instanceTypes := #[]
  staticTypes := #[]
  resolved := Array.replicate 11 none
  statics := none }

def pool6 : Array CpInfo := pool [(1, .class_ 2), (0, u "java/lang/constant/ConstantDesc"), (0, .class_ 4), (0, u "java/lang/Object")] 32

/-- java/lang/constant/ConstantDesc -/
def k6 : Class := { plain "java/lang/constant/ConstantDesc" (some 0) with
  accessFlags := 1537
  interfaces := #[]
  cf := some (fileOf pool6 1 #[] #[] 1537 3 #[] #[])
  fields := #[]
  methods := #[]
  instanceTypes := #[]
  staticTypes := #[]
  resolved := Array.replicate 37 none
  statics := none }

def pool7 : Array CpInfo := pool [(1, .methodref 2 3), (0, .class_ 4), (0, .nameAndType 5 6), (0, u "java/lang/Object"), (0, u "<init>"), (0, u "()V"), (0, .string 8), (0, u ""), (0, .fieldref 10 11), (0, .class_ 12), (0, .nameAndType 13 14), (0, u "java/lang/String"), (0, u "value"), (0, u "[B"), (0, .fieldref 10 16), (0, .nameAndType 17 18), (0, u "coder"), (0, u "B"), (2, u "hash"), (0, u "I"), (2, u "hashIsZero"), (0, u "Z"), (0, .methodref 10 28), (0, .nameAndType 5 29), (0, u "([CIILjava/lang/Void;)V"), (8, .fieldref 10 39), (0, .nameAndType 40 26), (0, u "COMPACT_STRINGS"), (1, .class_ 44), (1, u "java/lang/StringUTF16"), (0, u "compress"), (1, .methodref 42 48), (0, .nameAndType 49 50), (0, u "coderFromArrayLen"), (0, u "([BI)B"), (56, .class_ 109), (1, u "java/lang/StringLatin1"), (32, u "()Z"), (34, .methodref 42 178), (0, .nameAndType 45 179), (0, u "([CII)[B"), (154, u "()I"), (0, .methodref 10 336), (0, .nameAndType 17 337), (0, u "()B"), (25, u "([BI)C"), (27, u "(II)V"), (35, u "(I)C"), (64, .methodref 10 493), (0, .nameAndType 494 142), (0, u "isLatin1"), (0, .methodref 107 496), (0, .nameAndType 497 363), (0, u "charAt"), (0, .methodref 42 496), (2, u "checkIndex"), (5, u "length"), (67, .class_ 576), (0, u "java/lang/CharSequence"), (22, u "CASE_INSENSITIVE_ORDER"), (0, u "Ljava/util/Comparator;"), (409, u "([C)V"), (42, .fieldref 1054 1055), (0, .class_ 1056), (0, .nameAndType 1057 1058), (0, u "jdk/internal/util/Preconditions"), (0, u "SIOOBE_FORMATTER"), (0, u "Ljava/util/function/BiFunction;"), (0, .methodref 1054 1060), (0, .nameAndType 501 1061), (0, u "(IILjava/util/function/BiFunction;)I"), (39, u "serialPersistentFields"), (0, u "[Ljava/io/ObjectStreamField;"), (0, .class_ 1104), (0, u "java/lang/String$CaseInsensitiveComparator"), (1, .class_ 1107), (0, u "java/io/Serializable"), (0, .class_ 1109), (0, u "java/lang/Comparable"), (0, .class_ 1111), (0, u "java/lang/constant/Constable"), (0, .class_ 1113), (0, u "java/lang/constant/ConstantDesc"), (2, u "serialVersionUID"), (0, u "J"), (3, u "REPL"), (0, u "C"), (2, u "LATIN1"), (1, u "UTF16")] 323

def k7m0 : Method := { name := "<init>", desc := "()V", sig := { parameters := [], returnType := none }, accessFlags := 1, code := none }
def k7c1 : Code := { maxStack := 5, maxLocals := 2, code := jdk_42_method_3_code, exceptionTable := #[], attributes := #[] }
def k7m1 : Method := { name := "<init>", desc := "([C)V", sig := { parameters := [(.array .char)], returnType := none }, accessFlags := 1, code := some k7c1 }
def k7c2 : Code := { maxStack := 2, maxLocals := 1, code := jdk_42_method_54_code, exceptionTable := #[], attributes := #[] }
def k7m2 : Method := { name := "length", desc := "()I", sig := { parameters := [], returnType := some .int }, accessFlags := 1, code := some k7c2 }
def k7c3 : Code := { maxStack := 2, maxLocals := 2, code := jdk_42_method_56_code, exceptionTable := #[], attributes := #[] }
def k7m3 : Method := { name := "charAt", desc := "(I)C", sig := { parameters := [.int], returnType := some .char }, accessFlags := 1, code := some k7c3 }
def k7c4 : Code := { maxStack := 4, maxLocals := 6, code := jdk_42_method_149_code, exceptionTable := #[], attributes := #[] }
def k7m4 : Method := { name := "<init>", desc := "([CIILjava/lang/Void;)V", sig := { parameters := [(.array .char), .int, .int, (.object "java/lang/Void")], returnType := none }, accessFlags := 2, code := some k7c4 }
def k7c5 : Code := { maxStack := 1, maxLocals := 1, code := jdk_42_method_152_code, exceptionTable := #[], attributes := #[] }
def k7m5 : Method := { name := "coder", desc := "()B", sig := { parameters := [], returnType := some .byte }, accessFlags := 0, code := some k7c5 }
def k7c6 : Code := { maxStack := 1, maxLocals := 1, code := jdk_42_method_154_code, exceptionTable := #[], attributes := #[] }
def k7m6 : Method := { name := "isLatin1", desc := "()Z", sig := { parameters := [], returnType := some .boolean }, accessFlags := 0, code := some k7c6 }
def k7c7 : Code := { maxStack := 3, maxLocals := 2, code := jdk_42_method_155_code, exceptionTable := #[], attributes := #[] }
def k7m7 : Method := { name := "checkIndex", desc := "(II)V", sig := { parameters := [.int, .int], returnType := none }, accessFlags := 8, code := some k7c7 }
/-- java/lang/String -/
def k7 : Class := { plain "java/lang/String" (some 0) with
  accessFlags := 49
  interfaces := #[2, 3, 4, 5, 6]
  cf := some (fileOf pool7 10 #[.nestMembers #[1103]] #[{ accessFlags := 1, nameIndex := 5, descriptorIndex := 6, attributes := #[] }, { accessFlags := 1, nameIndex := 5, descriptorIndex := 1010, attributes := #[] }, { accessFlags := 1, nameIndex := 507, descriptorIndex := 334, attributes := #[] }, { accessFlags := 1, nameIndex := 497, descriptorIndex := 427, attributes := #[] }, { accessFlags := 2, nameIndex := 5, descriptorIndex := 29, attributes := #[] }, { accessFlags := 0, nameIndex := 17, descriptorIndex := 337, attributes := #[] }, { accessFlags := 0, nameIndex := 494, descriptorIndex := 142, attributes := #[] }, { accessFlags := 8, nameIndex := 501, descriptorIndex := 391, attributes := #[] }] 49 2 #[1106, 1108, 575, 1110, 1112] #[{ accessFlags := 18, nameIndex := 13, descriptorIndex := 14, attributes := #[] }, { accessFlags := 18, nameIndex := 17, descriptorIndex := 18, attributes := #[] }, { accessFlags := 2, nameIndex := 21, descriptorIndex := 22, attributes := #[] }, { accessFlags := 2, nameIndex := 25, descriptorIndex := 26, attributes := #[] }, { accessFlags := 26, nameIndex := 1116, descriptorIndex := 1117, attributes := #[] }, { accessFlags := 24, nameIndex := 40, descriptorIndex := 26, attributes := #[] }, { accessFlags := 26, nameIndex := 1101, descriptorIndex := 1102, attributes := #[] }, { accessFlags := 26, nameIndex := 1121, descriptorIndex := 1122, attributes := #[] }, { accessFlags := 25, nameIndex := 599, descriptorIndex := 600, attributes := #[] }, { accessFlags := 24, nameIndex := 1125, descriptorIndex := 18, attributes := #[] }, { accessFlags := 24, nameIndex := 1127, descriptorIndex := 18, attributes := #[] }])
  fields := #[{ name := "value", type := (.array .byte), accessFlags := 18, slot := 0, constantValue := 0 }, { name := "coder", type := .byte, accessFlags := 18, slot := 1, constantValue := 0 }, { name := "hash", type := .int, accessFlags := 2, slot := 2, constantValue := 0 }, { name := "hashIsZero", type := .boolean, accessFlags := 2, slot := 3, constantValue := 0 }, { name := "serialVersionUID", type := .long, accessFlags := 26, slot := 0, constantValue := 0 }, { name := "COMPACT_STRINGS", type := .boolean, accessFlags := 24, slot := 1, constantValue := 0 }, { name := "serialPersistentFields", type := (.array (.object "java/io/ObjectStreamField")), accessFlags := 26, slot := 2, constantValue := 0 }, { name := "REPL", type := .char, accessFlags := 26, slot := 3, constantValue := 0 }, { name := "CASE_INSENSITIVE_ORDER", type := (.object "java/util/Comparator"), accessFlags := 25, slot := 4, constantValue := 0 }, { name := "LATIN1", type := .byte, accessFlags := 24, slot := 5, constantValue := 0 }, { name := "UTF16", type := .byte, accessFlags := 24, slot := 6, constantValue := 0 }]
  methods := #[k7m0, k7m1, k7m2, k7m3, k7m4, k7m5, k7m6, k7m7]
  instanceTypes := #[(.array .byte), .byte, .int, .boolean]
  staticTypes := #[.long, .boolean, (.array (.object "java/io/ObjectStreamField")), .char, (.object "java/util/Comparator"), .byte, .byte]
  resolved := Array.replicate 1451 none
  statics := some 0 }

def pool8 : Array CpInfo := pool [(3, .class_ 4), (0, u "java/lang/String"), (1, .class_ 8), (1, u "java/lang/Object"), (0, u "<init>"), (0, u "()V"), (0, .methodref 12 13), (0, .class_ 14), (0, .nameAndType 15 16), (0, u "java/lang/StringUTF16"), (0, u "newBytesLength"), (0, u "(I)I"), (3, .integer 1073741823), (23, .fieldref 12 45), (0, .nameAndType 46 47), (0, u "$assertionsDisabled"), (0, u "Z"), (0, .methodref 12 49), (0, .nameAndType 50 51), (0, u "length"), (0, u "([B)I"), (7, .fieldref 12 60), (0, .nameAndType 61 62), (0, u "HI_BYTE_SHIFT"), (0, u "I"), (0, .fieldref 12 64), (0, .nameAndType 65 62), (0, u "LO_BYTE_SHIFT"), (1, .methodref 12 68), (0, .nameAndType 69 70), (0, u "checkIndex"), (0, u "(I[B)V"), (0, .methodref 12 72), (0, .nameAndType 73 74), (0, u "getChar"), (0, u "([BI)C"), (32, .methodref 12 108), (0, .nameAndType 109 110), (0, u "newBytesFor"), (0, u "(I)[B"), (0, .methodref 12 112), (0, .nameAndType 113 114), (0, u "putChar"), (0, u "([BII)V"), (0, .methodref 12 116), (0, .nameAndType 117 118), (0, u "compress"), (0, u "([CI[BII)I"), (0, .methodref 12 120), (0, .nameAndType 121 122), (0, u "toBytes"), (0, u "([CII)[B"), (138, u "coderFromArrayLen"), (0, u "([BI)B"), (106, .class_ 371), (1, u "java/lang/StringUTF16$LinesSpliterator"), (20, u "charAt"), (21, .methodref 3 415), (0, .nameAndType 69 416), (0, u "(II)V"), (13, u "MAX_LENGTH"), (196, .class_ 628), (0, u "java/lang/StringUTF16$CodePointsSpliterator"), (0, .class_ 630), (0, u "java/lang/StringUTF16$CharsSpliterator")] 4

def k8m0 : Method := { name := "<init>", desc := "()V", sig := { parameters := [], returnType := none }, accessFlags := 0, code := none }
def k8c1 : Code := { maxStack := 1, maxLocals := 1, code := jdk_52_method_2_code, exceptionTable := #[], attributes := #[] }
def k8m1 : Method := { name := "newBytesFor", desc := "(I)[B", sig := { parameters := [.int], returnType := some (.array .byte) }, accessFlags := 9, code := some k8c1 }
def k8c2 : Code := { maxStack := 4, maxLocals := 1, code := jdk_52_method_3_code, exceptionTable := #[], attributes := #[] }
def k8m2 : Method := { name := "newBytesLength", desc := "(I)I", sig := { parameters := [.int], returnType := some .int }, accessFlags := 9, code := some k8c2 }
def k8c3 : Code := { maxStack := 4, maxLocals := 3, code := jdk_52_method_4_code, exceptionTable := #[], attributes := #[] }
def k8m3 : Method := { name := "putChar", desc := "([BII)V", sig := { parameters := [(.array .byte), .int, .int], returnType := none }, accessFlags := 8, code := some k8c3 }
def k8c4 : Code := { maxStack := 3, maxLocals := 2, code := jdk_52_method_5_code, exceptionTable := #[], attributes := #[] }
def k8m4 : Method := { name := "getChar", desc := "([BI)C", sig := { parameters := [(.array .byte), .int], returnType := some .char }, accessFlags := 8, code := some k8c4 }
def k8c5 : Code := { maxStack := 2, maxLocals := 1, code := jdk_52_method_6_code, exceptionTable := #[], attributes := #[] }
def k8m5 : Method := { name := "length", desc := "([B)I", sig := { parameters := [(.array .byte)], returnType := some .int }, accessFlags := 9, code := some k8c5 }
def k8c6 : Code := { maxStack := 4, maxLocals := 5, code := jdk_52_method_14_code, exceptionTable := #[], attributes := #[] }
def k8m6 : Method := { name := "toBytes", desc := "([CII)[B", sig := { parameters := [(.array .char), .int, .int], returnType := some (.array .byte) }, accessFlags := 9, code := some k8c6 }
def k8c7 : Code := { maxStack := 2, maxLocals := 2, code := jdk_52_method_15_code, exceptionTable := #[], attributes := #[] }
def k8m7 : Method := { name := "coderFromArrayLen", desc := "([BI)B", sig := { parameters := [(.array .byte), .int], returnType := some .byte }, accessFlags := 8, code := some k8c7 }
def k8c8 : Code := { maxStack := 5, maxLocals := 6, code := jdk_52_method_16_code, exceptionTable := #[], attributes := #[] }
def k8m8 : Method := { name := "compress", desc := "([CII)[B", sig := { parameters := [(.array .char), .int, .int], returnType := some (.array .byte) }, accessFlags := 9, code := some k8c8 }
def k8c9 : Code := { maxStack := 3, maxLocals := 7, code := jdk_52_method_21_code, exceptionTable := #[], attributes := #[] }
def k8m9 : Method := { name := "compress", desc := "([CI[BII)I", sig := { parameters := [(.array .char), .int, (.array .byte), .int, .int], returnType := some .int }, accessFlags := 9, code := some k8c9 }
def k8c10 : Code := { maxStack := 2, maxLocals := 2, code := jdk_52_method_83_code, exceptionTable := #[], attributes := #[] }
def k8m10 : Method := { name := "charAt", desc := "([BI)C", sig := { parameters := [(.array .byte), .int], returnType := some .char }, accessFlags := 9, code := some k8c10 }
def k8c11 : Code := { maxStack := 2, maxLocals := 2, code := jdk_52_method_91_code, exceptionTable := #[], attributes := #[] }
def k8m11 : Method := { name := "checkIndex", desc := "(I[B)V", sig := { parameters := [.int, (.array .byte)], returnType := none }, accessFlags := 9, code := some k8c11 }
/-- java/lang/StringUTF16 -/
def k8 : Class := { plain "java/lang/StringUTF16" (some 0) with
  accessFlags := 48
  interfaces := #[]
  cf := some (fileOf pool8 12 #[.nestMembers #[627, 629, 369]] #[{ accessFlags := 0, nameIndex := 9, descriptorIndex := 10, attributes := #[] }, { accessFlags := 9, nameIndex := 109, descriptorIndex := 110, attributes := #[] }, { accessFlags := 9, nameIndex := 15, descriptorIndex := 16, attributes := #[] }, { accessFlags := 8, nameIndex := 113, descriptorIndex := 114, attributes := #[] }, { accessFlags := 8, nameIndex := 73, descriptorIndex := 74, attributes := #[] }, { accessFlags := 9, nameIndex := 50, descriptorIndex := 51, attributes := #[] }, { accessFlags := 9, nameIndex := 121, descriptorIndex := 122, attributes := #[] }, { accessFlags := 8, nameIndex := 261, descriptorIndex := 262, attributes := #[] }, { accessFlags := 9, nameIndex := 117, descriptorIndex := 122, attributes := #[] }, { accessFlags := 9, nameIndex := 117, descriptorIndex := 118, attributes := #[] }, { accessFlags := 9, nameIndex := 392, descriptorIndex := 74, attributes := #[] }, { accessFlags := 9, nameIndex := 69, descriptorIndex := 70, attributes := #[] }] 48 6 #[] #[{ accessFlags := 26, nameIndex := 61, descriptorIndex := 62, attributes := #[] }, { accessFlags := 26, nameIndex := 65, descriptorIndex := 62, attributes := #[] }, { accessFlags := 24, nameIndex := 430, descriptorIndex := 62, attributes := #[] }, { accessFlags := 4120, nameIndex := 46, descriptorIndex := 47, attributes := #[] }])
  fields := #[{ name := "HI_BYTE_SHIFT", type := .int, accessFlags := 26, slot := 0, constantValue := 0 }, { name := "LO_BYTE_SHIFT", type := .int, accessFlags := 26, slot := 1, constantValue := 0 }, { name := "MAX_LENGTH", type := .int, accessFlags := 24, slot := 2, constantValue := 0 }, { name := "$assertionsDisabled", type := .boolean, accessFlags := 4120, slot := 3, constantValue := 0 }]
  methods := #[k8m0, k8m1, k8m2, k8m3, k8m4, k8m5, k8m6, k8m7, k8m8, k8m9, k8m10, k8m11]
  instanceTypes := #[]
  staticTypes := #[.int, .int, .int, .boolean]
  resolved := Array.replicate 635 none
  statics := some 1 }

def pool9 : Array CpInfo := pool [(2, .class_ 4), (1, u "java/lang/Object"), (0, u "<init>"), (0, u "()V"), (0, .methodref 8 9), (0, .class_ 10), (0, .nameAndType 11 12), (0, u "java/lang/String"), (0, u "length"), (0, u "()I"), (0, .methodref 8 14), (0, .nameAndType 15 16), (0, u "charAt"), (0, u "(I)C"), (0, .methodref 18 19), (0, .class_ 20), (0, .nameAndType 21 22), (0, u "com/example/tenpoint/tenpoint/AsciiCase"), (0, u "fold"), (0, u "(C)C"), (3, u "startsWith"), (0, u "(Ljava/lang/String;Ljava/lang/String;)Z")] 2

def k9m0 : Method := { name := "<init>", desc := "()V", sig := { parameters := [], returnType := none }, accessFlags := 2, code := none }
def k9c1 : Code := { maxStack := 2, maxLocals := 1, code := prog_2_method_2_code, exceptionTable := #[], attributes := #[] }
def k9m1 : Method := { name := "fold", desc := "(C)C", sig := { parameters := [.char], returnType := some .char }, accessFlags := 8, code := some k9c1 }
def k9c2 : Code := { maxStack := 3, maxLocals := 3, code := prog_2_method_3_code, exceptionTable := #[], attributes := #[] }
def k9m2 : Method := { name := "startsWith", desc := "(Ljava/lang/String;Ljava/lang/String;)Z", sig := { parameters := [(.object "java/lang/String"), (.object "java/lang/String")], returnType := some .boolean }, accessFlags := 8, code := some k9c2 }
/-- com/example/tenpoint/tenpoint/AsciiCase -/
def k9 : Class := { plain "com/example/tenpoint/tenpoint/AsciiCase" (some 0) with
  accessFlags := 48
  interfaces := #[]
  cf := some (fileOf pool9 18 #[] #[{ accessFlags := 2, nameIndex := 5, descriptorIndex := 6, attributes := #[] }, { accessFlags := 8, nameIndex := 21, descriptorIndex := 22, attributes := #[] }, { accessFlags := 8, nameIndex := 26, descriptorIndex := 27, attributes := #[] }] 48 2 #[] #[])
  fields := #[]
  methods := #[k9m0, k9m1, k9m2]
  instanceTypes := #[]
  staticTypes := #[]
  resolved := Array.replicate 30 none
  statics := none }

def pool10 : Array CpInfo := pool [(2, .class_ 4), (1, u "java/lang/Object"), (0, u "<init>"), (0, u "()V"), (17, .class_ 26), (1, u "jdk/internal/util/Preconditions"), (6, u "checkIndex"), (21, .class_ 56), (0, u "jdk/internal/util/Preconditions$4"), (57, .class_ 115), (0, u "jdk/internal/util/Preconditions$1"), (7, u "SIOOBE_FORMATTER"), (0, u "Ljava/util/function/BiFunction;"), (0, .class_ 126), (0, u "jdk/internal/util/Preconditions$2"), (3, u "AIOOBE_FORMATTER"), (0, .class_ 132), (0, u "jdk/internal/util/Preconditions$3"), (3, u "IOOBE_FORMATTER"), (41, u "(IILjava/util/function/BiFunction;)I")] 15

def k10m0 : Method := { name := "<init>", desc := "()V", sig := { parameters := [], returnType := none }, accessFlags := 1, code := none }
def k10c1 : Code := { maxStack := 3, maxLocals := 3, code := jdk_41_method_11_code, exceptionTable := #[], attributes := #[] }
def k10m1 : Method := { name := "checkIndex", desc := "(IILjava/util/function/BiFunction;)I", sig := { parameters := [.int, .int, (.object "java/util/function/BiFunction")], returnType := some .int }, accessFlags := 9, code := some k10c1 }
/-- jdk/internal/util/Preconditions -/
def k10 : Class := { plain "jdk/internal/util/Preconditions" (some 0) with
  accessFlags := 33
  interfaces := #[]
  cf := some (fileOf pool10 24 #[.nestMembers #[55, 131, 125, 114]] #[{ accessFlags := 1, nameIndex := 5, descriptorIndex := 6, attributes := #[] }, { accessFlags := 9, nameIndex := 33, descriptorIndex := 178, attributes := #[] }] 33 2 #[] #[{ accessFlags := 25, nameIndex := 123, descriptorIndex := 124, attributes := #[] }, { accessFlags := 25, nameIndex := 130, descriptorIndex := 124, attributes := #[] }, { accessFlags := 25, nameIndex := 136, descriptorIndex := 124, attributes := #[] }])
  fields := #[{ name := "SIOOBE_FORMATTER", type := (.object "java/util/function/BiFunction"), accessFlags := 25, slot := 0, constantValue := 0 }, { name := "AIOOBE_FORMATTER", type := (.object "java/util/function/BiFunction"), accessFlags := 25, slot := 1, constantValue := 0 }, { name := "IOOBE_FORMATTER", type := (.object "java/util/function/BiFunction"), accessFlags := 25, slot := 2, constantValue := 0 }]
  methods := #[k10m0, k10m1]
  instanceTypes := #[]
  staticTypes := #[(.object "java/util/function/BiFunction"), (.object "java/util/function/BiFunction"), (.object "java/util/function/BiFunction")]
  resolved := Array.replicate 194 none
  statics := some 2 }

def pool11 : Array CpInfo := pool [(1, .class_ 2), (0, u "java/lang/String"), (1, .class_ 6), (1, u "java/lang/Object"), (0, u "<init>"), (0, u "()V"), (0, .methodref 1 10), (0, .nameAndType 11 12), (0, u "checkIndex"), (0, u "(II)V"), (1, .class_ 16), (1, u "java/lang/StringLatin1"), (36, u "([BI)C"), (67, u "$assertionsDisabled"), (0, u "Z"), (98, .class_ 223), (1, u "java/lang/StringLatin1$LinesSpliterator"), (28, u "charAt"), (137, .class_ 391), (0, u "java/lang/StringLatin1$CharsSpliterator")] 3

def k11m0 : Method := { name := "<init>", desc := "()V", sig := { parameters := [], returnType := none }, accessFlags := 0, code := none }
def k11c1 : Code := { maxStack := 2, maxLocals := 2, code := jdk_43_method_2_code, exceptionTable := #[], attributes := #[] }
def k11m1 : Method := { name := "charAt", desc := "([BI)C", sig := { parameters := [(.array .byte), .int], returnType := some .char }, accessFlags := 9, code := some k11c1 }
/-- java/lang/StringLatin1 -/
def k11 : Class := { plain "java/lang/StringLatin1" (some 0) with
  accessFlags := 48
  interfaces := #[]
  cf := some (fileOf pool11 14 #[.nestMembers #[390, 221]] #[{ accessFlags := 0, nameIndex := 7, descriptorIndex := 8, attributes := #[] }, { accessFlags := 9, nameIndex := 252, descriptorIndex := 53, attributes := #[] }] 48 4 #[] #[{ accessFlags := 4120, nameIndex := 121, descriptorIndex := 122, attributes := #[] }])
  fields := #[{ name := "$assertionsDisabled", type := .boolean, accessFlags := 4120, slot := 0, constantValue := 0 }]
  methods := #[k11m0, k11m1]
  instanceTypes := #[]
  staticTypes := #[.boolean]
  resolved := Array.replicate 395 none
  statics := none }

def pool12 : Array CpInfo := pool [(9, u "<init>"), (6, .class_ 18), (1, u "java/lang/Object"), (0, u "()V"), (1, .class_ 23), (1, u "jdk/internal/util/ArraysSupport"), (0, u "LOG2_ARRAY_LONG_INDEX_SCALE"), (0, u "I"), (2, u "U"), (0, u "Ljdk/internal/misc/Unsafe;"), (8, u "BIG_ENDIAN"), (0, u "Z"), (8, u "LOG2_BYTE_BIT_SIZE"), (4, u "LOG2_ARRAY_INT_INDEX_SCALE"), (54, u "JLA"), (0, u "Ljdk/internal/access/JavaLangAccess;"), (11, u "LOG2_ARRAY_BOOLEAN_INDEX_SCALE"), (9, u "LOG2_ARRAY_BYTE_INDEX_SCALE"), (5, u "LOG2_ARRAY_CHAR_INDEX_SCALE"), (5, u "LOG2_ARRAY_SHORT_INDEX_SCALE"), (18, u "LOG2_ARRAY_FLOAT_INDEX_SCALE"), (24, u "LOG2_ARRAY_DOUBLE_INDEX_SCALE"), (89, u "T_BOOLEAN"), (2, u "T_CHAR"), (1, u "T_FLOAT"), (1, u "T_DOUBLE"), (1, u "T_BYTE"), (1, u "T_SHORT"), (1, u "T_INT"), (1, u "T_LONG"), (1, u "SOFT_MAX_ARRAY_LENGTH")] 83

def k12m0 : Method := { name := "<init>", desc := "()V", sig := { parameters := [], returnType := none }, accessFlags := 2, code := none }
/-- jdk/internal/util/ArraysSupport -/
def k12 : Class := { plain "jdk/internal/util/ArraysSupport" (some 0) with
  accessFlags := 33
  interfaces := #[]
  cf := some (fileOf pool12 21 #[] #[{ accessFlags := 2, nameIndex := 9, descriptorIndex := 19, attributes := #[] }] 33 16 #[] #[{ accessFlags := 24, nameIndex := 28, descriptorIndex := 29, attributes := #[] }, { accessFlags := 26, nameIndex := 38, descriptorIndex := 39, attributes := #[] }, { accessFlags := 25, nameIndex := 121, descriptorIndex := 25, attributes := #[] }, { accessFlags := 25, nameIndex := 131, descriptorIndex := 25, attributes := #[] }, { accessFlags := 25, nameIndex := 137, descriptorIndex := 25, attributes := #[] }, { accessFlags := 25, nameIndex := 143, descriptorIndex := 25, attributes := #[] }, { accessFlags := 25, nameIndex := 53, descriptorIndex := 25, attributes := #[] }, { accessFlags := 25, nameIndex := 24, descriptorIndex := 25, attributes := #[] }, { accessFlags := 25, nameIndex := 162, descriptorIndex := 25, attributes := #[] }, { accessFlags := 25, nameIndex := 187, descriptorIndex := 25, attributes := #[] }, { accessFlags := 26, nameIndex := 48, descriptorIndex := 25, attributes := #[] }, { accessFlags := 25, nameIndex := 277, descriptorIndex := 25, attributes := #[] }, { accessFlags := 25, nameIndex := 280, descriptorIndex := 25, attributes := #[] }, { accessFlags := 25, nameIndex := 282, descriptorIndex := 25, attributes := #[] }, { accessFlags := 25, nameIndex := 284, descriptorIndex := 25, attributes := #[] }, { accessFlags := 25, nameIndex := 286, descriptorIndex := 25, attributes := #[] }, { accessFlags := 25, nameIndex := 288, descriptorIndex := 25, attributes := #[] }, { accessFlags := 25, nameIndex := 290, descriptorIndex := 25, attributes := #[] }, { accessFlags := 25, nameIndex := 292, descriptorIndex := 25, attributes := #[] }, { accessFlags := 26, nameIndex := 108, descriptorIndex := 109, attributes := #[] }, { accessFlags := 25, nameIndex := 294, descriptorIndex := 25, attributes := #[] }])
  fields := #[{ name := "U", type := (.object "jdk/internal/misc/Unsafe"), accessFlags := 24, slot := 0, constantValue := 0 }, { name := "BIG_ENDIAN", type := .boolean, accessFlags := 26, slot := 1, constantValue := 0 }, { name := "LOG2_ARRAY_BOOLEAN_INDEX_SCALE", type := .int, accessFlags := 25, slot := 2, constantValue := 0 }, { name := "LOG2_ARRAY_BYTE_INDEX_SCALE", type := .int, accessFlags := 25, slot := 3, constantValue := 0 }, { name := "LOG2_ARRAY_CHAR_INDEX_SCALE", type := .int, accessFlags := 25, slot := 4, constantValue := 0 }, { name := "LOG2_ARRAY_SHORT_INDEX_SCALE", type := .int, accessFlags := 25, slot := 5, constantValue := 0 }, { name := "LOG2_ARRAY_INT_INDEX_SCALE", type := .int, accessFlags := 25, slot := 6, constantValue := 0 }, { name := "LOG2_ARRAY_LONG_INDEX_SCALE", type := .int, accessFlags := 25, slot := 7, constantValue := 0 }, { name := "LOG2_ARRAY_FLOAT_INDEX_SCALE", type := .int, accessFlags := 25, slot := 8, constantValue := 0 }, { name := "LOG2_ARRAY_DOUBLE_INDEX_SCALE", type := .int, accessFlags := 25, slot := 9, constantValue := 0 }, { name := "LOG2_BYTE_BIT_SIZE", type := .int, accessFlags := 26, slot := 10, constantValue := 0 }, { name := "T_BOOLEAN", type := .int, accessFlags := 25, slot := 11, constantValue := 0 }, { name := "T_CHAR", type := .int, accessFlags := 25, slot := 12, constantValue := 0 }, { name := "T_FLOAT", type := .int, accessFlags := 25, slot := 13, constantValue := 0 }, { name := "T_DOUBLE", type := .int, accessFlags := 25, slot := 14, constantValue := 0 }, { name := "T_BYTE", type := .int, accessFlags := 25, slot := 15, constantValue := 0 }, { name := "T_SHORT", type := .int, accessFlags := 25, slot := 16, constantValue := 0 }, { name := "T_INT", type := .int, accessFlags := 25, slot := 17, constantValue := 0 }, { name := "T_LONG", type := .int, accessFlags := 25, slot := 18, constantValue := 0 }, { name := "JLA", type := (.object "jdk/internal/access/JavaLangAccess"), accessFlags := 26, slot := 19, constantValue := 0 }, { name := "SOFT_MAX_ARRAY_LENGTH", type := .int, accessFlags := 25, slot := 20, constantValue := 0 }]
  methods := #[k12m0]
  instanceTypes := #[]
  staticTypes := #[(.object "jdk/internal/misc/Unsafe"), .boolean, .int, .int, .int, .int, .int, .int, .int, .int, .int, .int, .int, .int, .int, .int, .int, .int, .int, (.object "jdk/internal/access/JavaLangAccess"), .int]
  resolved := Array.replicate 378 none
  statics := none }

def pool13 : Array CpInfo := pool [(1, u "java/lang/Cloneable"), (0, .class_ 1), (0, u "java/lang/Object"), (0, .class_ 3)] 3

/-- java/lang/Cloneable -/
def k13 : Class := { plain "java/lang/Cloneable" (some 0) with
  accessFlags := 1537
  interfaces := #[]
  cf := some (fileOf pool13 2 #[] #[] 1537 4 #[] #[])
  fields := #[]
  methods := #[]
  instanceTypes := #[]
  staticTypes := #[]
  resolved := Array.replicate 8 none
  statics := none }

/-- the primitive byte -/
def k14 : Class := { plain "byte" none with kind := .primitive 'B', accessFlags := 0x411 }
/-- [B -/
def k15 : Class := { plain "[B" (some 0) with kind := .array 14 .byte, interfaces := #[13, 2], accessFlags := 1041 }

/-- the primitive char -/
def k16 : Class := { plain "char" none with kind := .primitive 'C', accessFlags := 0x411 }
/-- [C -/
def k17 : Class := { plain "[C" (some 0) with kind := .array 16 .char, interfaces := #[13, 2], accessFlags := 1041 }

/-- the primitive int -/
def k18 : Class := { plain "int" none with kind := .primitive 'I', accessFlags := 0x411 }
/-- [I -/
def k19 : Class := { plain "[I" (some 0) with kind := .array 18 .int, interfaces := #[13, 2], accessFlags := 1041 }

def heap : Heap := #[{ cls := 7, slots := #[.long 0, .int 1, .null, .int 0, .null, .int 0, .int 0], vm := .statics 7 },
  { cls := 8, slots := #[.int 0, .int 8, .int 0, .int 1], vm := .statics 8 },
  { cls := 10, slots := #[.null, .null, .null], vm := .statics 10 }]
def classes : Array Class := #[k0, k1, k2, k3, k4, k5, k6, k7, k8, k9, k10, k11, k12, k13, k14, k15, k16, k17, k18, k19]
def interned : List (Array UInt16 × Addr) := []
def slotsUsed : Nat := 14
def theMethod : MethodId := ⟨1, 5⟩
def args0 : Array Value := #[.int 5, .int 3, .int 1, .int 2, .int 4, .int 6]
def aboutOver (below : List Frame) : State where
  vm := { classes := classes, interned := interned.toArray }
  heap := heap
  slotsUsed := slotsUsed
  threads := #[{ frames := .invoking theMethod args0 :: below }]
def below0 : List Frame := [.native { method := ⟨0, 0⟩, args := #[] }]
def about1 : State := aboutOver below0
def p0 : Program := .bare "" "" ""
def e0 : Env := launch0.env 0 0 0
theorem w_frames : about1.frames = Frame.invoking theMethod args0 :: below0 := rfl
set_option maxRecDepth 65536 in
theorem w_args : argsFit about1.vm theMethod args0 = true := by decide +kernel
set_option maxRecDepth 65536 in
theorem w_heap : heapFits about1 = true := by decide +kernel
set_option maxRecDepth 65536 in
theorem w_runnable : about1.curStatus? = some .runnable := by decide +kernel
set_option maxRecDepth 65536 in
theorem w_alone : about1.alone = true := by decide +kernel
set_option maxRecDepth 65536 in
theorem w_named : about1.methodNamed? x = some theMethod := by decide +kernel
set_option maxRecDepth 65536 in
theorem w_hears : about1.hears theMethod below0 = true := by decide +kernel
set_option maxRecDepth 65536 in
theorem w_ripe : about1.ripe theMethod args0 below0 = true := by decide +kernel
theorem w_running : about1.status = .running := rfl
set_option maxRecDepth 65536 in
theorem w_room : about1.hasRoom e0.platform room_1 = true :=
  launch0.hasRoom_least _ room_1 (by decide +kernel) (by decide +kernel) (by decide +kernel) (by decide +kernel) (by decide +kernel) (by decide +kernel)
theorem allAtoms_all (ts : List Jvm.Cond) (a : Array Jvm.Value) (st : Jvm.State) : (allAtoms ts).before a st = ts.all (fun c => c.before a st) := by
  induction ts with
  | nil => rfl
  | cons c t ih =>
    show (Jvm.Cond.and c (allAtoms t)).before a st = _
    rw [Jvm.Cond.before_and, ih, List.all_cons]
def words1 : List Jvm.Cond := Jvm.Cond.code x code maxLocals ret :: tables_1
/-- a 'code' word, met by the world's own term for the bytes: nothing is compared byte by byte -/
theorem code_word {y : MethodName} {bytes : ByteArray} {mx : Nat} {rt : Option FieldType} {a : Array Value} {s : State} {m : MethodId} {meth : Method} {c : Code} (h1 : s.methodNamed? y = some m) (h2 : s.vm.method? m = some meth) (h3 : meth.code = some c) (h4 : c.code = bytes)
    (h5 : (c.maxLocals == mx && c.exceptionTable.isEmpty && decide (c.maxStack ≤ mostOperands) && decide (meth.sig.returnType = rt) && !meth.locks && decide (parseMethodDescriptor y.desc = some meth.sig)) = true) : (Jvm.Cond.code y bytes mx rt).before a s = true := by
  simp only [Bool.and_eq_true, beq_iff_eq, Bool.not_eq_true', decide_eq_true_eq] at h5
  obtain ⟨⟨⟨⟨⟨g1, g2⟩, g3⟩, g4⟩, g5⟩, g6⟩ := h5
  simp [Cond.before, Cond.holds, Cond.value, h1, h2, h3, h4, g1, g2, g3, g4, g5, g6]
def isCode : Jvm.Cond → Bool
  | .code _ _ _ _ => true
  | _ => false
theorem all_split {L : List Jvm.Cond} {P : Jvm.Cond → Bool} (h1 : L.all (fun c => isCode c || P c) = true) (h2 : ∀ c ∈ L.filter isCode, P c = true) : L.all P = true := by
  refine List.all_eq_true.mpr fun c hc => ?_
  have h := List.all_eq_true.mp h1 c hc
  rcases Bool.eq_false_or_eq_true (isCode c) with hi | hi
  · exact h2 c (List.mem_filter.mpr ⟨hc, hi⟩)
  · simpa [hi] using h
set_option maxRecDepth 65536 in
theorem w_c0 : (Jvm.Cond.code x code maxLocals ret).before args0 about1 = true := code_word (m := ⟨1, 5⟩) (meth := k1m5) (c := k1c5) (by decide +kernel) rfl rfl rfl (by decide +kernel)
set_option maxRecDepth 65536 in
theorem w_c1 : (Jvm.Cond.code ({ cls := "com/example/tenpoint/tenpoint/AsciiCaseStartsWithPinLaw", name := "pick", desc := "(I)C" } : Jvm.MethodName) method_2_code (1 : Nat) (Option.some Jvm.ClassFile.FieldType.char)).before args0 about1 = true := code_word (m := ⟨1, 1⟩) (meth := k1m1) (c := k1c1) (by decide +kernel) rfl rfl rfl (by decide +kernel)
set_option maxRecDepth 65536 in
theorem w_c2 : (Jvm.Cond.code ({ cls := "com/example/tenpoint/tenpoint/AsciiCaseStartsWithPinLaw", name := "derive", desc := "(CI)C" } : Jvm.MethodName) method_3_code (4 : Nat) (Option.some Jvm.ClassFile.FieldType.char)).before args0 about1 = true := code_word (m := ⟨1, 2⟩) (meth := k1m2) (c := k1c2) (by decide +kernel) rfl rfl rfl (by decide +kernel)
set_option maxRecDepth 65536 in
theorem w_c3 : (Jvm.Cond.code ({ cls := "com/example/tenpoint/tenpoint/AsciiCaseStartsWithPinLaw", name := "str", desc := "(ICCC)Ljava/lang/String;" } : Jvm.MethodName) method_5_code (4 : Nat) (Option.some (Jvm.ClassFile.FieldType.object "java/lang/String"))).before args0 about1 = true := code_word (m := ⟨1, 4⟩) (meth := k1m4) (c := k1c4) (by decide +kernel) rfl rfl rfl (by decide +kernel)
set_option maxRecDepth 65536 in
theorem w_c4 : (Jvm.Cond.code ({ cls := "java/lang/String", name := "<init>", desc := "([C)V" } : Jvm.MethodName) jdk_42_method_3_code (2 : Nat) (Option.none : Option Jvm.ClassFile.FieldType)).before args0 about1 = true := code_word (m := ⟨7, 1⟩) (meth := k7m1) (c := k7c1) (by decide +kernel) rfl rfl rfl (by decide +kernel)
set_option maxRecDepth 65536 in
theorem w_c5 : (Jvm.Cond.code ({ cls := "java/lang/String", name := "<init>", desc := "([CIILjava/lang/Void;)V" } : Jvm.MethodName) jdk_42_method_149_code (6 : Nat) (Option.none : Option Jvm.ClassFile.FieldType)).before args0 about1 = true := code_word (m := ⟨7, 4⟩) (meth := k7m4) (c := k7c4) (by decide +kernel) rfl rfl rfl (by decide +kernel)
set_option maxRecDepth 65536 in
theorem w_c6 : (Jvm.Cond.code ({ cls := "java/lang/Object", name := "<init>", desc := "()V" } : Jvm.MethodName) object_method_1_code (1 : Nat) (Option.none : Option Jvm.ClassFile.FieldType)).before args0 about1 = true := code_word (m := ⟨0, 0⟩) (meth := k0m0) (c := k0c0) (by decide +kernel) rfl rfl rfl (by decide +kernel)
set_option maxRecDepth 65536 in
theorem w_c7 : (Jvm.Cond.code ({ cls := "java/lang/StringUTF16", name := "compress", desc := "([CII)[B" } : Jvm.MethodName) jdk_52_method_16_code (6 : Nat) (Option.some (Jvm.ClassFile.FieldType.array Jvm.ClassFile.FieldType.byte))).before args0 about1 = true := code_word (m := ⟨8, 8⟩) (meth := k8m8) (c := k8c8) (by decide +kernel) rfl rfl rfl (by decide +kernel)
set_option maxRecDepth 65536 in
theorem w_c8 : (Jvm.Cond.code ({ cls := "java/lang/StringUTF16", name := "compress", desc := "([CI[BII)I" } : Jvm.MethodName) jdk_52_method_21_code (7 : Nat) (Option.some Jvm.ClassFile.FieldType.int)).before args0 about1 = true := code_word (m := ⟨8, 9⟩) (meth := k8m9) (c := k8c9) (by decide +kernel) rfl rfl rfl (by decide +kernel)
set_option maxRecDepth 65536 in
theorem w_c9 : (Jvm.Cond.code ({ cls := "java/lang/StringUTF16", name := "coderFromArrayLen", desc := "([BI)B" } : Jvm.MethodName) jdk_52_method_15_code (2 : Nat) (Option.some Jvm.ClassFile.FieldType.byte)).before args0 about1 = true := code_word (m := ⟨8, 7⟩) (meth := k8m7) (c := k8c7) (by decide +kernel) rfl rfl rfl (by decide +kernel)
set_option maxRecDepth 65536 in
theorem w_c10 : (Jvm.Cond.code ({ cls := "com/example/tenpoint/tenpoint/AsciiCase", name := "startsWith", desc := "(Ljava/lang/String;Ljava/lang/String;)Z" } : Jvm.MethodName) prog_2_method_3_code (3 : Nat) (Option.some Jvm.ClassFile.FieldType.boolean)).before args0 about1 = true := code_word (m := ⟨9, 2⟩) (meth := k9m2) (c := k9c2) (by decide +kernel) rfl rfl rfl (by decide +kernel)
set_option maxRecDepth 65536 in
theorem w_c11 : (Jvm.Cond.code ({ cls := "java/lang/String", name := "length", desc := "()I" } : Jvm.MethodName) jdk_42_method_54_code (1 : Nat) (Option.some Jvm.ClassFile.FieldType.int)).before args0 about1 = true := code_word (m := ⟨7, 2⟩) (meth := k7m2) (c := k7c2) (by decide +kernel) rfl rfl rfl (by decide +kernel)
set_option maxRecDepth 65536 in
theorem w_c12 : (Jvm.Cond.code ({ cls := "java/lang/String", name := "coder", desc := "()B" } : Jvm.MethodName) jdk_42_method_152_code (1 : Nat) (Option.some Jvm.ClassFile.FieldType.byte)).before args0 about1 = true := code_word (m := ⟨7, 5⟩) (meth := k7m5) (c := k7c5) (by decide +kernel) rfl rfl rfl (by decide +kernel)
set_option maxRecDepth 65536 in
theorem w_c13 : (Jvm.Cond.code ({ cls := "java/lang/StringUTF16", name := "toBytes", desc := "([CII)[B" } : Jvm.MethodName) jdk_52_method_14_code (5 : Nat) (Option.some (Jvm.ClassFile.FieldType.array Jvm.ClassFile.FieldType.byte))).before args0 about1 = true := code_word (m := ⟨8, 6⟩) (meth := k8m6) (c := k8c6) (by decide +kernel) rfl rfl rfl (by decide +kernel)
set_option maxRecDepth 65536 in
theorem w_c14 : (Jvm.Cond.code ({ cls := "java/lang/StringUTF16", name := "newBytesFor", desc := "(I)[B" } : Jvm.MethodName) jdk_52_method_2_code (1 : Nat) (Option.some (Jvm.ClassFile.FieldType.array Jvm.ClassFile.FieldType.byte))).before args0 about1 = true := code_word (m := ⟨8, 1⟩) (meth := k8m1) (c := k8c1) (by decide +kernel) rfl rfl rfl (by decide +kernel)
set_option maxRecDepth 65536 in
theorem w_c15 : (Jvm.Cond.code ({ cls := "java/lang/StringUTF16", name := "newBytesLength", desc := "(I)I" } : Jvm.MethodName) jdk_52_method_3_code (1 : Nat) (Option.some Jvm.ClassFile.FieldType.int)).before args0 about1 = true := code_word (m := ⟨8, 2⟩) (meth := k8m2) (c := k8c2) (by decide +kernel) rfl rfl rfl (by decide +kernel)
set_option maxRecDepth 65536 in
theorem w_c16 : (Jvm.Cond.code ({ cls := "java/lang/StringUTF16", name := "putChar", desc := "([BII)V" } : Jvm.MethodName) jdk_52_method_4_code (3 : Nat) (Option.none : Option Jvm.ClassFile.FieldType)).before args0 about1 = true := code_word (m := ⟨8, 3⟩) (meth := k8m3) (c := k8c3) (by decide +kernel) rfl rfl rfl (by decide +kernel)
set_option maxRecDepth 65536 in
theorem w_c17 : (Jvm.Cond.code ({ cls := "java/lang/StringUTF16", name := "getChar", desc := "([BI)C" } : Jvm.MethodName) jdk_52_method_5_code (2 : Nat) (Option.some Jvm.ClassFile.FieldType.char)).before args0 about1 = true := code_word (m := ⟨8, 4⟩) (meth := k8m4) (c := k8c4) (by decide +kernel) rfl rfl rfl (by decide +kernel)
set_option maxRecDepth 65536 in
theorem w_c18 : (Jvm.Cond.code ({ cls := "com/example/tenpoint/tenpoint/AsciiCaseStartsWithPinLaw", name := "m", desc := "(CC)Z" } : Jvm.MethodName) method_4_code (2 : Nat) (Option.some Jvm.ClassFile.FieldType.boolean)).before args0 about1 = true := code_word (m := ⟨1, 3⟩) (meth := k1m3) (c := k1c3) (by decide +kernel) rfl rfl rfl (by decide +kernel)
set_option maxRecDepth 65536 in
theorem w_c19 : (Jvm.Cond.code ({ cls := "java/lang/String", name := "charAt", desc := "(I)C" } : Jvm.MethodName) jdk_42_method_56_code (2 : Nat) (Option.some Jvm.ClassFile.FieldType.char)).before args0 about1 = true := code_word (m := ⟨7, 3⟩) (meth := k7m3) (c := k7c3) (by decide +kernel) rfl rfl rfl (by decide +kernel)
set_option maxRecDepth 65536 in
theorem w_c20 : (Jvm.Cond.code ({ cls := "java/lang/String", name := "isLatin1", desc := "()Z" } : Jvm.MethodName) jdk_42_method_154_code (1 : Nat) (Option.some Jvm.ClassFile.FieldType.boolean)).before args0 about1 = true := code_word (m := ⟨7, 6⟩) (meth := k7m6) (c := k7c6) (by decide +kernel) rfl rfl rfl (by decide +kernel)
set_option maxRecDepth 65536 in
theorem w_c21 : (Jvm.Cond.code ({ cls := "java/lang/StringUTF16", name := "charAt", desc := "([BI)C" } : Jvm.MethodName) jdk_52_method_83_code (2 : Nat) (Option.some Jvm.ClassFile.FieldType.char)).before args0 about1 = true := code_word (m := ⟨8, 10⟩) (meth := k8m10) (c := k8c10) (by decide +kernel) rfl rfl rfl (by decide +kernel)
set_option maxRecDepth 65536 in
theorem w_c22 : (Jvm.Cond.code ({ cls := "java/lang/StringUTF16", name := "checkIndex", desc := "(I[B)V" } : Jvm.MethodName) jdk_52_method_91_code (2 : Nat) (Option.none : Option Jvm.ClassFile.FieldType)).before args0 about1 = true := code_word (m := ⟨8, 11⟩) (meth := k8m11) (c := k8c11) (by decide +kernel) rfl rfl rfl (by decide +kernel)
set_option maxRecDepth 65536 in
theorem w_c23 : (Jvm.Cond.code ({ cls := "java/lang/StringUTF16", name := "length", desc := "([B)I" } : Jvm.MethodName) jdk_52_method_6_code (1 : Nat) (Option.some Jvm.ClassFile.FieldType.int)).before args0 about1 = true := code_word (m := ⟨8, 5⟩) (meth := k8m5) (c := k8c5) (by decide +kernel) rfl rfl rfl (by decide +kernel)
set_option maxRecDepth 65536 in
theorem w_c24 : (Jvm.Cond.code ({ cls := "java/lang/String", name := "checkIndex", desc := "(II)V" } : Jvm.MethodName) jdk_42_method_155_code (2 : Nat) (Option.none : Option Jvm.ClassFile.FieldType)).before args0 about1 = true := code_word (m := ⟨7, 7⟩) (meth := k7m7) (c := k7c7) (by decide +kernel) rfl rfl rfl (by decide +kernel)
set_option maxRecDepth 65536 in
theorem w_c25 : (Jvm.Cond.code ({ cls := "jdk/internal/util/Preconditions", name := "checkIndex", desc := "(IILjava/util/function/BiFunction;)I" } : Jvm.MethodName) jdk_41_method_11_code (3 : Nat) (Option.some Jvm.ClassFile.FieldType.int)).before args0 about1 = true := code_word (m := ⟨10, 1⟩) (meth := k10m1) (c := k10c1) (by decide +kernel) rfl rfl rfl (by decide +kernel)
set_option maxRecDepth 65536 in
theorem w_c26 : (Jvm.Cond.code ({ cls := "com/example/tenpoint/tenpoint/AsciiCase", name := "fold", desc := "(C)C" } : Jvm.MethodName) prog_2_method_2_code (1 : Nat) (Option.some Jvm.ClassFile.FieldType.char)).before args0 about1 = true := code_word (m := ⟨9, 1⟩) (meth := k9m1) (c := k9c1) (by decide +kernel) rfl rfl rfl (by decide +kernel)
set_option maxRecDepth 65536 in
theorem w_c27 : (Jvm.Cond.code ({ cls := "java/lang/StringLatin1", name := "charAt", desc := "([BI)C" } : Jvm.MethodName) jdk_43_method_2_code (2 : Nat) (Option.some Jvm.ClassFile.FieldType.char)).before args0 about1 = true := code_word (m := ⟨11, 1⟩) (meth := k11m1) (c := k11c1) (by decide +kernel) rfl rfl rfl (by decide +kernel)
def codes1 : List Jvm.Cond := [Jvm.Cond.code x code maxLocals ret, Jvm.Cond.code ({ cls := "com/example/tenpoint/tenpoint/AsciiCaseStartsWithPinLaw", name := "pick", desc := "(I)C" } : Jvm.MethodName) method_2_code (1 : Nat) (Option.some Jvm.ClassFile.FieldType.char), Jvm.Cond.code ({ cls := "com/example/tenpoint/tenpoint/AsciiCaseStartsWithPinLaw", name := "derive", desc := "(CI)C" } : Jvm.MethodName) method_3_code (4 : Nat) (Option.some Jvm.ClassFile.FieldType.char), Jvm.Cond.code ({ cls := "com/example/tenpoint/tenpoint/AsciiCaseStartsWithPinLaw", name := "str", desc := "(ICCC)Ljava/lang/String;" } : Jvm.MethodName) method_5_code (4 : Nat) (Option.some (Jvm.ClassFile.FieldType.object "java/lang/String")), Jvm.Cond.code ({ cls := "java/lang/String", name := "<init>", desc := "([C)V" } : Jvm.MethodName) jdk_42_method_3_code (2 : Nat) (Option.none : Option Jvm.ClassFile.FieldType), Jvm.Cond.code ({ cls := "java/lang/String", name := "<init>", desc := "([CIILjava/lang/Void;)V" } : Jvm.MethodName) jdk_42_method_149_code (6 : Nat) (Option.none : Option Jvm.ClassFile.FieldType), Jvm.Cond.code ({ cls := "java/lang/Object", name := "<init>", desc := "()V" } : Jvm.MethodName) object_method_1_code (1 : Nat) (Option.none : Option Jvm.ClassFile.FieldType), Jvm.Cond.code ({ cls := "java/lang/StringUTF16", name := "compress", desc := "([CII)[B" } : Jvm.MethodName) jdk_52_method_16_code (6 : Nat) (Option.some (Jvm.ClassFile.FieldType.array Jvm.ClassFile.FieldType.byte)), Jvm.Cond.code ({ cls := "java/lang/StringUTF16", name := "compress", desc := "([CI[BII)I" } : Jvm.MethodName) jdk_52_method_21_code (7 : Nat) (Option.some Jvm.ClassFile.FieldType.int), Jvm.Cond.code ({ cls := "java/lang/StringUTF16", name := "coderFromArrayLen", desc := "([BI)B" } : Jvm.MethodName) jdk_52_method_15_code (2 : Nat) (Option.some Jvm.ClassFile.FieldType.byte), Jvm.Cond.code ({ cls := "com/example/tenpoint/tenpoint/AsciiCase", name := "startsWith", desc := "(Ljava/lang/String;Ljava/lang/String;)Z" } : Jvm.MethodName) prog_2_method_3_code (3 : Nat) (Option.some Jvm.ClassFile.FieldType.boolean), Jvm.Cond.code ({ cls := "java/lang/String", name := "length", desc := "()I" } : Jvm.MethodName) jdk_42_method_54_code (1 : Nat) (Option.some Jvm.ClassFile.FieldType.int), Jvm.Cond.code ({ cls := "java/lang/String", name := "coder", desc := "()B" } : Jvm.MethodName) jdk_42_method_152_code (1 : Nat) (Option.some Jvm.ClassFile.FieldType.byte), Jvm.Cond.code ({ cls := "java/lang/StringUTF16", name := "toBytes", desc := "([CII)[B" } : Jvm.MethodName) jdk_52_method_14_code (5 : Nat) (Option.some (Jvm.ClassFile.FieldType.array Jvm.ClassFile.FieldType.byte)), Jvm.Cond.code ({ cls := "java/lang/StringUTF16", name := "newBytesFor", desc := "(I)[B" } : Jvm.MethodName) jdk_52_method_2_code (1 : Nat) (Option.some (Jvm.ClassFile.FieldType.array Jvm.ClassFile.FieldType.byte)), Jvm.Cond.code ({ cls := "java/lang/StringUTF16", name := "newBytesLength", desc := "(I)I" } : Jvm.MethodName) jdk_52_method_3_code (1 : Nat) (Option.some Jvm.ClassFile.FieldType.int), Jvm.Cond.code ({ cls := "java/lang/StringUTF16", name := "putChar", desc := "([BII)V" } : Jvm.MethodName) jdk_52_method_4_code (3 : Nat) (Option.none : Option Jvm.ClassFile.FieldType), Jvm.Cond.code ({ cls := "java/lang/StringUTF16", name := "getChar", desc := "([BI)C" } : Jvm.MethodName) jdk_52_method_5_code (2 : Nat) (Option.some Jvm.ClassFile.FieldType.char), Jvm.Cond.code ({ cls := "com/example/tenpoint/tenpoint/AsciiCaseStartsWithPinLaw", name := "m", desc := "(CC)Z" } : Jvm.MethodName) method_4_code (2 : Nat) (Option.some Jvm.ClassFile.FieldType.boolean), Jvm.Cond.code ({ cls := "java/lang/String", name := "charAt", desc := "(I)C" } : Jvm.MethodName) jdk_42_method_56_code (2 : Nat) (Option.some Jvm.ClassFile.FieldType.char), Jvm.Cond.code ({ cls := "java/lang/String", name := "isLatin1", desc := "()Z" } : Jvm.MethodName) jdk_42_method_154_code (1 : Nat) (Option.some Jvm.ClassFile.FieldType.boolean), Jvm.Cond.code ({ cls := "java/lang/StringUTF16", name := "charAt", desc := "([BI)C" } : Jvm.MethodName) jdk_52_method_83_code (2 : Nat) (Option.some Jvm.ClassFile.FieldType.char), Jvm.Cond.code ({ cls := "java/lang/StringUTF16", name := "checkIndex", desc := "(I[B)V" } : Jvm.MethodName) jdk_52_method_91_code (2 : Nat) (Option.none : Option Jvm.ClassFile.FieldType), Jvm.Cond.code ({ cls := "java/lang/StringUTF16", name := "length", desc := "([B)I" } : Jvm.MethodName) jdk_52_method_6_code (1 : Nat) (Option.some Jvm.ClassFile.FieldType.int), Jvm.Cond.code ({ cls := "java/lang/String", name := "checkIndex", desc := "(II)V" } : Jvm.MethodName) jdk_42_method_155_code (2 : Nat) (Option.none : Option Jvm.ClassFile.FieldType), Jvm.Cond.code ({ cls := "jdk/internal/util/Preconditions", name := "checkIndex", desc := "(IILjava/util/function/BiFunction;)I" } : Jvm.MethodName) jdk_41_method_11_code (3 : Nat) (Option.some Jvm.ClassFile.FieldType.int), Jvm.Cond.code ({ cls := "com/example/tenpoint/tenpoint/AsciiCase", name := "fold", desc := "(C)C" } : Jvm.MethodName) prog_2_method_2_code (1 : Nat) (Option.some Jvm.ClassFile.FieldType.char), Jvm.Cond.code ({ cls := "java/lang/StringLatin1", name := "charAt", desc := "([BI)C" } : Jvm.MethodName) jdk_43_method_2_code (2 : Nat) (Option.some Jvm.ClassFile.FieldType.char)]
set_option maxRecDepth 65536 in
theorem codes_eq : words1.filter isCode = codes1 := rfl
theorem w_codes : ∀ c ∈ words1.filter isCode, c.before args0 about1 = true := by
  rw [codes_eq]
  intro c hc
  simp only [codes1, List.mem_cons, List.not_mem_nil, or_false] at hc
  rcases hc with rfl | rfl | rfl | rfl | rfl | rfl | rfl | rfl | rfl | rfl | rfl | rfl | rfl | rfl | rfl | rfl | rfl | rfl | rfl | rfl | rfl | rfl | rfl | rfl | rfl | rfl | rfl | rfl
  · exact w_c0
  · exact w_c1
  · exact w_c2
  · exact w_c3
  · exact w_c4
  · exact w_c5
  · exact w_c6
  · exact w_c7
  · exact w_c8
  · exact w_c9
  · exact w_c10
  · exact w_c11
  · exact w_c12
  · exact w_c13
  · exact w_c14
  · exact w_c15
  · exact w_c16
  · exact w_c17
  · exact w_c18
  · exact w_c19
  · exact w_c20
  · exact w_c21
  · exact w_c22
  · exact w_c23
  · exact w_c24
  · exact w_c25
  · exact w_c26
  · exact w_c27
set_option maxRecDepth 65536 in
theorem w_t1 : (words1.take 24).all (fun c => isCode c || c.before args0 about1) = true := by decide +kernel
set_option maxRecDepth 65536 in
theorem w_t2 : ((words1.drop 24).take 24).all (fun c => isCode c || c.before args0 about1) = true := by decide +kernel
set_option maxRecDepth 65536 in
theorem w_t3 : (((words1.drop 24).drop 24).take 24).all (fun c => isCode c || c.before args0 about1) = true := by decide +kernel
set_option maxRecDepth 65536 in
theorem w_t4 : ((((words1.drop 24).drop 24).drop 24).take 24).all (fun c => isCode c || c.before args0 about1) = true := by decide +kernel
set_option maxRecDepth 65536 in
theorem w_t5 : ((((words1.drop 24).drop 24).drop 24).drop 24).all (fun c => isCode c || c.before args0 about1) = true := by decide +kernel
theorem w_tables : (allAtoms (Jvm.Cond.code x code maxLocals ret :: tables_1)).before args0 about1 = true := by
  rw [allAtoms_all]
  show words1.all (fun c => c.before args0 about1) = true
  refine all_split ?_ w_codes
  rw [← List.take_append_drop 24 words1, List.all_append, w_t1, ← List.take_append_drop 24 (words1.drop 24), List.all_append, w_t2, ← List.take_append_drop 24 ((words1.drop 24).drop 24), List.all_append, w_t3, ← List.take_append_drop 24 (((words1.drop 24).drop 24).drop 24), List.all_append, w_t4, w_t5]
  rfl
set_option maxRecDepth 65536 in
theorem w_rest : rest_1_c.before args0 about1 = true := by decide +kernel
set_option maxRecDepth 65536 in
theorem w_case : (Jvm.Cond.and given_1 narrow_1).before args0 about1 = true := by decide +kernel
set_option maxRecDepth 65536 in
theorem w_consts : constsHeld consts_1 about1 := Jvm.Lit.constsHeldB_iff.mp (by decide +kernel)
theorem w_applies : (headSpec (Jvm.Cond.code x code maxLocals ret :: tables_1) room_1).applies x e0.platform about1 = true :=
  (Spec.applies_iff w_frames).mpr ⟨w_running, w_runnable, w_alone, w_named, w_hears, w_ripe, w_room, w_tables⟩
theorem atStart : AtStart classFile x code maxLocals ret World_1 tables_1 room_1 Calls_1 rest_1 Pre_1 launch0 p0 e0 about1 theMethod args0 below0 :=
  ⟨lists_1, trivial, launch0.admits_env _ _ _, launch0.least_env, fairChoices_fair.cas, fairChoices_fair.clock, w_frames, w_args, w_heap, w_applies, ⟨w_consts, trivial⟩, w_rest, w_case⟩
end start1
theorem witness_1 : WitnessClaimed_1 := ⟨start1.p0, start1.e0, start1.about1, start1.theMethod, start1.args0, start1.below0, start1.atStart⟩
end Jvm.Pilot.@@N@@
