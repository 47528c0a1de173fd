import JvmDerived
import JvmDerived.Pilot.@@N@@Statement
import JvmDerived.Pilot.@@N@@Code
set_option linter.unusedVariables false
set_option linter.unusedSimpArgs false
namespace Jvm.RoadKit
open Sem ClassFile Op Lib Jvm.Stand Jvm.Free Jvm.LawKit
section New
variable {p : Program} {l : Launch} {e : Env} {R : Room} {s : State} {m : MethodId} {args : Array Value} {below : List Frame} {meth : Method} {c : Code} {T : State} {locs : List Loc} {cells slots : Nat}
theorem retI (X : Stand p l e R s m args below meth c T locs cells slots) (hx : p.tables.exec = Jvm.exec) {pc : Nat} {Ls : Array Slot} {z : Int32} {rest : List Value} (hret : meth.sig.returnType = some .int) (hd : decode c.code pc = .ok (.ireturn, 1)) {fs : List Frame}
    (hl : ∀ (f : JFrame) (acts : List Action), f.method = m → f.locked = none → f.entered = [] → (doReturn e (T.setTop f) acts (some (.int z))).1 = T.setFrames fs) : Steps p.tables e below (T.setTop (mkF m pc Ls (.int z :: rest))) (T.setFrames fs) := by
  have hm' : T.vm.method? m = some meth := X.method'
  have hn : narrow .int (.int z) = .int z := rfl
  show Steps p.tables e below (T.setTop { method := m, pc := pc, locals := Ls, stack := _ :: rest, locked := none }) _
  jvm_step X.here [X.here.top, hx, hd, hm', hret, hn]
  first | (intro acts; rw [hl _ acts rfl rfl rfl]) | rw [hl _ _ rfl rfl rfl]
  exact Steps.refl _
end New
end Jvm.RoadKit
namespace Jvm.Pilot.@@N@@
open Jvm Jvm.ClassFile Sem Op Lib Jvm.Free Jvm.Stand Jvm.LawKit Jvm.RoadKit Bundle Jvm.Pilot.@@N@@.Jvm.D
abbrev own_S (p : Program) (e : Env) (below : List Frame) (T : State) (f : JFrame) (t : State) : Prop := Steps p.tables e below (T.setTop f) t
abbrev own_ushr (x y : Int32) : Int32 := (x.toUInt32 >>> (y &&& 31).toUInt32).toInt32
abbrev own_ushrL (x : Int64) (y : Int32) : Int64 := (x.toUInt64 >>> (y &&& 63).toInt64.toUInt64).toInt64
def own_Qi (z : Int32) (h0 : Heap) (n0 : Nat) (v : Option Value) (h : Heap) (L : List Loc) : Prop := v = some (.int z) ∧ Fr n0 L ∧ h = h0
theorem own_wk {Z : State} {ag : Array Value} {d : Jvm.Cond} (hw : ∀ d ∈ tables_1, d.before ag Z = true) (i : Nat) (h : tables_1[i]? = some d) : d.before ag Z = true := hw d (List.mem_of_getElem? h)
theorem own_cast {α : Sort _} {P : α → Prop} {a b : α} (h : a = b) (k : P a) : P b := h ▸ k
theorem own_nan : ¬ (cmpValue (FP.dcmp (9221120237041090560 : UInt64) (9221120237041090560 : UInt64)) .l) = (0 : Int32) := by decide +kernel
theorem own_i2dn (x : Int32) : Jvm.Free.Fl.NoNaN64 (FP.i2d x) := (Jvm.Free.Fl.i2d_fin x).noNaN
theorem own_split (x : Int32) (h0 : ¬ ((own_ushr x (1 : Int32)) % (3 : Int32)) = (0 : Int32)) (h1 : ¬ ((own_ushr x (1 : Int32)) % (3 : Int32)) = (1 : Int32)) : ((own_ushr x (1 : Int32)) % (3 : Int32)) = (2 : Int32) := by
  have u := c_iushr x (1 : Int32) 1 rfl (by decide)
  have a := (c_irem (own_ushr x (1 : Int32)) 3 3 rfl).1 (by show 0 ≤ ((x.toUInt32 >>> ((1 : Int32) &&& 31).toUInt32).toInt32).toInt; rw [u]; omega)
  simp only [← Int32.toInt_inj, show (0 : Int32).toInt = 0 from rfl, show (1 : Int32).toInt = 1 from rfl, show (2 : Int32).toInt = 2 from rfl] at h0 h1 ⊢
  omega
theorem own_refZ {Z s : State} {a0 args : Array Value} {own : String} {index : Nat} {y : MethodName} (hZ : Z.Warmed39 s.vm) (hy : y.cls ≠ "java/lang/invoke/MethodHandle" ∧ y.cls ≠ "java/lang/invoke/VarHandle") (hi : (Cond.instanceMethod y).before a0 Z = true) (w : (Cond.methodRef own index y).before a0 Z = true) : (Cond.methodRef own index y).before args s = true := by
  obtain ⟨mk, methM, hnamed, -, -, -⟩ := Cond.instanceMethod_spec hi
  exact Cond.methodRef_warmed39 hZ hnamed hy w
theorem own_prb {p : Program} {l : Launch} {e : Env} {R : Room} {s : State} {m : MethodId} {args : Array Value} {below : List Frame} {meth : Method} {c : Code} {T : State} {locs : List Loc} {cells slots : Nat} (X : Stand p l e R s m args below meth c T locs cells slots) (hexec : p.tables.exec = Jvm.exec) {own : String} {index : Nat} {y ym : MethodName} {bytes : ByteArray} {maxL : Nat} {ret : Option FieldType}
    (hown : s.vm.findClass own = some m.cls) (hlink : (Cond.methodRef own index y).before args s = true) (hinst : (Cond.instanceMethod y).before args s = true) (hsel : (Cond.selects ym.cls ym ym).before args s = true)
    (hpriv : s.PrivateAt y) (hcode : (Cond.code y bytes maxL ret).before args s = true) (hym : ym.cls = y.cls) (hy : y.cls ≠ "java/lang/invoke/MethodHandle" ∧ y.cls ≠ "java/lang/invoke/VarHandle")
    {W : Nat} {Pre : Free.Pt → Array Value → Prop} {Post : Free.Pt → Array Value → Option Value → Free.Pt → Prop} (hK : Free.Back l R p e below s args y 3 W Pre Post)
    {g : JFrame} (hg : g.method = m) (hsize : g.locals.size = c.maxLocals) {s₀ : State} (hcome : Steps p.tables e below s₀ (T.setTop g)) {a : Addr} {cell : Cell} (hcell : T.heap[a]? = some cell) (hobj : ∀ q, cell.vm ≠ .statics q)
    {argsL rest : List Value} (hlen : ∀ sig, parseMethodDescriptor y.desc = some sig → argsL.length = sig.parameters.length)
    (hstack : g.stack = argsL.reverse ++ .ref a :: rest) (hW : 2 * g.monitorRoom + (rest.map fun v => v.category).sum ≤ W) (hdg : decode c.code g.pc = .ok (.invokevirtual index, 3))
    (hpre : ∀ vm₁, s.WarmedH vm₁ → Pre ⟨T.setVm vm₁, locs, cells, slots⟩ (.ref a :: argsL).toArray) :
    ∃ (v : Option Value) (vm₁ : Vm) (B : Free.Pt), s.WarmedH vm₁ ∧ Stand p l e R s m args below meth c B.U B.locs B.cells B.slots ∧ Post ⟨T.setVm vm₁, locs, cells, slots⟩ (.ref a :: argsL).toArray v B ∧
      Steps p.tables e below s₀ (B.U.setTop { g with pc := g.pc + 3, stack := v.toList ++ rest }) := by
  obtain ⟨mk, methM, hnamed, hmethM, hstM, habM⟩ := Cond.instanceMethod_spec hinst
  obtain ⟨methM', cM, hmethM', -, -, -, -, -, -, hsigM⟩ := Cond.code_spec hnamed hcode
  cases hmethM.symm.trans hmethM'
  obtain ⟨c2, r2, m2, -, -, q3, -, kP, hkP, hkPi⟩ := Cond.selects_spec hsel
  have hc : mk.cls = m2.cls := Option.some.inj ((findClass_of_methodNamed hnamed).symm.trans (by rw [← hym]; exact findClass_of_methodNamed q3))
  rw [← hc] at hkP
  have hselP : selectMethod e.platform s.vm cell.cls mk = .method mk := selectMethod_private hmethM (hpriv mk methM hnamed hmethM)
  have alike := X.warmed.alike
  have hT := Cond.methodRef_warmed X.warmed hnamed hy hlink
  have hcur : (s.setVm T.vm).vm.findClass own = some m.cls := by show T.vm.findClass own = _; rw [alike.findClass]; exact hown
  obtain ⟨m1, c', hm1, hready, hfind, hnr⟩ := Cond.methodRef_named e hcur hT
  have e1 : mk = m1 := Option.some.inj ((State.methodFound?_of_named (s := s.setVm T.vm) (by rw [State.methodNamed?_setVm alike]; exact hnamed) hy).symm.trans hm1)
  have e2 : mk.cls = c' := Option.some.inj ((show (s.setVm T.vm).vm.findClass y.cls = some mk.cls from by show T.vm.findClass _ = _; rw [alike.findClass]; exact findClass_of_methodNamed hnamed).symm.trans hfind)
  subst e1; subst e2
  obtain ⟨kx, hkx, hnx⟩ := className_of_methodNamed hnamed
  cases hkP.symm.trans hkx
  obtain ⟨kP₂, hkP₂, her⟩ := alike.2.2 _ _ hkP
  have hpoly : signaturePolymorphic kP₂ methM = false := by
    have q : kP₂.name = y.cls := by rw [her]; exact hnx
    simp [signaturePolymorphic, q, hy.1, hy.2]
  have st1 : ∀ target, (∀ acts, Steps p.tables e below (doInvoke e (T.setTop { g with stack := rest }) acts mk (.ref a :: argsL).toArray).1 target) → Steps p.tables e below (T.setTop g) target := by
    intro target hrest
    subst hg
    jvm_step X.here [hexec, hdg, invokevirtual.wp_named (e := e) (s := T) (f := g) (r := mk) (m := mk) (c' := mk.cls) (k := kP₂) (k' := kP₂) (mk := kP₂) (rmeth := methM) (meth := methM) (a := a) (args := argsL) (rest := rest) (cell := cell) X.here.top hnr hkP₂ (by rw [her]; exact hkPi) hready hkP₂ (by rw [alike.method?]; exact hmethM) hpoly hstM (hlen _ hsigM) hstack hcell hobj (by rw [alike.selectMethod]; exact hselP) (by rw [alike.method?]; exact hmethM) habM hkP₂ (by rw [her]; exact hkPi)]
    exact hrest
  have X₁ : Stand p l e R s m args below meth c (T.setVm T.vm) locs cells slots := X
  obtain ⟨v, B, X', hpost, hsteps⟩ := hK m meth c ⟨T.setVm T.vm, locs, cells, slots⟩ { g with stack := rest } (.invokevirtual index) mk (.ref a :: argsL).toArray X₁ hg hsize hdg hW (X₁.named hnamed) (hpre T.vm X.warmed)
  exact ⟨v, T.vm, B, X.warmed, X', hpost, (hcome.trans (st1 _ fun acts => by rw [doInvoke_state]; exact Steps.refl _)).trans hsteps⟩
theorem pn_7 : plainName "java/util/AbstractCollection" = true := by first | (simp [plainName, overriddenIn]; done) | decide +kernel
theorem ef_8 (m : MethodId) (a0 : Addr) : entryFrame m #[(.ref a0)] 1 = mkF m 0 #[.val (.ref a0)] [] := by first | (simp [entryFrame, mkF, argsToLocals, Value.category]; done) | rfl
theorem d8_0 : decode jdk_22_method_1_code 0 = .ok (.aload_n 0, 1) := by decide +kernel
theorem d8_1 : decode jdk_22_method_1_code 1 = .ok (.invokespecial 1, 3) := by decide +kernel
theorem d8_4 : decode jdk_22_method_1_code 4 = .ok (.return_, 1) := by decide +kernel
def Q8 (Z : State) (a0 : Addr) (h0 : Heap) (n0 : Nat) (v : Option Value) (h : Heap) (L : List Loc) : Prop := v = none ∧ Fr n0 L ∧ h = h0
set_option maxRecDepth 65536 in
set_option maxHeartbeats 40000000 in
theorem rm8 (l : Launch) (Z : State) (ag : Array Value) (hw : ∀ d ∈ tables_1, d.before ag Z = true) (ws : List Jvm.Cond) (a0 : Addr) (h0 : Heap) (n0 : Nat) (Z0 : n0 ≤ h0.size) :
    MetFree l (⟨"java/util/AbstractCollection", "<init>", "()V"⟩ : MethodName) (head1 (Jvm.Cond.code (⟨"java/util/AbstractCollection", "<init>", "()V"⟩ : MethodName) jdk_22_method_1_code 1 none :: ws) ({ frames := 1, cells := 0, slots := 0, locals := 12 } : Room)) (fun a U => a = #[(.ref a0)] ∧ Z.Warmed39 U.vm ∧ U.heap = h0) (fun _ _ _ _ _ => True) (fun _ U o U' => ∃ v L, o = .returned v ∧ Q8 Z a0 h0 n0 v U'.heap L ∧ FrameEnd U o U' L ({ frames := 1, cells := 0, slots := 0, locals := 12 } : Room).cells ({ frames := 1, cells := 0, slots := 0, locals := 12 } : Room).slots) := by
  refine MetFree.of_bodySF (plainFor_of_name pn_7) hisR ?_
  intro p e s m args below meth c s₁ Bd hml0 hP hK
  obtain ⟨rfl, hZ, hh⟩ := hP
  have hx := Bd.exec
  have hby := Bd.bytes
  have hml : c.maxLocals = 1 := hml0
  have hown : s.vm.findClass "java/util/AbstractCollection" = some m.cls := findClass_of_methodNamed Bd.named
  have hnm := (name_of_methodNamed Bd.named Bd.method).1
  have X0 : Stand p l e ({ frames := 1, cells := 0, slots := 0, locals := 12 } : Room) s m #[(.ref a0)] below meth c s₁ [] 0 0 := Stand.of_body Bd
  have e0 : s₁.heap = h0 := by rw [← hh, Bd.state]; rfl
  have N0 := Fr.nil n0
  have pre0 : ∀ t, Steps p.tables e below (s₁.setTop (mkF m 0 #[.val (.ref a0)] [])) t → Steps p.tables e below (s₁.setTop (entryFrame m #[(.ref a0)] 1)) t := fun t k => castTop (ef_8 m a0) k
  obtain ⟨T1, X1, e1, st1⟩ := initO X0 hx hZ hown (own_wk hw 57 rfl) (own_wk hw 7 rfl) (own_wk hw 8 rfl) e0 (g := (mkF m 1 #[.val (.ref a0)] [(.ref a0)])) rfl (by rw [hml]; rfl) rfl (hb hby d8_1) (by decide) (W := 0) (by show 2 * 0 + _ ≤ _; exact Nat.le_of_eq rfl) (by decide)
  obtain ⟨fs, hr, hrun, hended, hW, hsame⟩ := X1.leave (v := none) (fun _ => rfl)
  refine ⟨_, _, pre0 _ ?_, hrun, hended, _, _, rfl, ?_, ⟨_, rfl⟩, hW, hsame.mono (by decide) (by decide)⟩
  · show own_S p e below s₁ (mkF m 0 #[.val (.ref a0)] []) _
    refine XS.aloadN X0.here hx rfl (hb hby d8_0) rfl rfl ?_
    show own_S p e below s₁ (mkF m 1 #[.val (.ref a0)] [(.ref a0)]) _
    refine st1 _ ?_
    show own_S p e below T1 (mkF m 4 #[.val (.ref a0)] []) _
    exact X1.returnOut hx Bd.returns (hb hby d8_4) hr
  · show Q8 Z a0 h0 n0 _ T1.heap _
    rw [e1]
    exact ⟨rfl, N0, rfl⟩
theorem pn_6 : plainName "java/lang/Record" = true := by first | (simp [plainName, overriddenIn]; done) | decide +kernel
theorem ef_18 (m : MethodId) (a0 : Addr) : entryFrame m #[(.ref a0)] 1 = mkF m 0 #[.val (.ref a0)] [] := by first | (simp [entryFrame, mkF, argsToLocals, Value.category]; done) | rfl
theorem d18_0 : decode jdk_30_method_1_code 0 = .ok (.aload_n 0, 1) := by decide +kernel
theorem d18_1 : decode jdk_30_method_1_code 1 = .ok (.invokespecial 1, 3) := by decide +kernel
theorem d18_4 : decode jdk_30_method_1_code 4 = .ok (.return_, 1) := by decide +kernel
def Q18 (Z : State) (a0 : Addr) (h0 : Heap) (n0 : Nat) (v : Option Value) (h : Heap) (L : List Loc) : Prop := v = none ∧ Fr n0 L ∧ h = h0
set_option maxRecDepth 65536 in
set_option maxHeartbeats 40000000 in
theorem rm18 (l : Launch) (Z : State) (ag : Array Value) (hw : ∀ d ∈ tables_1, d.before ag Z = true) (ws : List Jvm.Cond) (a0 : Addr) (h0 : Heap) (n0 : Nat) (Z0 : n0 ≤ h0.size) :
    MetFree l (⟨"java/lang/Record", "<init>", "()V"⟩ : MethodName) (head1 (Jvm.Cond.code (⟨"java/lang/Record", "<init>", "()V"⟩ : MethodName) jdk_30_method_1_code 1 none :: ws) ({ frames := 1, cells := 0, slots := 0, locals := 12 } : Room)) (fun a U => a = #[(.ref a0)] ∧ Z.Warmed39 U.vm ∧ U.heap = h0) (fun _ _ _ _ _ => True) (fun _ U o U' => ∃ v L, o = .returned v ∧ Q18 Z a0 h0 n0 v U'.heap L ∧ FrameEnd U o U' L ({ frames := 1, cells := 0, slots := 0, locals := 12 } : Room).cells ({ frames := 1, cells := 0, slots := 0, locals := 12 } : Room).slots) := by
  refine MetFree.of_bodySF (plainFor_of_name pn_6) hisR ?_
  intro p e s m args below meth c s₁ Bd hml0 hP hK
  obtain ⟨rfl, hZ, hh⟩ := hP
  have hx := Bd.exec
  have hby := Bd.bytes
  have hml : c.maxLocals = 1 := hml0
  have hown : s.vm.findClass "java/lang/Record" = some m.cls := findClass_of_methodNamed Bd.named
  have hnm := (name_of_methodNamed Bd.named Bd.method).1
  have X0 : Stand p l e ({ frames := 1, cells := 0, slots := 0, locals := 12 } : Room) s m #[(.ref a0)] below meth c s₁ [] 0 0 := Stand.of_body Bd
  have e0 : s₁.heap = h0 := by rw [← hh, Bd.state]; rfl
  have N0 := Fr.nil n0
  have pre0 : ∀ t, Steps p.tables e below (s₁.setTop (mkF m 0 #[.val (.ref a0)] [])) t → Steps p.tables e below (s₁.setTop (entryFrame m #[(.ref a0)] 1)) t := fun t k => castTop (ef_18 m a0) k
  obtain ⟨T2, X2, e2, st2⟩ := initO X0 hx hZ hown (own_wk hw 142 rfl) (own_wk hw 7 rfl) (own_wk hw 8 rfl) e0 (g := (mkF m 1 #[.val (.ref a0)] [(.ref a0)])) rfl (by rw [hml]; rfl) rfl (hb hby d18_1) (by decide) (W := 0) (by show 2 * 0 + _ ≤ _; exact Nat.le_of_eq rfl) (by decide)
  obtain ⟨fs, hr, hrun, hended, hW, hsame⟩ := X2.leave (v := none) (fun _ => rfl)
  refine ⟨_, _, pre0 _ ?_, hrun, hended, _, _, rfl, ?_, ⟨_, rfl⟩, hW, hsame.mono (by decide) (by decide)⟩
  · show own_S p e below s₁ (mkF m 0 #[.val (.ref a0)] []) _
    refine XS.aloadN X0.here hx rfl (hb hby d18_0) rfl rfl ?_
    show own_S p e below s₁ (mkF m 1 #[.val (.ref a0)] [(.ref a0)]) _
    refine st2 _ ?_
    show own_S p e below T2 (mkF m 4 #[.val (.ref a0)] []) _
    exact X2.returnOut hx Bd.returns (hb hby d18_4) hr
  · show Q18 Z a0 h0 n0 _ T2.heap _
    rw [e2]
    exact ⟨rfl, N0, rfl⟩
theorem pn_10 : plainName "jdk/internal/util/Preconditions" = true := by first | (simp [plainName, overriddenIn]; done) | decide +kernel
theorem ef_11_vvn (m : MethodId) (p0 : Int32) (p1 : Int32) : entryFrame m #[(.int p0), (.int p1), .null] 3 = mkF m 0 #[.val (.int p0), .val (.int p1), .val .null] [] := by first | (simp [entryFrame, mkF, argsToLocals, Value.category]; done) | rfl
theorem d11_0 : decode jdk_41_method_11_code 0 = .ok (.iload_n 0, 1) := by decide +kernel
theorem d11_1 : decode jdk_41_method_11_code 1 = .ok (.ifCond .lt 8, 3) := by decide +kernel
theorem d11_4 : decode jdk_41_method_11_code 4 = .ok (.iload_n 0, 1) := by decide +kernel
theorem d11_5 : decode jdk_41_method_11_code 5 = .ok (.iload_n 1, 1) := by decide +kernel
theorem d11_6 : decode jdk_41_method_11_code 6 = .ok (.if_icmp .lt 10, 3) := by decide +kernel
theorem d11_16 : decode jdk_41_method_11_code 16 = .ok (.iload_n 0, 1) := by decide +kernel
theorem d11_17 : decode jdk_41_method_11_code 17 = .ok (.ireturn, 1) := by decide +kernel
def Q11 (Z : State) (p0 : Int32) (p1 : Int32) (h0 : Heap) (n0 : Nat) (v : Option Value) (h : Heap) (L : List Loc) : Prop := v = some (.int p0) ∧ Fr n0 L ∧ h = h0
set_option maxRecDepth 65536 in
set_option maxHeartbeats 40000000 in
theorem rm11 (l : Launch) (Z : State) (ag : Array Value) (hw : ∀ d ∈ tables_1, d.before ag Z = true) (ws : List Jvm.Cond) (p0 : Int32) (p1 : Int32) (h0 : Heap) (n0 : Nat) (Z0 : n0 ≤ h0.size) (h0_ : ¬ p0 < (0 : Int32)) (h1_ : p0 < p1) :
    MetFree l (⟨"jdk/internal/util/Preconditions", "checkIndex", "(IILjava/util/function/BiFunction;)I"⟩ : MethodName) (head1 (Jvm.Cond.code (⟨"jdk/internal/util/Preconditions", "checkIndex", "(IILjava/util/function/BiFunction;)I"⟩ : MethodName) jdk_41_method_11_code 3 (some .int) :: ws) ({ frames := 0, cells := 0, slots := 0, locals := 0 } : Room)) (fun a U => a = #[(.int p0), (.int p1), .null] ∧ Z.Warmed39 U.vm ∧ U.heap = h0) (fun _ _ _ _ _ => True) (fun _ U o U' => ∃ v L, o = .returned v ∧ Q11 Z p0 p1 h0 n0 v U'.heap L ∧ FrameEnd U o U' L ({ frames := 0, cells := 0, slots := 0, locals := 0 } : Room).cells ({ frames := 0, cells := 0, slots := 0, locals := 0 } : Room).slots) := by
  refine MetFree.of_bodySF (plainFor_of_name pn_10) hisR ?_
  intro p e s m args below meth c s₁ Bd hml0 hP hK
  obtain ⟨rfl, hZ, hh⟩ := hP
  have hx := Bd.exec
  have hby := Bd.bytes
  have hml : c.maxLocals = 3 := hml0
  have hown : s.vm.findClass "jdk/internal/util/Preconditions" = some m.cls := findClass_of_methodNamed Bd.named
  have hnm := (name_of_methodNamed Bd.named Bd.method).1
  have X0 : Stand p l e ({ frames := 0, cells := 0, slots := 0, locals := 0 } : Room) s m #[(.int p0), (.int p1), .null] below meth c s₁ [] 0 0 := Stand.of_body Bd
  have e0 : s₁.heap = h0 := by rw [← hh, Bd.state]; rfl
  have N0 := Fr.nil n0
  have pre0 : ∀ t, Steps p.tables e below (s₁.setTop (mkF m 0 #[.val (.int p0), .val (.int p1), .val .null] [])) t → Steps p.tables e below (s₁.setTop (entryFrame m #[(.int p0), (.int p1), .null] 3)) t := fun t k => castTop (ef_11_vvn m p0 p1) k
  obtain ⟨fs, hr, hrun, hended, hW, hsame⟩ := X0.leave (v := some (.int p0)) (fun h => by rw [Bd.returns] at h; cases h)
  refine ⟨_, _, pre0 _ ?_, hrun, hended, _, _, rfl, ?_, ⟨_, rfl⟩, hW, hsame.mono (by decide) (by decide)⟩
  · show own_S p e below s₁ (mkF m 0 #[.val (.int p0), .val (.int p1), .val .null] []) _
    refine XS.iloadN X0.here hx rfl (hb hby d11_0) rfl ?_
    show own_S p e below s₁ (mkF m 1 #[.val (.int p0), .val (.int p1), .val .null] [(.int p0)]) _
    refine XS.ifNo X0.here hx rfl (hb hby d11_1) rfl ((if0 _ _).trans (flt (show ¬ (p0 < (0 : Int32)) from h0_)).1) ?_
    show own_S p e below s₁ (mkF m 4 #[.val (.int p0), .val (.int p1), .val .null] []) _
    refine XS.iloadN X0.here hx rfl (hb hby d11_4) rfl ?_
    show own_S p e below s₁ (mkF m 5 #[.val (.int p0), .val (.int p1), .val .null] [(.int p0)]) _
    refine XS.iloadN X0.here hx rfl (hb hby d11_5) rfl ?_
    show own_S p e below s₁ (mkF m 6 #[.val (.int p0), .val (.int p1), .val .null] [(.int p1), (.int p0)]) _
    refine XS.icmpYes X0.here hx rfl (pc0 := 6) (pc' := 16) rfl (hb hby d11_6) rfl (tlt (show p0 < p1 from h1_)).1 (by decide) (by decide) ?_
    show own_S p e below s₁ (mkF m 16 #[.val (.int p0), .val (.int p1), .val .null] []) _
    refine XS.iloadN X0.here hx rfl (hb hby d11_16) rfl ?_
    show own_S p e below s₁ (mkF m 17 #[.val (.int p0), .val (.int p1), .val .null] [(.int p0)]) _
    exact retI X0 hx Bd.returns (hb hby d11_17) hr
  · show Q11 Z p0 p1 h0 n0 _ s₁.heap _
    rw [e0]
    exact ⟨rfl, N0, rfl⟩
theorem pn_9 : plainName "java/util/Objects" = true := by first | (simp [plainName, overriddenIn]; done) | decide +kernel
theorem ef_10 (m : MethodId) (p0 : Int32) (p1 : Int32) : entryFrame m #[(.int p0), (.int p1)] 2 = mkF m 0 #[.val (.int p0), .val (.int p1)] [] := by first | (simp [entryFrame, mkF, argsToLocals, Value.category]; done) | rfl
theorem d10_0 : decode jdk_31_method_17_code 0 = .ok (.iload_n 0, 1) := by decide +kernel
theorem d10_1 : decode jdk_31_method_17_code 1 = .ok (.iload_n 1, 1) := by decide +kernel
theorem d10_2 : decode jdk_31_method_17_code 2 = .ok (.aconst_null, 1) := by decide +kernel
theorem pd_8 : parseMethodDescriptor "(IILjava/util/function/BiFunction;)I" = some ⟨[.int, .int, (.object "java/util/function/BiFunction")], some .int⟩ := by decide +kernel
theorem d10_3 : decode jdk_31_method_17_code 3 = .ok (.invokestatic 105, 3) := by decide +kernel
theorem d10_6 : decode jdk_31_method_17_code 6 = .ok (.ireturn, 1) := by decide +kernel
def Q10 (Z : State) (p0 : Int32) (p1 : Int32) (h0 : Heap) (n0 : Nat) (v : Option Value) (h : Heap) (L : List Loc) : Prop := v = some (.int p0) ∧ Fr n0 L ∧ h = h0
set_option maxRecDepth 65536 in
set_option maxHeartbeats 40000000 in
theorem rm10 (l : Launch) (Z : State) (ag : Array Value) (hw : ∀ d ∈ tables_1, d.before ag Z = true) (ws : List Jvm.Cond) (p0 : Int32) (p1 : Int32) (h0 : Heap) (n0 : Nat) (Z0 : n0 ≤ h0.size) (h0_ : ¬ p0 < (0 : Int32)) (h1_ : p0 < p1) :
    MetFree l (⟨"java/util/Objects", "checkIndex", "(II)I"⟩ : MethodName) (head1 (Jvm.Cond.code (⟨"java/util/Objects", "checkIndex", "(II)I"⟩ : MethodName) jdk_31_method_17_code 2 (some .int) :: ws) ({ frames := 1, cells := 0, slots := 0, locals := 14 } : Room)) (fun a U => a = #[(.int p0), (.int p1)] ∧ Z.Warmed39 U.vm ∧ U.heap = h0) (fun _ _ _ _ _ => True) (fun _ U o U' => ∃ v L, o = .returned v ∧ Q10 Z p0 p1 h0 n0 v U'.heap L ∧ FrameEnd U o U' L ({ frames := 1, cells := 0, slots := 0, locals := 14 } : Room).cells ({ frames := 1, cells := 0, slots := 0, locals := 14 } : Room).slots) := by
  refine MetFree.of_bodySF (plainFor_of_name pn_9) hisR ?_
  intro p e s m args below meth c s₁ Bd hml0 hP hK
  obtain ⟨rfl, hZ, hh⟩ := hP
  have hx := Bd.exec
  have hby := Bd.bytes
  have hml : c.maxLocals = 2 := hml0
  have hown : s.vm.findClass "java/util/Objects" = some m.cls := findClass_of_methodNamed Bd.named
  have hnm := (name_of_methodNamed Bd.named Bd.method).1
  have X0 : Stand p l e ({ frames := 1, cells := 0, slots := 0, locals := 14 } : Room) s m #[(.int p0), (.int p1)] below meth c s₁ [] 0 0 := Stand.of_body Bd
  have e0 : s₁.heap = h0 := by rw [← hh, Bd.state]; rfl
  have N0 := Fr.nil n0
  have pre0 : ∀ t, Steps p.tables e below (s₁.setTop (mkF m 0 #[.val (.int p0), .val (.int p1)] [])) t → Steps p.tables e below (s₁.setTop (entryFrame m #[(.int p0), (.int p1)] 2)) t := fun t k => castTop (ef_10 m p0 p1) k
  obtain ⟨_, _, ⟨T3, L3, k3, n3⟩, -, X3, ⟨Lc3, hQ3, l3, y3, z3⟩, st3⟩ := Jvm.LawKit.callS X0 hx (y := (⟨"jdk/internal/util/Preconditions", "checkIndex", "(IILjava/util/function/BiFunction;)I"⟩ : MethodName)) hown (mvT hZ (own_wk hw 81 rfl)) (mvT hZ (own_wk hw 82 rfl)) (mvT hZ (own_wk hw 83 rfl)) (mvT hZ (own_wk hw 84 rfl)) (by decide) (backOf (W := 0) (rm11 l Z ag hw [] p0 p1  h0 n0 Z0 h0_ h1_) hZ (own_wk hw 84 rfl) (own_wk hw 83 rfl) (by decide) (by decide)) (g := (mkF m 3 #[.val (.int p0), .val (.int p1)] [.null, (.int p1), (.int p0)])) rfl (by rw [hml]; rfl) (argsL := [(.int p0), (.int p1), .null]) (rest := []) (lenOf pd_8 rfl) rfl (by show 2 * 0 + _ ≤ _; exact Nat.le_of_eq rfl) (hb hby d10_3) (fun _ _ => ⟨rfl, e0, (by decide : 0 + 0 ≤ _), (by decide : 0 + 0 ≤ _)⟩)
  dsimp only [Pt.U, Pt.locs, Pt.cells, Pt.slots] at X3 l3 y3 z3 st3 hQ3
  subst l3 y3 z3
  obtain ⟨rfl, N3q, e3⟩ := hQ3
  have N3 := Fr.app N0 N3q
  obtain ⟨fs, hr, hrun, hended, hW, hsame⟩ := X3.leave (v := some (.int p0)) (fun h => by rw [Bd.returns] at h; cases h)
  refine ⟨_, _, pre0 _ ?_, hrun, hended, _, _, rfl, ?_, ⟨_, rfl⟩, hW, hsame.mono (by decide) (by decide)⟩
  · show own_S p e below s₁ (mkF m 0 #[.val (.int p0), .val (.int p1)] []) _
    refine XS.iloadN X0.here hx rfl (hb hby d10_0) rfl ?_
    show own_S p e below s₁ (mkF m 1 #[.val (.int p0), .val (.int p1)] [(.int p0)]) _
    refine XS.iloadN X0.here hx rfl (hb hby d10_1) rfl ?_
    show own_S p e below s₁ (mkF m 2 #[.val (.int p0), .val (.int p1)] [(.int p1), (.int p0)]) _
    refine XS.aconstNull X0.here hx rfl (hb hby d10_2) ?_
    show own_S p e below s₁ (mkF m 3 #[.val (.int p0), .val (.int p1)] [.null, (.int p1), (.int p0)]) _
    refine st3 _ ?_
    show own_S p e below T3 (mkF m 6 #[.val (.int p0), .val (.int p1)] [(.int p0)]) _
    exact retI X3 hx Bd.returns (hb hby d10_6) hr
  · show Q10 Z p0 p1 h0 n0 _ T3.heap _
    rw [e3]
    exact ⟨rfl, N3, rfl⟩
theorem pn_1 : plainName "com/example/rank60/rank60/FusedHit$Contribution" = true := by first | (simp [plainName, overriddenIn]; done) | decide +kernel
theorem ef_20 (m : MethodId) (a0 : Addr) : entryFrame m #[(.ref a0)] 1 = mkF m 0 #[.val (.ref a0)] [] := by first | (simp [entryFrame, mkF, argsToLocals, Value.category]; done) | rfl
theorem d20_0 : decode prog_8_method_7_code 0 = .ok (.aload_n 0, 1) := by decide +kernel
theorem d20_1 : decode prog_8_method_7_code 1 = .ok (.getfield 16, 3) := by decide +kernel
theorem d20_4 : decode prog_8_method_7_code 4 = .ok (.dreturn, 1) := by decide +kernel
def Q20 (Z : State) (a0 : Addr) (fv : UInt64) (h0 : Heap) (n0 : Nat) (v : Option Value) (h : Heap) (L : List Loc) : Prop := v = some (.double fv) ∧ Fr n0 L ∧ h = h0
set_option maxRecDepth 65536 in
set_option maxHeartbeats 40000000 in
theorem rm20 (l : Launch) (Z : State) (ag : Array Value) (hw : ∀ d ∈ tables_1, d.before ag Z = true) (ws : List Jvm.Cond) (a0 : Addr) (fv : UInt64) (h0 : Heap) (n0 : Nat) (Z0 : n0 ≤ h0.size) (F_score_a0 : Fld Z h0 a0 "com/example/rank60/rank60/FusedHit$Contribution" "score" "D" (.double fv)) :
    MetFree l (⟨"com/example/rank60/rank60/FusedHit$Contribution", "score", "()D"⟩ : MethodName) (head1 (Jvm.Cond.code (⟨"com/example/rank60/rank60/FusedHit$Contribution", "score", "()D"⟩ : MethodName) prog_8_method_7_code 1 (some .double) :: ws) ({ frames := 0, cells := 0, slots := 0, locals := 0 } : Room)) (fun a U => a = #[(.ref a0)] ∧ Z.Warmed39 U.vm ∧ U.heap = h0) (fun _ _ _ _ _ => True) (fun _ U o U' => ∃ v L, o = .returned v ∧ Q20 Z a0 fv h0 n0 v U'.heap L ∧ FrameEnd U o U' L ({ frames := 0, cells := 0, slots := 0, locals := 0 } : Room).cells ({ frames := 0, cells := 0, slots := 0, locals := 0 } : Room).slots) := by
  refine MetFree.of_bodySF (plainFor_of_name pn_1) hisR ?_
  intro p e s m args below meth c s₁ Bd hml0 hP hK
  obtain ⟨rfl, hZ, hh⟩ := hP
  have hx := Bd.exec
  have hby := Bd.bytes
  have hml : c.maxLocals = 1 := hml0
  have hown : s.vm.findClass "com/example/rank60/rank60/FusedHit$Contribution" = some m.cls := findClass_of_methodNamed Bd.named
  have hnm := (name_of_methodNamed Bd.named Bd.method).1
  have X0 : Stand p l e ({ frames := 0, cells := 0, slots := 0, locals := 0 } : Room) s m #[(.ref a0)] below meth c s₁ [] 0 0 := Stand.of_body Bd
  have e0 : s₁.heap = h0 := by rw [← hh, Bd.state]; rfl
  have N0 := Fr.nil n0
  have pre0 : ∀ t, Steps p.tables e below (s₁.setTop (mkF m 0 #[.val (.ref a0)] [])) t → Steps p.tables e below (s₁.setTop (entryFrame m #[(.ref a0)] 1)) t := fun t k => castTop (ef_20 m a0) k
  obtain ⟨T4, X4, e4, st4⟩ := getF X0 hx hZ hown (host := "") (Or.inl (own_wk hw 147 rfl)) Via.refl e0 F_score_a0 (g := (mkF m 1 #[.val (.ref a0)] [(.ref a0)])) rfl rfl (hb hby d20_1)
  obtain ⟨fs, hr, hrun, hended, hW, hsame⟩ := X4.leave (v := some (.double fv)) (fun h => by rw [Bd.returns] at h; cases h)
  refine ⟨_, _, pre0 _ ?_, hrun, hended, _, _, rfl, ?_, ⟨_, rfl⟩, hW, hsame.mono (by decide) (by decide)⟩
  · show own_S p e below s₁ (mkF m 0 #[.val (.ref a0)] []) _
    refine XS.aloadN X0.here hx rfl (hb hby d20_0) rfl rfl ?_
    show own_S p e below s₁ (mkF m 1 #[.val (.ref a0)] [(.ref a0)]) _
    refine st4 _ ?_
    show own_S p e below T4 (mkF m 4 #[.val (.ref a0)] [(.double fv)]) _
    exact Jvm.RoadKit.retOut X4 hx Bd.returns rfl (Or.inr (Or.inr (Or.inl ⟨rfl, rfl, _, rfl⟩))) (hb hby d20_4) hr
  · show Q20 Z a0 fv h0 n0 _ T4.heap _
    rw [e4]
    exact ⟨rfl, N0, rfl⟩
theorem ef_21 (m : MethodId) (a0 : Addr) : entryFrame m #[(.ref a0)] 1 = mkF m 0 #[.val (.ref a0)] [] := by first | (simp [entryFrame, mkF, argsToLocals, Value.category]; done) | rfl
theorem d21_0 : decode prog_8_method_5_code 0 = .ok (.aload_n 0, 1) := by decide +kernel
theorem d21_1 : decode prog_8_method_5_code 1 = .ok (.getfield 7, 3) := by decide +kernel
theorem d21_4 : decode prog_8_method_5_code 4 = .ok (.ireturn, 1) := by decide +kernel
def Q21 (Z : State) (a0 : Addr) (fv : Int32) (h0 : Heap) (n0 : Nat) (v : Option Value) (h : Heap) (L : List Loc) : Prop := v = some (.int fv) ∧ Fr n0 L ∧ h = h0
set_option maxRecDepth 65536 in
set_option maxHeartbeats 40000000 in
theorem rm21 (l : Launch) (Z : State) (ag : Array Value) (hw : ∀ d ∈ tables_1, d.before ag Z = true) (ws : List Jvm.Cond) (a0 : Addr) (fv : Int32) (h0 : Heap) (n0 : Nat) (Z0 : n0 ≤ h0.size) (F_input_a0 : Fld Z h0 a0 "com/example/rank60/rank60/FusedHit$Contribution" "input" "I" (.int fv)) :
    MetFree l (⟨"com/example/rank60/rank60/FusedHit$Contribution", "input", "()I"⟩ : MethodName) (head1 (Jvm.Cond.code (⟨"com/example/rank60/rank60/FusedHit$Contribution", "input", "()I"⟩ : MethodName) prog_8_method_5_code 1 (some .int) :: ws) ({ frames := 0, cells := 0, slots := 0, locals := 0 } : Room)) (fun a U => a = #[(.ref a0)] ∧ Z.Warmed39 U.vm ∧ U.heap = h0) (fun _ _ _ _ _ => True) (fun _ U o U' => ∃ v L, o = .returned v ∧ Q21 Z a0 fv h0 n0 v U'.heap L ∧ FrameEnd U o U' L ({ frames := 0, cells := 0, slots := 0, locals := 0 } : Room).cells ({ frames := 0, cells := 0, slots := 0, locals := 0 } : Room).slots) := by
  refine MetFree.of_bodySF (plainFor_of_name pn_1) hisR ?_
  intro p e s m args below meth c s₁ Bd hml0 hP hK
  obtain ⟨rfl, hZ, hh⟩ := hP
  have hx := Bd.exec
  have hby := Bd.bytes
  have hml : c.maxLocals = 1 := hml0
  have hown : s.vm.findClass "com/example/rank60/rank60/FusedHit$Contribution" = some m.cls := findClass_of_methodNamed Bd.named
  have hnm := (name_of_methodNamed Bd.named Bd.method).1
  have X0 : Stand p l e ({ frames := 0, cells := 0, slots := 0, locals := 0 } : Room) s m #[(.ref a0)] below meth c s₁ [] 0 0 := Stand.of_body Bd
  have e0 : s₁.heap = h0 := by rw [← hh, Bd.state]; rfl
  have N0 := Fr.nil n0
  have pre0 : ∀ t, Steps p.tables e below (s₁.setTop (mkF m 0 #[.val (.ref a0)] [])) t → Steps p.tables e below (s₁.setTop (entryFrame m #[(.ref a0)] 1)) t := fun t k => castTop (ef_21 m a0) k
  obtain ⟨T5, X5, e5, st5⟩ := getF X0 hx hZ hown (host := "") (Or.inl (own_wk hw 143 rfl)) Via.refl e0 F_input_a0 (g := (mkF m 1 #[.val (.ref a0)] [(.ref a0)])) rfl rfl (hb hby d21_1)
  obtain ⟨fs, hr, hrun, hended, hW, hsame⟩ := X5.leave (v := some (.int fv)) (fun h => by rw [Bd.returns] at h; cases h)
  refine ⟨_, _, pre0 _ ?_, hrun, hended, _, _, rfl, ?_, ⟨_, rfl⟩, hW, hsame.mono (by decide) (by decide)⟩
  · show own_S p e below s₁ (mkF m 0 #[.val (.ref a0)] []) _
    refine XS.aloadN X0.here hx rfl (hb hby d21_0) rfl rfl ?_
    show own_S p e below s₁ (mkF m 1 #[.val (.ref a0)] [(.ref a0)]) _
    refine st5 _ ?_
    show own_S p e below T5 (mkF m 4 #[.val (.ref a0)] [(.int fv)]) _
    exact retI X5 hx Bd.returns (hb hby d21_4) hr
  · show Q21 Z a0 fv h0 n0 _ T5.heap _
    rw [e5]
    exact ⟨rfl, N0, rfl⟩
theorem ef_22 (m : MethodId) (a0 : Addr) : entryFrame m #[(.ref a0)] 1 = mkF m 0 #[.val (.ref a0)] [] := by first | (simp [entryFrame, mkF, argsToLocals, Value.category]; done) | rfl
theorem d22_0 : decode prog_8_method_6_code 0 = .ok (.aload_n 0, 1) := by decide +kernel
theorem d22_1 : decode prog_8_method_6_code 1 = .ok (.getfield 13, 3) := by decide +kernel
theorem d22_4 : decode prog_8_method_6_code 4 = .ok (.ireturn, 1) := by decide +kernel
def Q22 (Z : State) (a0 : Addr) (fv : Int32) (h0 : Heap) (n0 : Nat) (v : Option Value) (h : Heap) (L : List Loc) : Prop := v = some (.int fv) ∧ Fr n0 L ∧ h = h0
set_option maxRecDepth 65536 in
set_option maxHeartbeats 40000000 in
theorem rm22 (l : Launch) (Z : State) (ag : Array Value) (hw : ∀ d ∈ tables_1, d.before ag Z = true) (ws : List Jvm.Cond) (a0 : Addr) (fv : Int32) (h0 : Heap) (n0 : Nat) (Z0 : n0 ≤ h0.size) (F_rank_a0 : Fld Z h0 a0 "com/example/rank60/rank60/FusedHit$Contribution" "rank" "I" (.int fv)) :
    MetFree l (⟨"com/example/rank60/rank60/FusedHit$Contribution", "rank", "()I"⟩ : MethodName) (head1 (Jvm.Cond.code (⟨"com/example/rank60/rank60/FusedHit$Contribution", "rank", "()I"⟩ : MethodName) prog_8_method_6_code 1 (some .int) :: ws) ({ frames := 0, cells := 0, slots := 0, locals := 0 } : Room)) (fun a U => a = #[(.ref a0)] ∧ Z.Warmed39 U.vm ∧ U.heap = h0) (fun _ _ _ _ _ => True) (fun _ U o U' => ∃ v L, o = .returned v ∧ Q22 Z a0 fv h0 n0 v U'.heap L ∧ FrameEnd U o U' L ({ frames := 0, cells := 0, slots := 0, locals := 0 } : Room).cells ({ frames := 0, cells := 0, slots := 0, locals := 0 } : Room).slots) := by
  refine MetFree.of_bodySF (plainFor_of_name pn_1) hisR ?_
  intro p e s m args below meth c s₁ Bd hml0 hP hK
  obtain ⟨rfl, hZ, hh⟩ := hP
  have hx := Bd.exec
  have hby := Bd.bytes
  have hml : c.maxLocals = 1 := hml0
  have hown : s.vm.findClass "com/example/rank60/rank60/FusedHit$Contribution" = some m.cls := findClass_of_methodNamed Bd.named
  have hnm := (name_of_methodNamed Bd.named Bd.method).1
  have X0 : Stand p l e ({ frames := 0, cells := 0, slots := 0, locals := 0 } : Room) s m #[(.ref a0)] below meth c s₁ [] 0 0 := Stand.of_body Bd
  have e0 : s₁.heap = h0 := by rw [← hh, Bd.state]; rfl
  have N0 := Fr.nil n0
  have pre0 : ∀ t, Steps p.tables e below (s₁.setTop (mkF m 0 #[.val (.ref a0)] [])) t → Steps p.tables e below (s₁.setTop (entryFrame m #[(.ref a0)] 1)) t := fun t k => castTop (ef_22 m a0) k
  obtain ⟨T6, X6, e6, st6⟩ := getF X0 hx hZ hown (host := "") (Or.inl (own_wk hw 145 rfl)) Via.refl e0 F_rank_a0 (g := (mkF m 1 #[.val (.ref a0)] [(.ref a0)])) rfl rfl (hb hby d22_1)
  obtain ⟨fs, hr, hrun, hended, hW, hsame⟩ := X6.leave (v := some (.int fv)) (fun h => by rw [Bd.returns] at h; cases h)
  refine ⟨_, _, pre0 _ ?_, hrun, hended, _, _, rfl, ?_, ⟨_, rfl⟩, hW, hsame.mono (by decide) (by decide)⟩
  · show own_S p e below s₁ (mkF m 0 #[.val (.ref a0)] []) _
    refine XS.aloadN X0.here hx rfl (hb hby d22_0) rfl rfl ?_
    show own_S p e below s₁ (mkF m 1 #[.val (.ref a0)] [(.ref a0)]) _
    refine st6 _ ?_
    show own_S p e below T6 (mkF m 4 #[.val (.ref a0)] [(.int fv)]) _
    exact retI X6 hx Bd.returns (hb hby d22_4) hr
  · show Q22 Z a0 fv h0 n0 _ T6.heap _
    rw [e6]
    exact ⟨rfl, N0, rfl⟩
theorem ef_23 (m : MethodId) (a0 : Addr) : entryFrame m #[(.ref a0)] 1 = mkF m 0 #[.val (.ref a0)] [] := by first | (simp [entryFrame, mkF, argsToLocals, Value.category]; done) | rfl
theorem d23_0 : decode prog_8_method_8_code 0 = .ok (.aload_n 0, 1) := by decide +kernel
theorem d23_1 : decode prog_8_method_8_code 1 = .ok (.getfield 20, 3) := by decide +kernel
theorem d23_4 : decode prog_8_method_8_code 4 = .ok (.dreturn, 1) := by decide +kernel
def Q23 (Z : State) (a0 : Addr) (fv : UInt64) (h0 : Heap) (n0 : Nat) (v : Option Value) (h : Heap) (L : List Loc) : Prop := v = some (.double fv) ∧ Fr n0 L ∧ h = h0
set_option maxRecDepth 65536 in
set_option maxHeartbeats 40000000 in
theorem rm23 (l : Launch) (Z : State) (ag : Array Value) (hw : ∀ d ∈ tables_1, d.before ag Z = true) (ws : List Jvm.Cond) (a0 : Addr) (fv : UInt64) (h0 : Heap) (n0 : Nat) (Z0 : n0 ≤ h0.size) (F_value_a0 : Fld Z h0 a0 "com/example/rank60/rank60/FusedHit$Contribution" "value" "D" (.double fv)) :
    MetFree l (⟨"com/example/rank60/rank60/FusedHit$Contribution", "value", "()D"⟩ : MethodName) (head1 (Jvm.Cond.code (⟨"com/example/rank60/rank60/FusedHit$Contribution", "value", "()D"⟩ : MethodName) prog_8_method_8_code 1 (some .double) :: ws) ({ frames := 0, cells := 0, slots := 0, locals := 0 } : Room)) (fun a U => a = #[(.ref a0)] ∧ Z.Warmed39 U.vm ∧ U.heap = h0) (fun _ _ _ _ _ => True) (fun _ U o U' => ∃ v L, o = .returned v ∧ Q23 Z a0 fv h0 n0 v U'.heap L ∧ FrameEnd U o U' L ({ frames := 0, cells := 0, slots := 0, locals := 0 } : Room).cells ({ frames := 0, cells := 0, slots := 0, locals := 0 } : Room).slots) := by
  refine MetFree.of_bodySF (plainFor_of_name pn_1) hisR ?_
  intro p e s m args below meth c s₁ Bd hml0 hP hK
  obtain ⟨rfl, hZ, hh⟩ := hP
  have hx := Bd.exec
  have hby := Bd.bytes
  have hml : c.maxLocals = 1 := hml0
  have hown : s.vm.findClass "com/example/rank60/rank60/FusedHit$Contribution" = some m.cls := findClass_of_methodNamed Bd.named
  have hnm := (name_of_methodNamed Bd.named Bd.method).1
  have X0 : Stand p l e ({ frames := 0, cells := 0, slots := 0, locals := 0 } : Room) s m #[(.ref a0)] below meth c s₁ [] 0 0 := Stand.of_body Bd
  have e0 : s₁.heap = h0 := by rw [← hh, Bd.state]; rfl
  have N0 := Fr.nil n0
  have pre0 : ∀ t, Steps p.tables e below (s₁.setTop (mkF m 0 #[.val (.ref a0)] [])) t → Steps p.tables e below (s₁.setTop (entryFrame m #[(.ref a0)] 1)) t := fun t k => castTop (ef_23 m a0) k
  obtain ⟨T7, X7, e7, st7⟩ := getF X0 hx hZ hown (host := "") (Or.inl (own_wk hw 149 rfl)) Via.refl e0 F_value_a0 (g := (mkF m 1 #[.val (.ref a0)] [(.ref a0)])) rfl rfl (hb hby d23_1)
  obtain ⟨fs, hr, hrun, hended, hW, hsame⟩ := X7.leave (v := some (.double fv)) (fun h => by rw [Bd.returns] at h; cases h)
  refine ⟨_, _, pre0 _ ?_, hrun, hended, _, _, rfl, ?_, ⟨_, rfl⟩, hW, hsame.mono (by decide) (by decide)⟩
  · show own_S p e below s₁ (mkF m 0 #[.val (.ref a0)] []) _
    refine XS.aloadN X0.here hx rfl (hb hby d23_0) rfl rfl ?_
    show own_S p e below s₁ (mkF m 1 #[.val (.ref a0)] [(.ref a0)]) _
    refine st7 _ ?_
    show own_S p e below T7 (mkF m 4 #[.val (.ref a0)] [(.double fv)]) _
    exact Jvm.RoadKit.retOut X7 hx Bd.returns rfl (Or.inr (Or.inr (Or.inl ⟨rfl, rfl, _, rfl⟩))) (hb hby d23_4) hr
  · show Q23 Z a0 fv h0 n0 _ T7.heap _
    rw [e7]
    exact ⟨rfl, N0, rfl⟩
theorem pn_4 : plainName "com/example/rank60/rank60/FusedList$Explanations$DocumentContributions" = true := by first | (simp [plainName, overriddenIn]; done) | decide +kernel
theorem ef_14 (m : MethodId) (a0 : Addr) : entryFrame m #[(.ref a0)] 1 = mkF m 0 #[.val (.ref a0)] [] := by first | (simp [entryFrame, mkF, argsToLocals, Value.category]; done) | rfl
theorem d14_0 : decode prog_11_method_3_code 0 = .ok (.aload_n 0, 1) := by decide +kernel
theorem d14_1 : decode prog_11_method_3_code 1 = .ok (.getfield 17, 3) := by decide +kernel
theorem d14_4 : decode prog_11_method_3_code 4 = .ok (.ireturn, 1) := by decide +kernel
def Q14 (Z : State) (a0 : Addr) (fv : Int32) (h0 : Heap) (n0 : Nat) (v : Option Value) (h : Heap) (L : List Loc) : Prop := v = some (.int fv) ∧ Fr n0 L ∧ h = h0
set_option maxRecDepth 65536 in
set_option maxHeartbeats 40000000 in
theorem rm14 (l : Launch) (Z : State) (ag : Array Value) (hw : ∀ d ∈ tables_1, d.before ag Z = true) (ws : List Jvm.Cond) (a0 : Addr) (fv : Int32) (h0 : Heap) (n0 : Nat) (Z0 : n0 ≤ h0.size) (F_size_a0 : Fld Z h0 a0 "com/example/rank60/rank60/FusedList$Explanations$DocumentContributions" "size" "I" (.int fv)) :
    MetFree l (⟨"com/example/rank60/rank60/FusedList$Explanations$DocumentContributions", "size", "()I"⟩ : MethodName) (head1 (Jvm.Cond.code (⟨"com/example/rank60/rank60/FusedList$Explanations$DocumentContributions", "size", "()I"⟩ : MethodName) prog_11_method_3_code 1 (some .int) :: ws) ({ frames := 0, cells := 0, slots := 0, locals := 0 } : Room)) (fun a U => a = #[(.ref a0)] ∧ Z.Warmed39 U.vm ∧ U.heap = h0) (fun _ _ _ _ _ => True) (fun _ U o U' => ∃ v L, o = .returned v ∧ Q14 Z a0 fv h0 n0 v U'.heap L ∧ FrameEnd U o U' L ({ frames := 0, cells := 0, slots := 0, locals := 0 } : Room).cells ({ frames := 0, cells := 0, slots := 0, locals := 0 } : Room).slots) := by
  refine MetFree.of_bodySF (plainFor_of_name pn_4) hisR ?_
  intro p e s m args below meth c s₁ Bd hml0 hP hK
  obtain ⟨rfl, hZ, hh⟩ := hP
  have hx := Bd.exec
  have hby := Bd.bytes
  have hml : c.maxLocals = 1 := hml0
  have hown : s.vm.findClass "com/example/rank60/rank60/FusedList$Explanations$DocumentContributions" = some m.cls := findClass_of_methodNamed Bd.named
  have hnm := (name_of_methodNamed Bd.named Bd.method).1
  have X0 : Stand p l e ({ frames := 0, cells := 0, slots := 0, locals := 0 } : Room) s m #[(.ref a0)] below meth c s₁ [] 0 0 := Stand.of_body Bd
  have e0 : s₁.heap = h0 := by rw [← hh, Bd.state]; rfl
  have N0 := Fr.nil n0
  have pre0 : ∀ t, Steps p.tables e below (s₁.setTop (mkF m 0 #[.val (.ref a0)] [])) t → Steps p.tables e below (s₁.setTop (entryFrame m #[(.ref a0)] 1)) t := fun t k => castTop (ef_14 m a0) k
  obtain ⟨T8, X8, e8, st8⟩ := getF X0 hx hZ hown (host := "") (Or.inl (own_wk hw 102 rfl)) Via.refl e0 F_size_a0 (g := (mkF m 1 #[.val (.ref a0)] [(.ref a0)])) rfl rfl (hb hby d14_1)
  obtain ⟨fs, hr, hrun, hended, hW, hsame⟩ := X8.leave (v := some (.int fv)) (fun h => by rw [Bd.returns] at h; cases h)
  refine ⟨_, _, pre0 _ ?_, hrun, hended, _, _, rfl, ?_, ⟨_, rfl⟩, hW, hsame.mono (by decide) (by decide)⟩
  · show own_S p e below s₁ (mkF m 0 #[.val (.ref a0)] []) _
    refine XS.aloadN X0.here hx rfl (hb hby d14_0) rfl rfl ?_
    show own_S p e below s₁ (mkF m 1 #[.val (.ref a0)] [(.ref a0)]) _
    refine st8 _ ?_
    show own_S p e below T8 (mkF m 4 #[.val (.ref a0)] [(.int fv)]) _
    exact retI X8 hx Bd.returns (hb hby d14_4) hr
  · show Q14 Z a0 fv h0 n0 _ T8.heap _
    rw [e8]
    exact ⟨rfl, N0, rfl⟩
theorem pn_3 : plainName "com/example/rank60/rank60/FusedList$Explanations" = true := by first | (simp [plainName, overriddenIn]; done) | decide +kernel
theorem ef_1_v220 (m : MethodId) (a0 : Addr) : entryFrame m #[(.ref a0), (.int (2 : Int32)), (.int (2 : Int32)), (.int (0 : Int32))] 4 = mkF m 0 #[.val (.ref a0), .val (.int 2), .val (.int 2), .val (.int 0)] [] := by first | (simp [entryFrame, mkF, argsToLocals, Value.category]; done) | rfl
theorem d1_0 : decode prog_10_method_1_code 0 = .ok (.aload_n 0, 1) := by decide +kernel
theorem d1_1 : decode prog_10_method_1_code 1 = .ok (.invokespecial 1, 3) := by decide +kernel
theorem d1_4 : decode prog_10_method_1_code 4 = .ok (.aload_n 0, 1) := by decide +kernel
theorem d1_5 : decode prog_10_method_1_code 5 = .ok (.iload_n 1, 1) := by decide +kernel
theorem d1_6 : decode prog_10_method_1_code 6 = .ok (.iconst 1, 1) := by decide +kernel
theorem d1_7 : decode prog_10_method_1_code 7 = .ok (.iadd, 1) := by decide +kernel
theorem d1_8 : decode prog_10_method_1_code 8 = .ok (.newarray .int, 2) := by decide +kernel
theorem d1_10 : decode prog_10_method_1_code 10 = .ok (.putfield 7, 3) := by decide +kernel
theorem d1_13 : decode prog_10_method_1_code 13 = .ok (.aload_n 0, 1) := by decide +kernel
theorem d1_14 : decode prog_10_method_1_code 14 = .ok (.iload_n 2, 1) := by decide +kernel
theorem d1_15 : decode prog_10_method_1_code 15 = .ok (.newarray .int, 2) := by decide +kernel
theorem d1_17 : decode prog_10_method_1_code 17 = .ok (.putfield 13, 3) := by decide +kernel
theorem d1_20 : decode prog_10_method_1_code 20 = .ok (.aload_n 0, 1) := by decide +kernel
theorem d1_21 : decode prog_10_method_1_code 21 = .ok (.iload_n 2, 1) := by decide +kernel
theorem d1_22 : decode prog_10_method_1_code 22 = .ok (.newarray .int, 2) := by decide +kernel
theorem d1_24 : decode prog_10_method_1_code 24 = .ok (.putfield 16, 3) := by decide +kernel
theorem d1_27 : decode prog_10_method_1_code 27 = .ok (.aload_n 0, 1) := by decide +kernel
theorem d1_28 : decode prog_10_method_1_code 28 = .ok (.iload_n 3, 1) := by decide +kernel
theorem d1_29 : decode prog_10_method_1_code 29 = .ok (.ifCond .eq 9, 3) := by decide +kernel
theorem d1_38 : decode prog_10_method_1_code 38 = .ok (.aconst_null, 1) := by decide +kernel
theorem d1_39 : decode prog_10_method_1_code 39 = .ok (.putfield 19, 3) := by decide +kernel
theorem d1_42 : decode prog_10_method_1_code 42 = .ok (.aload_n 0, 1) := by decide +kernel
theorem d1_43 : decode prog_10_method_1_code 43 = .ok (.iload_n 2, 1) := by decide +kernel
theorem d1_44 : decode prog_10_method_1_code 44 = .ok (.newarray .double, 2) := by decide +kernel
theorem d1_46 : decode prog_10_method_1_code 46 = .ok (.putfield 23, 3) := by decide +kernel
theorem d1_49 : decode prog_10_method_1_code 49 = .ok (.return_, 1) := by decide +kernel
def Q1_0 (Z : State) (a0 : Addr) (h0 : Heap) (n0 : Nat) (v : Option Value) (h : Heap) (L : List Loc) : Prop := ∃ (u0 u1 u2 u4 : Addr) (ku0 ku1 ku2 ku4 : ClassId), v = none ∧ Fr n0 L ∧ Keep h0 h [a0] ∧ h0.size ≤ u0 ∧ h0.size ≤ u1 ∧ h0.size ≤ u2 ∧ h0.size ≤ u4 ∧ u0 ≠ u1 ∧ u0 ≠ u2 ∧ u0 ≠ u4 ∧ u1 ≠ u2 ∧ u1 ≠ u4 ∧ u2 ≠ u4 ∧ Exa Z h a0 "com/example/rank60/rank60/FusedList$Explanations" ∧ Fld Z h a0 "com/example/rank60/rank60/FusedList$Explanations" "starts" "[I" (.ref u0) ∧ Fld Z h a0 "com/example/rank60/rank60/FusedList$Explanations" "inputs" "[I" (.ref u1) ∧ Fld Z h a0 "com/example/rank60/rank60/FusedList$Explanations" "ranks" "[I" (.ref u2) ∧ Fld Z h a0 "com/example/rank60/rank60/FusedList$Explanations" "values" "[D" (.ref u4) ∧ Fld Z h a0 "com/example/rank60/rank60/FusedList$Explanations" "scores" "[D" .null ∧ Fld Z h a0 "com/example/rank60/rank60/FusedList$Explanations" "count" "I" (.int (0 : Int32)) ∧ Fld Z h a0 "com/example/rank60/rank60/FusedList$Explanations" "documents" "I" (.int (0 : Int32)) ∧ Arv Z h u0 ku0 .int (3 : Int32) [(.int (0 : Int32)), (.int (0 : Int32)), (.int (0 : Int32))] (.int (0 : Int32)) ∧ Arv Z h u1 ku1 .int (2 : Int32) [(.int (0 : Int32)), (.int (0 : Int32))] (.int (0 : Int32)) ∧ Arv Z h u2 ku2 .int (2 : Int32) [(.int (0 : Int32)), (.int (0 : Int32))] (.int (0 : Int32)) ∧ Arv Z h u4 ku4 .double (2 : Int32) [(.double (FP.l2d 0)), (.double (FP.l2d 0))] (.double (FP.l2d 0))
set_option maxRecDepth 65536 in
set_option maxHeartbeats 40000000 in
theorem rm1_0 (l : Launch) (Z : State) (ag : Array Value) (hw : ∀ d ∈ tables_1, d.before ag Z = true) (ws : List Jvm.Cond) (a0 : Addr) (h0 : Heap) (n0 : Nat) (Z0 : n0 ≤ h0.size) (E_a0 : Exa Z h0 a0 "com/example/rank60/rank60/FusedList$Explanations") (ge_a0 : n0 ≤ a0) (F_starts_a0 : Fld Z h0 a0 "com/example/rank60/rank60/FusedList$Explanations" "starts" "[I" .null) (F_inputs_a0 : Fld Z h0 a0 "com/example/rank60/rank60/FusedList$Explanations" "inputs" "[I" .null) (F_ranks_a0 : Fld Z h0 a0 "com/example/rank60/rank60/FusedList$Explanations" "ranks" "[I" .null) (F_scores_a0 : Fld Z h0 a0 "com/example/rank60/rank60/FusedList$Explanations" "scores" "[D" .null) (F_values_a0 : Fld Z h0 a0 "com/example/rank60/rank60/FusedList$Explanations" "values" "[D" .null) (F_count_a0 : Fld Z h0 a0 "com/example/rank60/rank60/FusedList$Explanations" "count" "I" (.int (0 : Int32))) (F_documents_a0 : Fld Z h0 a0 "com/example/rank60/rank60/FusedList$Explanations" "documents" "I" (.int (0 : Int32))) :
    MetFree l (⟨"com/example/rank60/rank60/FusedList$Explanations", "<init>", "(IIZ)V"⟩ : MethodName) (head1 (Jvm.Cond.code (⟨"com/example/rank60/rank60/FusedList$Explanations", "<init>", "(IIZ)V"⟩ : MethodName) prog_10_method_1_code 4 none :: ws) ({ frames := 1, cells := 4, slots := 9, locals := 12 } : Room)) (fun a U => a = #[(.ref a0), (.int (2 : Int32)), (.int (2 : Int32)), (.int (0 : Int32))] ∧ Z.Warmed39 U.vm ∧ U.heap = h0) (fun _ _ _ _ _ => True) (fun _ U o U' => ∃ v L, o = .returned v ∧ Q1_0 Z a0 h0 n0 v U'.heap L ∧ FrameEnd U o U' L ({ frames := 1, cells := 4, slots := 9, locals := 12 } : Room).cells ({ frames := 1, cells := 4, slots := 9, locals := 12 } : Room).slots) := by
  refine MetFree.of_bodySF (plainFor_of_name pn_3) hisR ?_
  intro p e s m args below meth c s₁ Bd hml0 hP hK
  obtain ⟨rfl, hZ, hh⟩ := hP
  have hx := Bd.exec
  have hby := Bd.bytes
  have hml : c.maxLocals = 4 := hml0
  have hown : s.vm.findClass "com/example/rank60/rank60/FusedList$Explanations" = some m.cls := findClass_of_methodNamed Bd.named
  have hnm := (name_of_methodNamed Bd.named Bd.method).1
  have X0 : Stand p l e ({ frames := 1, cells := 4, slots := 9, locals := 12 } : Room) s m #[(.ref a0), (.int (2 : Int32)), (.int (2 : Int32)), (.int (0 : Int32))] below meth c s₁ [] 0 0 := Stand.of_body Bd
  have e0 : s₁.heap = h0 := by rw [← hh, Bd.state]; rfl
  have N0 := Fr.nil n0
  have pre0 : ∀ t, Steps p.tables e below (s₁.setTop (mkF m 0 #[.val (.ref a0), .val (.int 2), .val (.int 2), .val (.int 0)] [])) t → Steps p.tables e below (s₁.setTop (entryFrame m #[(.ref a0), (.int (2 : Int32)), (.int (2 : Int32)), (.int (0 : Int32))] 4)) t := fun t k => castTop (ef_1_v220 m a0) k
  obtain ⟨T9, X9, e9, st9⟩ := initO X0 hx hZ hown (own_wk hw 6 rfl) (own_wk hw 7 rfl) (own_wk hw 8 rfl) e0 (g := (mkF m 1 #[.val (.ref a0), .val (.int 2), .val (.int 2), .val (.int 0)] [(.ref a0)])) rfl (by rw [hml]; rfl) rfl (hb hby d1_1) (by decide) (W := 0) (by show 2 * 0 + _ ≤ _; exact Nat.le_of_eq rfl) (by decide)
  obtain ⟨T10, h10, k10, X10, e10, E10, A10, st10⟩ := newP X9 hx hZ (own_wk hw 9 rfl) e9 (g := (mkF m 8 #[.val (.ref a0), .val (.int 2), .val (.int 2), .val (.int 0)] [.int 3, (.ref a0)])) rfl (hb hby d1_8) rfl (by decide) (cap := 3) (by decide) (by decide) (by decide) (by decide)
  obtain ⟨b10, g10⟩ : ∃ z, z = h0.size := ⟨_, rfl⟩
  have ne11 : a0 ≠ b10 := Nat.ne_of_lt (Nat.lt_of_lt_of_le E_a0.lt (Nat.le_of_eq g10.symm))
  have ge_b10 : n0 ≤ b10 := Nat.le_trans Z0 (Nat.le_of_eq g10.symm)
  have gs_b10 : h0.size ≤ b10 := Nat.le_trans (Keep.refl h0 [a0]).1 (Nat.le_of_eq g10.symm)
  rw [← g10] at A10 st10
  have x12 := E_a0.ext E10
  have x13 := F_starts_a0.ext E10
  have x14 := F_inputs_a0.ext E10
  have x15 := F_ranks_a0.ext E10
  have x16 := F_scores_a0.ext E10
  have x17 := F_values_a0.ext E10
  have x18 := F_count_a0.ext E10
  have x19 := F_documents_a0.ext E10
  have sz20 : n0 ≤ h10.size := Nat.le_trans Z0 E10.1
  have kp21 : Keep h0 h10 [a0] := (Keep.refl h0 [a0]).ext E10
  have V10 : Arv Z h10 b10 k10 .int (3 : Int32) [(.int (0 : Int32)), (.int (0 : Int32)), (.int (0 : Int32))] (.int (0 : Int32)) := (Arv.new A10 (by decide)).pad (pad_rep [] (.int (0 : Int32)) 3)
  obtain ⟨T22, h22, X22, e22, W22, st22⟩ := putF X10 hx hZ hown (host := "") (Or.inl (own_wk hw 10 rfl)) Via.refl e10 x13 x12 (Or.inr ⟨(own_wk hw 11 rfl), rfl, hnm⟩) (own_wk hw 1 rfl) (ty := (.array .int)) (by decide) rfl rfl (g := (mkF m 10 #[.val (.ref a0), .val (.int 2), .val (.int 2), .val (.int 0)] [(.ref b10), (.ref a0)])) rfl rfl (hb hby d1_10)
  have Fw22 := x13.same W22
  have x23 := x12.wr W22
  have x24 := x14.other W22 (Or.inr (slot_ne (Or.inr (own_wk hw 13 rfl)) (Or.inr (own_wk hw 11 rfl)) (by decide) (t := (.array .int)) (t' := (.array .int)) (by decide) (by decide)))
  have x25 := x15.other W22 (Or.inr (slot_ne (Or.inr (own_wk hw 15 rfl)) (Or.inr (own_wk hw 11 rfl)) (by decide) (t := (.array .int)) (t' := (.array .int)) (by decide) (by decide)))
  have x26 := x16.other W22 (Or.inr (slot_ne (Or.inr (own_wk hw 18 rfl)) (Or.inr (own_wk hw 11 rfl)) (by decide) (t := (.array .double)) (t' := (.array .int)) (by decide) (by decide)))
  have x27 := x17.other W22 (Or.inr (slot_ne (Or.inr (own_wk hw 20 rfl)) (Or.inr (own_wk hw 11 rfl)) (by decide) (t := (.array .double)) (t' := (.array .int)) (by decide) (by decide)))
  have x28 := x18.other W22 (Or.inr (slot_ne (Or.inl (own_wk hw 29 rfl)) (Or.inr (own_wk hw 11 rfl)) (by decide) (t := .int) (t' := (.array .int)) (by decide) (by decide)))
  have x29 := x19.other W22 (Or.inr (slot_ne (Or.inl (own_wk hw 36 rfl)) (Or.inr (own_wk hw 11 rfl)) (by decide) (t := .int) (t' := (.array .int)) (by decide) (by decide)))
  have x30 := V10.other W22 (Ne.symm ne11)
  have sz31 : n0 ≤ h22.size := Nat.le_trans sz20 (Keep.of_wr W22).1
  have kp32 : Keep h0 h22 [a0] := kp21.wr W22 (Or.inl (List.mem_of_getElem? (i := 0) rfl))
  have N22 := Fr.snoc X22 N0 ge_a0
  obtain ⟨T33, h33, k33, X33, e33, E33, A33, st33⟩ := newP X22 hx hZ (own_wk hw 9 rfl) e22 (g := (mkF m 15 #[.val (.ref a0), .val (.int 2), .val (.int 2), .val (.int 0)] [.int 2, (.ref a0)])) rfl (hb hby d1_15) rfl (by decide) (cap := 2) (by decide) (by decide) (by decide) (by decide)
  obtain ⟨b33, g33⟩ : ∃ z, z = h22.size := ⟨_, rfl⟩
  have ne34 : a0 ≠ b33 := Nat.ne_of_lt (Nat.lt_of_lt_of_le x23.lt (Nat.le_of_eq g33.symm))
  have ne35 : b10 ≠ b33 := Nat.ne_of_lt (Nat.lt_of_lt_of_le x30.lt (Nat.le_of_eq g33.symm))
  have ge_b33 : n0 ≤ b33 := Nat.le_trans sz31 (Nat.le_of_eq g33.symm)
  have gs_b33 : h0.size ≤ b33 := Nat.le_trans kp32.1 (Nat.le_of_eq g33.symm)
  rw [← g33] at A33 st33
  have x36 := x23.ext E33
  have x37 := x24.ext E33
  have x38 := x25.ext E33
  have x39 := x26.ext E33
  have x40 := x27.ext E33
  have x41 := x28.ext E33
  have x42 := x29.ext E33
  have x43 := x30.ext E33
  have x44 := Fw22.ext E33
  have sz45 : n0 ≤ h33.size := Nat.le_trans sz31 E33.1
  have kp46 : Keep h0 h33 [a0] := kp32.ext E33
  have V33 : Arv Z h33 b33 k33 .int (2 : Int32) [(.int (0 : Int32)), (.int (0 : Int32))] (.int (0 : Int32)) := (Arv.new A33 (by decide)).pad (pad_rep [] (.int (0 : Int32)) 2)
  obtain ⟨T47, h47, X47, e47, W47, st47⟩ := putF X33 hx hZ hown (host := "") (Or.inl (own_wk hw 12 rfl)) Via.refl e33 x37 x36 (Or.inr ⟨(own_wk hw 13 rfl), rfl, hnm⟩) (own_wk hw 1 rfl) (ty := (.array .int)) (by decide) rfl rfl (g := (mkF m 17 #[.val (.ref a0), .val (.int 2), .val (.int 2), .val (.int 0)] [(.ref b33), (.ref a0)])) rfl rfl (hb hby d1_17)
  have Fw47 := x37.same W47
  have x48 := x36.wr W47
  have x49 := x38.other W47 (Or.inr (slot_ne (Or.inr (own_wk hw 15 rfl)) (Or.inr (own_wk hw 13 rfl)) (by decide) (t := (.array .int)) (t' := (.array .int)) (by decide) (by decide)))
  have x50 := x39.other W47 (Or.inr (slot_ne (Or.inr (own_wk hw 18 rfl)) (Or.inr (own_wk hw 13 rfl)) (by decide) (t := (.array .double)) (t' := (.array .int)) (by decide) (by decide)))
  have x51 := x40.other W47 (Or.inr (slot_ne (Or.inr (own_wk hw 20 rfl)) (Or.inr (own_wk hw 13 rfl)) (by decide) (t := (.array .double)) (t' := (.array .int)) (by decide) (by decide)))
  have x52 := x41.other W47 (Or.inr (slot_ne (Or.inl (own_wk hw 29 rfl)) (Or.inr (own_wk hw 13 rfl)) (by decide) (t := .int) (t' := (.array .int)) (by decide) (by decide)))
  have x53 := x42.other W47 (Or.inr (slot_ne (Or.inl (own_wk hw 36 rfl)) (Or.inr (own_wk hw 13 rfl)) (by decide) (t := .int) (t' := (.array .int)) (by decide) (by decide)))
  have x54 := x43.other W47 (Ne.symm ne11)
  have x55 := x44.other W47 (Or.inr (slot_ne (Or.inr (own_wk hw 11 rfl)) (Or.inr (own_wk hw 13 rfl)) (by decide) (t := (.array .int)) (t' := (.array .int)) (by decide) (by decide)))
  have x56 := V33.other W47 (Ne.symm ne34)
  have sz57 : n0 ≤ h47.size := Nat.le_trans sz45 (Keep.of_wr W47).1
  have kp58 : Keep h0 h47 [a0] := kp46.wr W47 (Or.inl (List.mem_of_getElem? (i := 0) rfl))
  have N47 := Fr.snoc X47 N22 ge_a0
  obtain ⟨T59, h59, k59, X59, e59, E59, A59, st59⟩ := newP X47 hx hZ (own_wk hw 9 rfl) e47 (g := (mkF m 22 #[.val (.ref a0), .val (.int 2), .val (.int 2), .val (.int 0)] [.int 2, (.ref a0)])) rfl (hb hby d1_22) rfl (by decide) (cap := 2) (by decide) (by decide) (by decide) (by decide)
  obtain ⟨b59, g59⟩ : ∃ z, z = h47.size := ⟨_, rfl⟩
  have ne60 : a0 ≠ b59 := Nat.ne_of_lt (Nat.lt_of_lt_of_le x48.lt (Nat.le_of_eq g59.symm))
  have ne61 : b10 ≠ b59 := Nat.ne_of_lt (Nat.lt_of_lt_of_le x54.lt (Nat.le_of_eq g59.symm))
  have ne62 : b33 ≠ b59 := Nat.ne_of_lt (Nat.lt_of_lt_of_le x56.lt (Nat.le_of_eq g59.symm))
  have ge_b59 : n0 ≤ b59 := Nat.le_trans sz57 (Nat.le_of_eq g59.symm)
  have gs_b59 : h0.size ≤ b59 := Nat.le_trans kp58.1 (Nat.le_of_eq g59.symm)
  rw [← g59] at A59 st59
  have x63 := x48.ext E59
  have x64 := x49.ext E59
  have x65 := x50.ext E59
  have x66 := x51.ext E59
  have x67 := x52.ext E59
  have x68 := x53.ext E59
  have x69 := x54.ext E59
  have x70 := x55.ext E59
  have x71 := x56.ext E59
  have x72 := Fw47.ext E59
  have sz73 : n0 ≤ h59.size := Nat.le_trans sz57 E59.1
  have kp74 : Keep h0 h59 [a0] := kp58.ext E59
  have V59 : Arv Z h59 b59 k59 .int (2 : Int32) [(.int (0 : Int32)), (.int (0 : Int32))] (.int (0 : Int32)) := (Arv.new A59 (by decide)).pad (pad_rep [] (.int (0 : Int32)) 2)
  obtain ⟨T75, h75, X75, e75, W75, st75⟩ := putF X59 hx hZ hown (host := "") (Or.inl (own_wk hw 14 rfl)) Via.refl e59 x64 x63 (Or.inr ⟨(own_wk hw 15 rfl), rfl, hnm⟩) (own_wk hw 1 rfl) (ty := (.array .int)) (by decide) rfl rfl (g := (mkF m 24 #[.val (.ref a0), .val (.int 2), .val (.int 2), .val (.int 0)] [(.ref b59), (.ref a0)])) rfl rfl (hb hby d1_24)
  have Fw75 := x64.same W75
  have x76 := x63.wr W75
  have x77 := x65.other W75 (Or.inr (slot_ne (Or.inr (own_wk hw 18 rfl)) (Or.inr (own_wk hw 15 rfl)) (by decide) (t := (.array .double)) (t' := (.array .int)) (by decide) (by decide)))
  have x78 := x66.other W75 (Or.inr (slot_ne (Or.inr (own_wk hw 20 rfl)) (Or.inr (own_wk hw 15 rfl)) (by decide) (t := (.array .double)) (t' := (.array .int)) (by decide) (by decide)))
  have x79 := x67.other W75 (Or.inr (slot_ne (Or.inl (own_wk hw 29 rfl)) (Or.inr (own_wk hw 15 rfl)) (by decide) (t := .int) (t' := (.array .int)) (by decide) (by decide)))
  have x80 := x68.other W75 (Or.inr (slot_ne (Or.inl (own_wk hw 36 rfl)) (Or.inr (own_wk hw 15 rfl)) (by decide) (t := .int) (t' := (.array .int)) (by decide) (by decide)))
  have x81 := x69.other W75 (Ne.symm ne11)
  have x82 := x70.other W75 (Or.inr (slot_ne (Or.inr (own_wk hw 11 rfl)) (Or.inr (own_wk hw 15 rfl)) (by decide) (t := (.array .int)) (t' := (.array .int)) (by decide) (by decide)))
  have x83 := x71.other W75 (Ne.symm ne34)
  have x84 := x72.other W75 (Or.inr (slot_ne (Or.inr (own_wk hw 13 rfl)) (Or.inr (own_wk hw 15 rfl)) (by decide) (t := (.array .int)) (t' := (.array .int)) (by decide) (by decide)))
  have x85 := V59.other W75 (Ne.symm ne60)
  have sz86 : n0 ≤ h75.size := Nat.le_trans sz73 (Keep.of_wr W75).1
  have kp87 : Keep h0 h75 [a0] := kp74.wr W75 (Or.inl (List.mem_of_getElem? (i := 0) rfl))
  have N75 := Fr.snoc X75 N47 ge_a0
  obtain ⟨T88, h88, X88, e88, W88, st88⟩ := putF X75 hx hZ hown (host := "") (Or.inl (own_wk hw 17 rfl)) Via.refl e75 x77 x76 (Or.inr ⟨(own_wk hw 18 rfl), rfl, hnm⟩) (own_wk hw 1 rfl) (ty := (.array .double)) (by decide) rfl rfl (g := (mkF m 39 #[.val (.ref a0), .val (.int 2), .val (.int 2), .val (.int 0)] [.null, (.ref a0)])) rfl rfl (hb hby d1_39)
  have Fw88 := x77.same W88
  have x89 := x76.wr W88
  have x90 := x78.other W88 (Or.inr (slot_ne (Or.inr (own_wk hw 20 rfl)) (Or.inr (own_wk hw 18 rfl)) (by decide) (t := (.array .double)) (t' := (.array .double)) (by decide) (by decide)))
  have x91 := x79.other W88 (Or.inr (slot_ne (Or.inl (own_wk hw 29 rfl)) (Or.inr (own_wk hw 18 rfl)) (by decide) (t := .int) (t' := (.array .double)) (by decide) (by decide)))
  have x92 := x80.other W88 (Or.inr (slot_ne (Or.inl (own_wk hw 36 rfl)) (Or.inr (own_wk hw 18 rfl)) (by decide) (t := .int) (t' := (.array .double)) (by decide) (by decide)))
  have x93 := x81.other W88 (Ne.symm ne11)
  have x94 := x82.other W88 (Or.inr (slot_ne (Or.inr (own_wk hw 11 rfl)) (Or.inr (own_wk hw 18 rfl)) (by decide) (t := (.array .int)) (t' := (.array .double)) (by decide) (by decide)))
  have x95 := x83.other W88 (Ne.symm ne34)
  have x96 := x84.other W88 (Or.inr (slot_ne (Or.inr (own_wk hw 13 rfl)) (Or.inr (own_wk hw 18 rfl)) (by decide) (t := (.array .int)) (t' := (.array .double)) (by decide) (by decide)))
  have x97 := x85.other W88 (Ne.symm ne60)
  have x98 := Fw75.other W88 (Or.inr (slot_ne (Or.inr (own_wk hw 15 rfl)) (Or.inr (own_wk hw 18 rfl)) (by decide) (t := (.array .int)) (t' := (.array .double)) (by decide) (by decide)))
  have sz99 : n0 ≤ h88.size := Nat.le_trans sz86 (Keep.of_wr W88).1
  have kp100 : Keep h0 h88 [a0] := kp87.wr W88 (Or.inl (List.mem_of_getElem? (i := 0) rfl))
  have N88 := Fr.snoc X88 N75 ge_a0
  obtain ⟨T101, h101, k101, X101, e101, E101, A101, st101⟩ := newP X88 hx hZ (own_wk hw 16 rfl) e88 (g := (mkF m 44 #[.val (.ref a0), .val (.int 2), .val (.int 2), .val (.int 0)] [.int 2, (.ref a0)])) rfl (hb hby d1_44) rfl (by decide) (cap := 2) (by decide) (by decide) (by decide) (by decide)
  obtain ⟨b101, g101⟩ : ∃ z, z = h88.size := ⟨_, rfl⟩
  have ne102 : a0 ≠ b101 := Nat.ne_of_lt (Nat.lt_of_lt_of_le x89.lt (Nat.le_of_eq g101.symm))
  have ne103 : b10 ≠ b101 := Nat.ne_of_lt (Nat.lt_of_lt_of_le x93.lt (Nat.le_of_eq g101.symm))
  have ne104 : b33 ≠ b101 := Nat.ne_of_lt (Nat.lt_of_lt_of_le x95.lt (Nat.le_of_eq g101.symm))
  have ne105 : b59 ≠ b101 := Nat.ne_of_lt (Nat.lt_of_lt_of_le x97.lt (Nat.le_of_eq g101.symm))
  have ge_b101 : n0 ≤ b101 := Nat.le_trans sz99 (Nat.le_of_eq g101.symm)
  have gs_b101 : h0.size ≤ b101 := Nat.le_trans kp100.1 (Nat.le_of_eq g101.symm)
  rw [← g101] at A101 st101
  have x106 := x89.ext E101
  have x107 := x90.ext E101
  have x108 := x91.ext E101
  have x109 := x92.ext E101
  have x110 := x93.ext E101
  have x111 := x94.ext E101
  have x112 := x95.ext E101
  have x113 := x96.ext E101
  have x114 := x97.ext E101
  have x115 := x98.ext E101
  have x116 := Fw88.ext E101
  have sz117 : n0 ≤ h101.size := Nat.le_trans sz99 E101.1
  have kp118 : Keep h0 h101 [a0] := kp100.ext E101
  have V101 : Arv Z h101 b101 k101 .double (2 : Int32) [(.double (FP.l2d 0)), (.double (FP.l2d 0))] (.double (FP.l2d 0)) := (Arv.newD A101 (by decide)).pad (pad_rep [] (.double (FP.l2d 0)) 2)
  obtain ⟨T119, h119, X119, e119, W119, st119⟩ := putF X101 hx hZ hown (host := "") (Or.inl (own_wk hw 19 rfl)) Via.refl e101 x107 x106 (Or.inr ⟨(own_wk hw 20 rfl), rfl, hnm⟩) (own_wk hw 1 rfl) (ty := (.array .double)) (by decide) rfl rfl (g := (mkF m 46 #[.val (.ref a0), .val (.int 2), .val (.int 2), .val (.int 0)] [(.ref b101), (.ref a0)])) rfl rfl (hb hby d1_46)
  have Fw119 := x107.same W119
  have x120 := x106.wr W119
  have x121 := x108.other W119 (Or.inr (slot_ne (Or.inl (own_wk hw 29 rfl)) (Or.inr (own_wk hw 20 rfl)) (by decide) (t := .int) (t' := (.array .double)) (by decide) (by decide)))
  have x122 := x109.other W119 (Or.inr (slot_ne (Or.inl (own_wk hw 36 rfl)) (Or.inr (own_wk hw 20 rfl)) (by decide) (t := .int) (t' := (.array .double)) (by decide) (by decide)))
  have x123 := x110.other W119 (Ne.symm ne11)
  have x124 := x111.other W119 (Or.inr (slot_ne (Or.inr (own_wk hw 11 rfl)) (Or.inr (own_wk hw 20 rfl)) (by decide) (t := (.array .int)) (t' := (.array .double)) (by decide) (by decide)))
  have x125 := x112.other W119 (Ne.symm ne34)
  have x126 := x113.other W119 (Or.inr (slot_ne (Or.inr (own_wk hw 13 rfl)) (Or.inr (own_wk hw 20 rfl)) (by decide) (t := (.array .int)) (t' := (.array .double)) (by decide) (by decide)))
  have x127 := x114.other W119 (Ne.symm ne60)
  have x128 := x115.other W119 (Or.inr (slot_ne (Or.inr (own_wk hw 15 rfl)) (Or.inr (own_wk hw 20 rfl)) (by decide) (t := (.array .int)) (t' := (.array .double)) (by decide) (by decide)))
  have x129 := x116.other W119 (Or.inr (slot_ne (Or.inr (own_wk hw 18 rfl)) (Or.inr (own_wk hw 20 rfl)) (by decide) (t := (.array .double)) (t' := (.array .double)) (by decide) (by decide)))
  have x130 := V101.other W119 (Ne.symm ne102)
  have sz131 : n0 ≤ h119.size := Nat.le_trans sz117 (Keep.of_wr W119).1
  have kp132 : Keep h0 h119 [a0] := kp118.wr W119 (Or.inl (List.mem_of_getElem? (i := 0) rfl))
  have N119 := Fr.snoc X119 N88 ge_a0
  obtain ⟨fs, hr, hrun, hended, hW, hsame⟩ := X119.leave (v := none) (fun _ => rfl)
  refine ⟨_, _, pre0 _ ?_, hrun, hended, _, _, rfl, ?_, ⟨_, rfl⟩, hW, hsame.mono (by decide) (by decide)⟩
  · show own_S p e below s₁ (mkF m 0 #[.val (.ref a0), .val (.int 2), .val (.int 2), .val (.int 0)] []) _
    refine XS.aloadN X0.here hx rfl (hb hby d1_0) rfl rfl ?_
    show own_S p e below s₁ (mkF m 1 #[.val (.ref a0), .val (.int 2), .val (.int 2), .val (.int 0)] [(.ref a0)]) _
    refine st9 _ ?_
    show own_S p e below T9 (mkF m 4 #[.val (.ref a0), .val (.int 2), .val (.int 2), .val (.int 0)] []) _
    refine XS.aloadN X9.here hx rfl (hb hby d1_4) rfl rfl ?_
    show own_S p e below T9 (mkF m 5 #[.val (.ref a0), .val (.int 2), .val (.int 2), .val (.int 0)] [(.ref a0)]) _
    refine XS.iloadN X9.here hx rfl (hb hby d1_5) rfl ?_
    show own_S p e below T9 (mkF m 6 #[.val (.ref a0), .val (.int 2), .val (.int 2), .val (.int 0)] [.int 2, (.ref a0)]) _
    refine XS.iconst X9.here hx rfl (hb hby d1_6) ?_
    show own_S p e below T9 (mkF m 7 #[.val (.ref a0), .val (.int 2), .val (.int 2), .val (.int 0)] [.int 1, .int 2, (.ref a0)]) _
    refine XS.iadd X9.here hx rfl (hb hby d1_7) rfl ?_
    show own_S p e below T9 (mkF m 8 #[.val (.ref a0), .val (.int 2), .val (.int 2), .val (.int 0)] [(.int ((2 : Int32) + (1 : Int32))), (.ref a0)]) _
    rw [show ((2 : Int32) + (1 : Int32)) = (3 : Int32) from by decide]
    show own_S p e below T9 (mkF m 8 #[.val (.ref a0), .val (.int 2), .val (.int 2), .val (.int 0)] [.int 3, (.ref a0)]) _
    refine st10 _ ?_
    show own_S p e below T10 (mkF m 10 #[.val (.ref a0), .val (.int 2), .val (.int 2), .val (.int 0)] [(.ref b10), (.ref a0)]) _
    refine st22 _ ?_
    show own_S p e below T22 (mkF m 13 #[.val (.ref a0), .val (.int 2), .val (.int 2), .val (.int 0)] []) _
    refine XS.aloadN X22.here hx rfl (hb hby d1_13) rfl rfl ?_
    show own_S p e below T22 (mkF m 14 #[.val (.ref a0), .val (.int 2), .val (.int 2), .val (.int 0)] [(.ref a0)]) _
    refine XS.iloadN X22.here hx rfl (hb hby d1_14) rfl ?_
    show own_S p e below T22 (mkF m 15 #[.val (.ref a0), .val (.int 2), .val (.int 2), .val (.int 0)] [.int 2, (.ref a0)]) _
    refine st33 _ ?_
    show own_S p e below T33 (mkF m 17 #[.val (.ref a0), .val (.int 2), .val (.int 2), .val (.int 0)] [(.ref b33), (.ref a0)]) _
    refine st47 _ ?_
    show own_S p e below T47 (mkF m 20 #[.val (.ref a0), .val (.int 2), .val (.int 2), .val (.int 0)] []) _
    refine XS.aloadN X47.here hx rfl (hb hby d1_20) rfl rfl ?_
    show own_S p e below T47 (mkF m 21 #[.val (.ref a0), .val (.int 2), .val (.int 2), .val (.int 0)] [(.ref a0)]) _
    refine XS.iloadN X47.here hx rfl (hb hby d1_21) rfl ?_
    show own_S p e below T47 (mkF m 22 #[.val (.ref a0), .val (.int 2), .val (.int 2), .val (.int 0)] [.int 2, (.ref a0)]) _
    refine st59 _ ?_
    show own_S p e below T59 (mkF m 24 #[.val (.ref a0), .val (.int 2), .val (.int 2), .val (.int 0)] [(.ref b59), (.ref a0)]) _
    refine st75 _ ?_
    show own_S p e below T75 (mkF m 27 #[.val (.ref a0), .val (.int 2), .val (.int 2), .val (.int 0)] []) _
    refine XS.aloadN X75.here hx rfl (hb hby d1_27) rfl rfl ?_
    show own_S p e below T75 (mkF m 28 #[.val (.ref a0), .val (.int 2), .val (.int 2), .val (.int 0)] [(.ref a0)]) _
    refine XS.iloadN X75.here hx rfl (hb hby d1_28) rfl ?_
    show own_S p e below T75 (mkF m 29 #[.val (.ref a0), .val (.int 2), .val (.int 2), .val (.int 0)] [.int 0, (.ref a0)]) _
    refine XS.ifYes X75.here hx rfl (pc0 := 29) (pc' := 38) rfl (hb hby d1_29) rfl ((if0 _ _).trans (teq (by decide : (0 : Int32) = (0 : Int32))).1) (by decide) (by decide) ?_
    show own_S p e below T75 (mkF m 38 #[.val (.ref a0), .val (.int 2), .val (.int 2), .val (.int 0)] [(.ref a0)]) _
    refine XS.aconstNull X75.here hx rfl (hb hby d1_38) ?_
    show own_S p e below T75 (mkF m 39 #[.val (.ref a0), .val (.int 2), .val (.int 2), .val (.int 0)] [.null, (.ref a0)]) _
    refine st88 _ ?_
    show own_S p e below T88 (mkF m 42 #[.val (.ref a0), .val (.int 2), .val (.int 2), .val (.int 0)] []) _
    refine XS.aloadN X88.here hx rfl (hb hby d1_42) rfl rfl ?_
    show own_S p e below T88 (mkF m 43 #[.val (.ref a0), .val (.int 2), .val (.int 2), .val (.int 0)] [(.ref a0)]) _
    refine XS.iloadN X88.here hx rfl (hb hby d1_43) rfl ?_
    show own_S p e below T88 (mkF m 44 #[.val (.ref a0), .val (.int 2), .val (.int 2), .val (.int 0)] [.int 2, (.ref a0)]) _
    refine st101 _ ?_
    show own_S p e below T101 (mkF m 46 #[.val (.ref a0), .val (.int 2), .val (.int 2), .val (.int 0)] [(.ref b101), (.ref a0)]) _
    refine st119 _ ?_
    show own_S p e below T119 (mkF m 49 #[.val (.ref a0), .val (.int 2), .val (.int 2), .val (.int 0)] []) _
    exact X119.returnOut hx Bd.returns (hb hby d1_49) hr
  · show Q1_0 Z a0 h0 n0 _ T119.heap _
    rw [e119]
    exact ⟨b10, b33, b59, b101, k10, k33, k59, k101, rfl, N119, kp132, gs_b10, gs_b33, gs_b59, gs_b101, ne35, ne61, ne103, ne62, ne104, ne105, x120, x124, x126, x128, Fw119, x129, x121, x122, x123, x125, x127, x130⟩
theorem ef_1_v221 (m : MethodId) (a0 : Addr) : entryFrame m #[(.ref a0), (.int (2 : Int32)), (.int (2 : Int32)), (.int (1 : Int32))] 4 = mkF m 0 #[.val (.ref a0), .val (.int 2), .val (.int 2), .val (.int 1)] [] := by first | (simp [entryFrame, mkF, argsToLocals, Value.category]; done) | rfl
theorem d1_32 : decode prog_10_method_1_code 32 = .ok (.iload_n 2, 1) := by decide +kernel
theorem d1_33 : decode prog_10_method_1_code 33 = .ok (.newarray .double, 2) := by decide +kernel
theorem d1_35 : decode prog_10_method_1_code 35 = .ok (.goto 4, 3) := by decide +kernel
def Q1_1 (Z : State) (a0 : Addr) (h0 : Heap) (n0 : Nat) (v : Option Value) (h : Heap) (L : List Loc) : Prop := ∃ (u0 u1 u2 u3 u4 : Addr) (ku0 ku1 ku2 ku3 ku4 : ClassId), v = none ∧ Fr n0 L ∧ Keep h0 h [a0] ∧ h0.size ≤ u0 ∧ h0.size ≤ u1 ∧ h0.size ≤ u2 ∧ h0.size ≤ u3 ∧ h0.size ≤ u4 ∧ u0 ≠ u1 ∧ u0 ≠ u2 ∧ u0 ≠ u3 ∧ u0 ≠ u4 ∧ u1 ≠ u2 ∧ u1 ≠ u3 ∧ u1 ≠ u4 ∧ u2 ≠ u3 ∧ u2 ≠ u4 ∧ u3 ≠ u4 ∧ Exa Z h a0 "com/example/rank60/rank60/FusedList$Explanations" ∧ Fld Z h a0 "com/example/rank60/rank60/FusedList$Explanations" "starts" "[I" (.ref u0) ∧ Fld Z h a0 "com/example/rank60/rank60/FusedList$Explanations" "inputs" "[I" (.ref u1) ∧ Fld Z h a0 "com/example/rank60/rank60/FusedList$Explanations" "ranks" "[I" (.ref u2) ∧ Fld Z h a0 "com/example/rank60/rank60/FusedList$Explanations" "scores" "[D" (.ref u3) ∧ Fld Z h a0 "com/example/rank60/rank60/FusedList$Explanations" "values" "[D" (.ref u4) ∧ Fld Z h a0 "com/example/rank60/rank60/FusedList$Explanations" "count" "I" (.int (0 : Int32)) ∧ Fld Z h a0 "com/example/rank60/rank60/FusedList$Explanations" "documents" "I" (.int (0 : Int32)) ∧ Arv Z h u0 ku0 .int (3 : Int32) [(.int (0 : Int32)), (.int (0 : Int32)), (.int (0 : Int32))] (.int (0 : Int32)) ∧ Arv Z h u1 ku1 .int (2 : Int32) [(.int (0 : Int32)), (.int (0 : Int32))] (.int (0 : Int32)) ∧ Arv Z h u2 ku2 .int (2 : Int32) [(.int (0 : Int32)), (.int (0 : Int32))] (.int (0 : Int32)) ∧ Arv Z h u3 ku3 .double (2 : Int32) [(.double (FP.l2d 0)), (.double (FP.l2d 0))] (.double (FP.l2d 0)) ∧ Arv Z h u4 ku4 .double (2 : Int32) [(.double (FP.l2d 0)), (.double (FP.l2d 0))] (.double (FP.l2d 0))
set_option maxRecDepth 65536 in
set_option maxHeartbeats 40000000 in
theorem rm1_1 (l : Launch) (Z : State) (ag : Array Value) (hw : ∀ d ∈ tables_1, d.before ag Z = true) (ws : List Jvm.Cond) (a0 : Addr) (h0 : Heap) (n0 : Nat) (Z0 : n0 ≤ h0.size) (E_a0 : Exa Z h0 a0 "com/example/rank60/rank60/FusedList$Explanations") (ge_a0 : n0 ≤ a0) (F_starts_a0 : Fld Z h0 a0 "com/example/rank60/rank60/FusedList$Explanations" "starts" "[I" .null) (F_inputs_a0 : Fld Z h0 a0 "com/example/rank60/rank60/FusedList$Explanations" "inputs" "[I" .null) (F_ranks_a0 : Fld Z h0 a0 "com/example/rank60/rank60/FusedList$Explanations" "ranks" "[I" .null) (F_scores_a0 : Fld Z h0 a0 "com/example/rank60/rank60/FusedList$Explanations" "scores" "[D" .null) (F_values_a0 : Fld Z h0 a0 "com/example/rank60/rank60/FusedList$Explanations" "values" "[D" .null) (F_count_a0 : Fld Z h0 a0 "com/example/rank60/rank60/FusedList$Explanations" "count" "I" (.int (0 : Int32))) (F_documents_a0 : Fld Z h0 a0 "com/example/rank60/rank60/FusedList$Explanations" "documents" "I" (.int (0 : Int32))) :
    MetFree l (⟨"com/example/rank60/rank60/FusedList$Explanations", "<init>", "(IIZ)V"⟩ : MethodName) (head1 (Jvm.Cond.code (⟨"com/example/rank60/rank60/FusedList$Explanations", "<init>", "(IIZ)V"⟩ : MethodName) prog_10_method_1_code 4 none :: ws) ({ frames := 1, cells := 5, slots := 11, locals := 12 } : Room)) (fun a U => a = #[(.ref a0), (.int (2 : Int32)), (.int (2 : Int32)), (.int (1 : Int32))] ∧ Z.Warmed39 U.vm ∧ U.heap = h0) (fun _ _ _ _ _ => True) (fun _ U o U' => ∃ v L, o = .returned v ∧ Q1_1 Z a0 h0 n0 v U'.heap L ∧ FrameEnd U o U' L ({ frames := 1, cells := 5, slots := 11, locals := 12 } : Room).cells ({ frames := 1, cells := 5, slots := 11, locals := 12 } : Room).slots) := by
  refine MetFree.of_bodySF (plainFor_of_name pn_3) hisR ?_
  intro p e s m args below meth c s₁ Bd hml0 hP hK
  obtain ⟨rfl, hZ, hh⟩ := hP
  have hx := Bd.exec
  have hby := Bd.bytes
  have hml : c.maxLocals = 4 := hml0
  have hown : s.vm.findClass "com/example/rank60/rank60/FusedList$Explanations" = some m.cls := findClass_of_methodNamed Bd.named
  have hnm := (name_of_methodNamed Bd.named Bd.method).1
  have X0 : Stand p l e ({ frames := 1, cells := 5, slots := 11, locals := 12 } : Room) s m #[(.ref a0), (.int (2 : Int32)), (.int (2 : Int32)), (.int (1 : Int32))] below meth c s₁ [] 0 0 := Stand.of_body Bd
  have e0 : s₁.heap = h0 := by rw [← hh, Bd.state]; rfl
  have N0 := Fr.nil n0
  have pre0 : ∀ t, Steps p.tables e below (s₁.setTop (mkF m 0 #[.val (.ref a0), .val (.int 2), .val (.int 2), .val (.int 1)] [])) t → Steps p.tables e below (s₁.setTop (entryFrame m #[(.ref a0), (.int (2 : Int32)), (.int (2 : Int32)), (.int (1 : Int32))] 4)) t := fun t k => castTop (ef_1_v221 m a0) k
  obtain ⟨T133, X133, e133, st133⟩ := initO X0 hx hZ hown (own_wk hw 6 rfl) (own_wk hw 7 rfl) (own_wk hw 8 rfl) e0 (g := (mkF m 1 #[.val (.ref a0), .val (.int 2), .val (.int 2), .val (.int 1)] [(.ref a0)])) rfl (by rw [hml]; rfl) rfl (hb hby d1_1) (by decide) (W := 0) (by show 2 * 0 + _ ≤ _; exact Nat.le_of_eq rfl) (by decide)
  obtain ⟨T134, h134, k134, X134, e134, E134, A134, st134⟩ := newP X133 hx hZ (own_wk hw 9 rfl) e133 (g := (mkF m 8 #[.val (.ref a0), .val (.int 2), .val (.int 2), .val (.int 1)] [.int 3, (.ref a0)])) rfl (hb hby d1_8) rfl (by decide) (cap := 3) (by decide) (by decide) (by decide) (by decide)
  obtain ⟨b134, g134⟩ : ∃ z, z = h0.size := ⟨_, rfl⟩
  have ne135 : a0 ≠ b134 := Nat.ne_of_lt (Nat.lt_of_lt_of_le E_a0.lt (Nat.le_of_eq g134.symm))
  have ge_b134 : n0 ≤ b134 := Nat.le_trans Z0 (Nat.le_of_eq g134.symm)
  have gs_b134 : h0.size ≤ b134 := Nat.le_trans (Keep.refl h0 [a0]).1 (Nat.le_of_eq g134.symm)
  rw [← g134] at A134 st134
  have x136 := E_a0.ext E134
  have x137 := F_starts_a0.ext E134
  have x138 := F_inputs_a0.ext E134
  have x139 := F_ranks_a0.ext E134
  have x140 := F_scores_a0.ext E134
  have x141 := F_values_a0.ext E134
  have x142 := F_count_a0.ext E134
  have x143 := F_documents_a0.ext E134
  have sz144 : n0 ≤ h134.size := Nat.le_trans Z0 E134.1
  have kp145 : Keep h0 h134 [a0] := (Keep.refl h0 [a0]).ext E134
  have V134 : Arv Z h134 b134 k134 .int (3 : Int32) [(.int (0 : Int32)), (.int (0 : Int32)), (.int (0 : Int32))] (.int (0 : Int32)) := (Arv.new A134 (by decide)).pad (pad_rep [] (.int (0 : Int32)) 3)
  obtain ⟨T146, h146, X146, e146, W146, st146⟩ := putF X134 hx hZ hown (host := "") (Or.inl (own_wk hw 10 rfl)) Via.refl e134 x137 x136 (Or.inr ⟨(own_wk hw 11 rfl), rfl, hnm⟩) (own_wk hw 1 rfl) (ty := (.array .int)) (by decide) rfl rfl (g := (mkF m 10 #[.val (.ref a0), .val (.int 2), .val (.int 2), .val (.int 1)] [(.ref b134), (.ref a0)])) rfl rfl (hb hby d1_10)
  have Fw146 := x137.same W146
  have x147 := x136.wr W146
  have x148 := x138.other W146 (Or.inr (slot_ne (Or.inr (own_wk hw 13 rfl)) (Or.inr (own_wk hw 11 rfl)) (by decide) (t := (.array .int)) (t' := (.array .int)) (by decide) (by decide)))
  have x149 := x139.other W146 (Or.inr (slot_ne (Or.inr (own_wk hw 15 rfl)) (Or.inr (own_wk hw 11 rfl)) (by decide) (t := (.array .int)) (t' := (.array .int)) (by decide) (by decide)))
  have x150 := x140.other W146 (Or.inr (slot_ne (Or.inr (own_wk hw 18 rfl)) (Or.inr (own_wk hw 11 rfl)) (by decide) (t := (.array .double)) (t' := (.array .int)) (by decide) (by decide)))
  have x151 := x141.other W146 (Or.inr (slot_ne (Or.inr (own_wk hw 20 rfl)) (Or.inr (own_wk hw 11 rfl)) (by decide) (t := (.array .double)) (t' := (.array .int)) (by decide) (by decide)))
  have x152 := x142.other W146 (Or.inr (slot_ne (Or.inl (own_wk hw 29 rfl)) (Or.inr (own_wk hw 11 rfl)) (by decide) (t := .int) (t' := (.array .int)) (by decide) (by decide)))
  have x153 := x143.other W146 (Or.inr (slot_ne (Or.inl (own_wk hw 36 rfl)) (Or.inr (own_wk hw 11 rfl)) (by decide) (t := .int) (t' := (.array .int)) (by decide) (by decide)))
  have x154 := V134.other W146 (Ne.symm ne135)
  have sz155 : n0 ≤ h146.size := Nat.le_trans sz144 (Keep.of_wr W146).1
  have kp156 : Keep h0 h146 [a0] := kp145.wr W146 (Or.inl (List.mem_of_getElem? (i := 0) rfl))
  have N146 := Fr.snoc X146 N0 ge_a0
  obtain ⟨T157, h157, k157, X157, e157, E157, A157, st157⟩ := newP X146 hx hZ (own_wk hw 9 rfl) e146 (g := (mkF m 15 #[.val (.ref a0), .val (.int 2), .val (.int 2), .val (.int 1)] [.int 2, (.ref a0)])) rfl (hb hby d1_15) rfl (by decide) (cap := 2) (by decide) (by decide) (by decide) (by decide)
  obtain ⟨b157, g157⟩ : ∃ z, z = h146.size := ⟨_, rfl⟩
  have ne158 : a0 ≠ b157 := Nat.ne_of_lt (Nat.lt_of_lt_of_le x147.lt (Nat.le_of_eq g157.symm))
  have ne159 : b134 ≠ b157 := Nat.ne_of_lt (Nat.lt_of_lt_of_le x154.lt (Nat.le_of_eq g157.symm))
  have ge_b157 : n0 ≤ b157 := Nat.le_trans sz155 (Nat.le_of_eq g157.symm)
  have gs_b157 : h0.size ≤ b157 := Nat.le_trans kp156.1 (Nat.le_of_eq g157.symm)
  rw [← g157] at A157 st157
  have x160 := x147.ext E157
  have x161 := x148.ext E157
  have x162 := x149.ext E157
  have x163 := x150.ext E157
  have x164 := x151.ext E157
  have x165 := x152.ext E157
  have x166 := x153.ext E157
  have x167 := x154.ext E157
  have x168 := Fw146.ext E157
  have sz169 : n0 ≤ h157.size := Nat.le_trans sz155 E157.1
  have kp170 : Keep h0 h157 [a0] := kp156.ext E157
  have V157 : Arv Z h157 b157 k157 .int (2 : Int32) [(.int (0 : Int32)), (.int (0 : Int32))] (.int (0 : Int32)) := (Arv.new A157 (by decide)).pad (pad_rep [] (.int (0 : Int32)) 2)
  obtain ⟨T171, h171, X171, e171, W171, st171⟩ := putF X157 hx hZ hown (host := "") (Or.inl (own_wk hw 12 rfl)) Via.refl e157 x161 x160 (Or.inr ⟨(own_wk hw 13 rfl), rfl, hnm⟩) (own_wk hw 1 rfl) (ty := (.array .int)) (by decide) rfl rfl (g := (mkF m 17 #[.val (.ref a0), .val (.int 2), .val (.int 2), .val (.int 1)] [(.ref b157), (.ref a0)])) rfl rfl (hb hby d1_17)
  have Fw171 := x161.same W171
  have x172 := x160.wr W171
  have x173 := x162.other W171 (Or.inr (slot_ne (Or.inr (own_wk hw 15 rfl)) (Or.inr (own_wk hw 13 rfl)) (by decide) (t := (.array .int)) (t' := (.array .int)) (by decide) (by decide)))
  have x174 := x163.other W171 (Or.inr (slot_ne (Or.inr (own_wk hw 18 rfl)) (Or.inr (own_wk hw 13 rfl)) (by decide) (t := (.array .double)) (t' := (.array .int)) (by decide) (by decide)))
  have x175 := x164.other W171 (Or.inr (slot_ne (Or.inr (own_wk hw 20 rfl)) (Or.inr (own_wk hw 13 rfl)) (by decide) (t := (.array .double)) (t' := (.array .int)) (by decide) (by decide)))
  have x176 := x165.other W171 (Or.inr (slot_ne (Or.inl (own_wk hw 29 rfl)) (Or.inr (own_wk hw 13 rfl)) (by decide) (t := .int) (t' := (.array .int)) (by decide) (by decide)))
  have x177 := x166.other W171 (Or.inr (slot_ne (Or.inl (own_wk hw 36 rfl)) (Or.inr (own_wk hw 13 rfl)) (by decide) (t := .int) (t' := (.array .int)) (by decide) (by decide)))
  have x178 := x167.other W171 (Ne.symm ne135)
  have x179 := x168.other W171 (Or.inr (slot_ne (Or.inr (own_wk hw 11 rfl)) (Or.inr (own_wk hw 13 rfl)) (by decide) (t := (.array .int)) (t' := (.array .int)) (by decide) (by decide)))
  have x180 := V157.other W171 (Ne.symm ne158)
  have sz181 : n0 ≤ h171.size := Nat.le_trans sz169 (Keep.of_wr W171).1
  have kp182 : Keep h0 h171 [a0] := kp170.wr W171 (Or.inl (List.mem_of_getElem? (i := 0) rfl))
  have N171 := Fr.snoc X171 N146 ge_a0
  obtain ⟨T183, h183, k183, X183, e183, E183, A183, st183⟩ := newP X171 hx hZ (own_wk hw 9 rfl) e171 (g := (mkF m 22 #[.val (.ref a0), .val (.int 2), .val (.int 2), .val (.int 1)] [.int 2, (.ref a0)])) rfl (hb hby d1_22) rfl (by decide) (cap := 2) (by decide) (by decide) (by decide) (by decide)
  obtain ⟨b183, g183⟩ : ∃ z, z = h171.size := ⟨_, rfl⟩
  have ne184 : a0 ≠ b183 := Nat.ne_of_lt (Nat.lt_of_lt_of_le x172.lt (Nat.le_of_eq g183.symm))
  have ne185 : b134 ≠ b183 := Nat.ne_of_lt (Nat.lt_of_lt_of_le x178.lt (Nat.le_of_eq g183.symm))
  have ne186 : b157 ≠ b183 := Nat.ne_of_lt (Nat.lt_of_lt_of_le x180.lt (Nat.le_of_eq g183.symm))
  have ge_b183 : n0 ≤ b183 := Nat.le_trans sz181 (Nat.le_of_eq g183.symm)
  have gs_b183 : h0.size ≤ b183 := Nat.le_trans kp182.1 (Nat.le_of_eq g183.symm)
  rw [← g183] at A183 st183
  have x187 := x172.ext E183
  have x188 := x173.ext E183
  have x189 := x174.ext E183
  have x190 := x175.ext E183
  have x191 := x176.ext E183
  have x192 := x177.ext E183
  have x193 := x178.ext E183
  have x194 := x179.ext E183
  have x195 := x180.ext E183
  have x196 := Fw171.ext E183
  have sz197 : n0 ≤ h183.size := Nat.le_trans sz181 E183.1
  have kp198 : Keep h0 h183 [a0] := kp182.ext E183
  have V183 : Arv Z h183 b183 k183 .int (2 : Int32) [(.int (0 : Int32)), (.int (0 : Int32))] (.int (0 : Int32)) := (Arv.new A183 (by decide)).pad (pad_rep [] (.int (0 : Int32)) 2)
  obtain ⟨T199, h199, X199, e199, W199, st199⟩ := putF X183 hx hZ hown (host := "") (Or.inl (own_wk hw 14 rfl)) Via.refl e183 x188 x187 (Or.inr ⟨(own_wk hw 15 rfl), rfl, hnm⟩) (own_wk hw 1 rfl) (ty := (.array .int)) (by decide) rfl rfl (g := (mkF m 24 #[.val (.ref a0), .val (.int 2), .val (.int 2), .val (.int 1)] [(.ref b183), (.ref a0)])) rfl rfl (hb hby d1_24)
  have Fw199 := x188.same W199
  have x200 := x187.wr W199
  have x201 := x189.other W199 (Or.inr (slot_ne (Or.inr (own_wk hw 18 rfl)) (Or.inr (own_wk hw 15 rfl)) (by decide) (t := (.array .double)) (t' := (.array .int)) (by decide) (by decide)))
  have x202 := x190.other W199 (Or.inr (slot_ne (Or.inr (own_wk hw 20 rfl)) (Or.inr (own_wk hw 15 rfl)) (by decide) (t := (.array .double)) (t' := (.array .int)) (by decide) (by decide)))
  have x203 := x191.other W199 (Or.inr (slot_ne (Or.inl (own_wk hw 29 rfl)) (Or.inr (own_wk hw 15 rfl)) (by decide) (t := .int) (t' := (.array .int)) (by decide) (by decide)))
  have x204 := x192.other W199 (Or.inr (slot_ne (Or.inl (own_wk hw 36 rfl)) (Or.inr (own_wk hw 15 rfl)) (by decide) (t := .int) (t' := (.array .int)) (by decide) (by decide)))
  have x205 := x193.other W199 (Ne.symm ne135)
  have x206 := x194.other W199 (Or.inr (slot_ne (Or.inr (own_wk hw 11 rfl)) (Or.inr (own_wk hw 15 rfl)) (by decide) (t := (.array .int)) (t' := (.array .int)) (by decide) (by decide)))
  have x207 := x195.other W199 (Ne.symm ne158)
  have x208 := x196.other W199 (Or.inr (slot_ne (Or.inr (own_wk hw 13 rfl)) (Or.inr (own_wk hw 15 rfl)) (by decide) (t := (.array .int)) (t' := (.array .int)) (by decide) (by decide)))
  have x209 := V183.other W199 (Ne.symm ne184)
  have sz210 : n0 ≤ h199.size := Nat.le_trans sz197 (Keep.of_wr W199).1
  have kp211 : Keep h0 h199 [a0] := kp198.wr W199 (Or.inl (List.mem_of_getElem? (i := 0) rfl))
  have N199 := Fr.snoc X199 N171 ge_a0
  obtain ⟨T212, h212, k212, X212, e212, E212, A212, st212⟩ := newP X199 hx hZ (own_wk hw 16 rfl) e199 (g := (mkF m 33 #[.val (.ref a0), .val (.int 2), .val (.int 2), .val (.int 1)] [.int 2, (.ref a0)])) rfl (hb hby d1_33) rfl (by decide) (cap := 2) (by decide) (by decide) (by decide) (by decide)
  obtain ⟨b212, g212⟩ : ∃ z, z = h199.size := ⟨_, rfl⟩
  have ne213 : a0 ≠ b212 := Nat.ne_of_lt (Nat.lt_of_lt_of_le x200.lt (Nat.le_of_eq g212.symm))
  have ne214 : b134 ≠ b212 := Nat.ne_of_lt (Nat.lt_of_lt_of_le x205.lt (Nat.le_of_eq g212.symm))
  have ne215 : b157 ≠ b212 := Nat.ne_of_lt (Nat.lt_of_lt_of_le x207.lt (Nat.le_of_eq g212.symm))
  have ne216 : b183 ≠ b212 := Nat.ne_of_lt (Nat.lt_of_lt_of_le x209.lt (Nat.le_of_eq g212.symm))
  have ge_b212 : n0 ≤ b212 := Nat.le_trans sz210 (Nat.le_of_eq g212.symm)
  have gs_b212 : h0.size ≤ b212 := Nat.le_trans kp211.1 (Nat.le_of_eq g212.symm)
  rw [← g212] at A212 st212
  have x217 := x200.ext E212
  have x218 := x201.ext E212
  have x219 := x202.ext E212
  have x220 := x203.ext E212
  have x221 := x204.ext E212
  have x222 := x205.ext E212
  have x223 := x206.ext E212
  have x224 := x207.ext E212
  have x225 := x208.ext E212
  have x226 := x209.ext E212
  have x227 := Fw199.ext E212
  have sz228 : n0 ≤ h212.size := Nat.le_trans sz210 E212.1
  have kp229 : Keep h0 h212 [a0] := kp211.ext E212
  have V212 : Arv Z h212 b212 k212 .double (2 : Int32) [(.double (FP.l2d 0)), (.double (FP.l2d 0))] (.double (FP.l2d 0)) := (Arv.newD A212 (by decide)).pad (pad_rep [] (.double (FP.l2d 0)) 2)
  obtain ⟨T230, h230, X230, e230, W230, st230⟩ := putF X212 hx hZ hown (host := "") (Or.inl (own_wk hw 17 rfl)) Via.refl e212 x218 x217 (Or.inr ⟨(own_wk hw 18 rfl), rfl, hnm⟩) (own_wk hw 1 rfl) (ty := (.array .double)) (by decide) rfl rfl (g := (mkF m 39 #[.val (.ref a0), .val (.int 2), .val (.int 2), .val (.int 1)] [(.ref b212), (.ref a0)])) rfl rfl (hb hby d1_39)
  have Fw230 := x218.same W230
  have x231 := x217.wr W230
  have x232 := x219.other W230 (Or.inr (slot_ne (Or.inr (own_wk hw 20 rfl)) (Or.inr (own_wk hw 18 rfl)) (by decide) (t := (.array .double)) (t' := (.array .double)) (by decide) (by decide)))
  have x233 := x220.other W230 (Or.inr (slot_ne (Or.inl (own_wk hw 29 rfl)) (Or.inr (own_wk hw 18 rfl)) (by decide) (t := .int) (t' := (.array .double)) (by decide) (by decide)))
  have x234 := x221.other W230 (Or.inr (slot_ne (Or.inl (own_wk hw 36 rfl)) (Or.inr (own_wk hw 18 rfl)) (by decide) (t := .int) (t' := (.array .double)) (by decide) (by decide)))
  have x235 := x222.other W230 (Ne.symm ne135)
  have x236 := x223.other W230 (Or.inr (slot_ne (Or.inr (own_wk hw 11 rfl)) (Or.inr (own_wk hw 18 rfl)) (by decide) (t := (.array .int)) (t' := (.array .double)) (by decide) (by decide)))
  have x237 := x224.other W230 (Ne.symm ne158)
  have x238 := x225.other W230 (Or.inr (slot_ne (Or.inr (own_wk hw 13 rfl)) (Or.inr (own_wk hw 18 rfl)) (by decide) (t := (.array .int)) (t' := (.array .double)) (by decide) (by decide)))
  have x239 := x226.other W230 (Ne.symm ne184)
  have x240 := x227.other W230 (Or.inr (slot_ne (Or.inr (own_wk hw 15 rfl)) (Or.inr (own_wk hw 18 rfl)) (by decide) (t := (.array .int)) (t' := (.array .double)) (by decide) (by decide)))
  have x241 := V212.other W230 (Ne.symm ne213)
  have sz242 : n0 ≤ h230.size := Nat.le_trans sz228 (Keep.of_wr W230).1
  have kp243 : Keep h0 h230 [a0] := kp229.wr W230 (Or.inl (List.mem_of_getElem? (i := 0) rfl))
  have N230 := Fr.snoc X230 N199 ge_a0
  obtain ⟨T244, h244, k244, X244, e244, E244, A244, st244⟩ := newP X230 hx hZ (own_wk hw 16 rfl) e230 (g := (mkF m 44 #[.val (.ref a0), .val (.int 2), .val (.int 2), .val (.int 1)] [.int 2, (.ref a0)])) rfl (hb hby d1_44) rfl (by decide) (cap := 2) (by decide) (by decide) (by decide) (by decide)
  obtain ⟨b244, g244⟩ : ∃ z, z = h230.size := ⟨_, rfl⟩
  have ne245 : a0 ≠ b244 := Nat.ne_of_lt (Nat.lt_of_lt_of_le x231.lt (Nat.le_of_eq g244.symm))
  have ne246 : b134 ≠ b244 := Nat.ne_of_lt (Nat.lt_of_lt_of_le x235.lt (Nat.le_of_eq g244.symm))
  have ne247 : b157 ≠ b244 := Nat.ne_of_lt (Nat.lt_of_lt_of_le x237.lt (Nat.le_of_eq g244.symm))
  have ne248 : b183 ≠ b244 := Nat.ne_of_lt (Nat.lt_of_lt_of_le x239.lt (Nat.le_of_eq g244.symm))
  have ne249 : b212 ≠ b244 := Nat.ne_of_lt (Nat.lt_of_lt_of_le x241.lt (Nat.le_of_eq g244.symm))
  have ge_b244 : n0 ≤ b244 := Nat.le_trans sz242 (Nat.le_of_eq g244.symm)
  have gs_b244 : h0.size ≤ b244 := Nat.le_trans kp243.1 (Nat.le_of_eq g244.symm)
  rw [← g244] at A244 st244
  have x250 := x231.ext E244
  have x251 := x232.ext E244
  have x252 := x233.ext E244
  have x253 := x234.ext E244
  have x254 := x235.ext E244
  have x255 := x236.ext E244
  have x256 := x237.ext E244
  have x257 := x238.ext E244
  have x258 := x239.ext E244
  have x259 := x240.ext E244
  have x260 := x241.ext E244
  have x261 := Fw230.ext E244
  have sz262 : n0 ≤ h244.size := Nat.le_trans sz242 E244.1
  have kp263 : Keep h0 h244 [a0] := kp243.ext E244
  have V244 : Arv Z h244 b244 k244 .double (2 : Int32) [(.double (FP.l2d 0)), (.double (FP.l2d 0))] (.double (FP.l2d 0)) := (Arv.newD A244 (by decide)).pad (pad_rep [] (.double (FP.l2d 0)) 2)
  obtain ⟨T264, h264, X264, e264, W264, st264⟩ := putF X244 hx hZ hown (host := "") (Or.inl (own_wk hw 19 rfl)) Via.refl e244 x251 x250 (Or.inr ⟨(own_wk hw 20 rfl), rfl, hnm⟩) (own_wk hw 1 rfl) (ty := (.array .double)) (by decide) rfl rfl (g := (mkF m 46 #[.val (.ref a0), .val (.int 2), .val (.int 2), .val (.int 1)] [(.ref b244), (.ref a0)])) rfl rfl (hb hby d1_46)
  have Fw264 := x251.same W264
  have x265 := x250.wr W264
  have x266 := x252.other W264 (Or.inr (slot_ne (Or.inl (own_wk hw 29 rfl)) (Or.inr (own_wk hw 20 rfl)) (by decide) (t := .int) (t' := (.array .double)) (by decide) (by decide)))
  have x267 := x253.other W264 (Or.inr (slot_ne (Or.inl (own_wk hw 36 rfl)) (Or.inr (own_wk hw 20 rfl)) (by decide) (t := .int) (t' := (.array .double)) (by decide) (by decide)))
  have x268 := x254.other W264 (Ne.symm ne135)
  have x269 := x255.other W264 (Or.inr (slot_ne (Or.inr (own_wk hw 11 rfl)) (Or.inr (own_wk hw 20 rfl)) (by decide) (t := (.array .int)) (t' := (.array .double)) (by decide) (by decide)))
  have x270 := x256.other W264 (Ne.symm ne158)
  have x271 := x257.other W264 (Or.inr (slot_ne (Or.inr (own_wk hw 13 rfl)) (Or.inr (own_wk hw 20 rfl)) (by decide) (t := (.array .int)) (t' := (.array .double)) (by decide) (by decide)))
  have x272 := x258.other W264 (Ne.symm ne184)
  have x273 := x259.other W264 (Or.inr (slot_ne (Or.inr (own_wk hw 15 rfl)) (Or.inr (own_wk hw 20 rfl)) (by decide) (t := (.array .int)) (t' := (.array .double)) (by decide) (by decide)))
  have x274 := x260.other W264 (Ne.symm ne213)
  have x275 := x261.other W264 (Or.inr (slot_ne (Or.inr (own_wk hw 18 rfl)) (Or.inr (own_wk hw 20 rfl)) (by decide) (t := (.array .double)) (t' := (.array .double)) (by decide) (by decide)))
  have x276 := V244.other W264 (Ne.symm ne245)
  have sz277 : n0 ≤ h264.size := Nat.le_trans sz262 (Keep.of_wr W264).1
  have kp278 : Keep h0 h264 [a0] := kp263.wr W264 (Or.inl (List.mem_of_getElem? (i := 0) rfl))
  have N264 := Fr.snoc X264 N230 ge_a0
  obtain ⟨fs, hr, hrun, hended, hW, hsame⟩ := X264.leave (v := none) (fun _ => rfl)
  refine ⟨_, _, pre0 _ ?_, hrun, hended, _, _, rfl, ?_, ⟨_, rfl⟩, hW, hsame.mono (by decide) (by decide)⟩
  · show own_S p e below s₁ (mkF m 0 #[.val (.ref a0), .val (.int 2), .val (.int 2), .val (.int 1)] []) _
    refine XS.aloadN X0.here hx rfl (hb hby d1_0) rfl rfl ?_
    show own_S p e below s₁ (mkF m 1 #[.val (.ref a0), .val (.int 2), .val (.int 2), .val (.int 1)] [(.ref a0)]) _
    refine st133 _ ?_
    show own_S p e below T133 (mkF m 4 #[.val (.ref a0), .val (.int 2), .val (.int 2), .val (.int 1)] []) _
    refine XS.aloadN X133.here hx rfl (hb hby d1_4) rfl rfl ?_
    show own_S p e below T133 (mkF m 5 #[.val (.ref a0), .val (.int 2), .val (.int 2), .val (.int 1)] [(.ref a0)]) _
    refine XS.iloadN X133.here hx rfl (hb hby d1_5) rfl ?_
    show own_S p e below T133 (mkF m 6 #[.val (.ref a0), .val (.int 2), .val (.int 2), .val (.int 1)] [.int 2, (.ref a0)]) _
    refine XS.iconst X133.here hx rfl (hb hby d1_6) ?_
    show own_S p e below T133 (mkF m 7 #[.val (.ref a0), .val (.int 2), .val (.int 2), .val (.int 1)] [.int 1, .int 2, (.ref a0)]) _
    refine XS.iadd X133.here hx rfl (hb hby d1_7) rfl ?_
    show own_S p e below T133 (mkF m 8 #[.val (.ref a0), .val (.int 2), .val (.int 2), .val (.int 1)] [(.int ((2 : Int32) + (1 : Int32))), (.ref a0)]) _
    rw [show ((2 : Int32) + (1 : Int32)) = (3 : Int32) from by decide]
    show own_S p e below T133 (mkF m 8 #[.val (.ref a0), .val (.int 2), .val (.int 2), .val (.int 1)] [.int 3, (.ref a0)]) _
    refine st134 _ ?_
    show own_S p e below T134 (mkF m 10 #[.val (.ref a0), .val (.int 2), .val (.int 2), .val (.int 1)] [(.ref b134), (.ref a0)]) _
    refine st146 _ ?_
    show own_S p e below T146 (mkF m 13 #[.val (.ref a0), .val (.int 2), .val (.int 2), .val (.int 1)] []) _
    refine XS.aloadN X146.here hx rfl (hb hby d1_13) rfl rfl ?_
    show own_S p e below T146 (mkF m 14 #[.val (.ref a0), .val (.int 2), .val (.int 2), .val (.int 1)] [(.ref a0)]) _
    refine XS.iloadN X146.here hx rfl (hb hby d1_14) rfl ?_
    show own_S p e below T146 (mkF m 15 #[.val (.ref a0), .val (.int 2), .val (.int 2), .val (.int 1)] [.int 2, (.ref a0)]) _
    refine st157 _ ?_
    show own_S p e below T157 (mkF m 17 #[.val (.ref a0), .val (.int 2), .val (.int 2), .val (.int 1)] [(.ref b157), (.ref a0)]) _
    refine st171 _ ?_
    show own_S p e below T171 (mkF m 20 #[.val (.ref a0), .val (.int 2), .val (.int 2), .val (.int 1)] []) _
    refine XS.aloadN X171.here hx rfl (hb hby d1_20) rfl rfl ?_
    show own_S p e below T171 (mkF m 21 #[.val (.ref a0), .val (.int 2), .val (.int 2), .val (.int 1)] [(.ref a0)]) _
    refine XS.iloadN X171.here hx rfl (hb hby d1_21) rfl ?_
    show own_S p e below T171 (mkF m 22 #[.val (.ref a0), .val (.int 2), .val (.int 2), .val (.int 1)] [.int 2, (.ref a0)]) _
    refine st183 _ ?_
    show own_S p e below T183 (mkF m 24 #[.val (.ref a0), .val (.int 2), .val (.int 2), .val (.int 1)] [(.ref b183), (.ref a0)]) _
    refine st199 _ ?_
    show own_S p e below T199 (mkF m 27 #[.val (.ref a0), .val (.int 2), .val (.int 2), .val (.int 1)] []) _
    refine XS.aloadN X199.here hx rfl (hb hby d1_27) rfl rfl ?_
    show own_S p e below T199 (mkF m 28 #[.val (.ref a0), .val (.int 2), .val (.int 2), .val (.int 1)] [(.ref a0)]) _
    refine XS.iloadN X199.here hx rfl (hb hby d1_28) rfl ?_
    show own_S p e below T199 (mkF m 29 #[.val (.ref a0), .val (.int 2), .val (.int 2), .val (.int 1)] [.int 1, (.ref a0)]) _
    refine XS.ifNo X199.here hx rfl (hb hby d1_29) rfl ((if0 _ _).trans (feq (by decide : ¬ ((1 : Int32) = (0 : Int32)))).1) ?_
    show own_S p e below T199 (mkF m 32 #[.val (.ref a0), .val (.int 2), .val (.int 2), .val (.int 1)] [(.ref a0)]) _
    refine XS.iloadN X199.here hx rfl (hb hby d1_32) rfl ?_
    show own_S p e below T199 (mkF m 33 #[.val (.ref a0), .val (.int 2), .val (.int 2), .val (.int 1)] [.int 2, (.ref a0)]) _
    refine st212 _ ?_
    show own_S p e below T212 (mkF m 35 #[.val (.ref a0), .val (.int 2), .val (.int 2), .val (.int 1)] [(.ref b212), (.ref a0)]) _
    refine XS.goto X212.here hx rfl (pc0 := 35) (pc' := 39) rfl (hb hby d1_35) (by decide) (by decide) ?_
    show own_S p e below T212 (mkF m 39 #[.val (.ref a0), .val (.int 2), .val (.int 2), .val (.int 1)] [(.ref b212), (.ref a0)]) _
    refine st230 _ ?_
    show own_S p e below T230 (mkF m 42 #[.val (.ref a0), .val (.int 2), .val (.int 2), .val (.int 1)] []) _
    refine XS.aloadN X230.here hx rfl (hb hby d1_42) rfl rfl ?_
    show own_S p e below T230 (mkF m 43 #[.val (.ref a0), .val (.int 2), .val (.int 2), .val (.int 1)] [(.ref a0)]) _
    refine XS.iloadN X230.here hx rfl (hb hby d1_43) rfl ?_
    show own_S p e below T230 (mkF m 44 #[.val (.ref a0), .val (.int 2), .val (.int 2), .val (.int 1)] [.int 2, (.ref a0)]) _
    refine st244 _ ?_
    show own_S p e below T244 (mkF m 46 #[.val (.ref a0), .val (.int 2), .val (.int 2), .val (.int 1)] [(.ref b244), (.ref a0)]) _
    refine st264 _ ?_
    show own_S p e below T264 (mkF m 49 #[.val (.ref a0), .val (.int 2), .val (.int 2), .val (.int 1)] []) _
    exact X264.returnOut hx Bd.returns (hb hby d1_49) hr
  · show Q1_1 Z a0 h0 n0 _ T264.heap _
    rw [e264]
    exact ⟨b134, b157, b183, b212, b244, k134, k157, k183, k212, k244, rfl, N264, kp278, gs_b134, gs_b157, gs_b183, gs_b212, gs_b244, ne159, ne185, ne214, ne246, ne186, ne215, ne247, ne216, ne248, ne249, x265, x269, x271, x273, x275, Fw264, x266, x267, x268, x270, x272, x274, x276⟩
theorem ef_3 (m : MethodId) (a0 : Addr) (p1 : Int32) (p2 : Int32) (r3 : UInt64) (r4 : UInt64) : entryFrame m #[(.ref a0), (.int p1), (.int p2), (.double r3), (.double r4)] 7 = mkF m 0 #[.val (.ref a0), .val (.int p1), .val (.int p2), .val (.double r3), .second, .val (.double r4), .second] [] := by first | (simp [entryFrame, mkF, argsToLocals, Value.category]; done) | rfl
abbrev own_loc1 (a0 : Addr) (p1 : Int32) (p2 : Int32) (r3 : UInt64) (r4 : UInt64) : Array Slot := #[.val (.ref a0), .val (.int p1), .val (.int p2), .val (.double r3), .second, .val (.double r4), .second]
theorem d3_0 : decode prog_10_method_2_code 0 = .ok (.aload_n 0, 1) := by decide +kernel
theorem d3_1 : decode prog_10_method_2_code 1 = .ok (.getfield 13, 3) := by decide +kernel
theorem d3_4 : decode prog_10_method_2_code 4 = .ok (.aload_n 0, 1) := by decide +kernel
theorem d3_5 : decode prog_10_method_2_code 5 = .ok (.getfield 26, 3) := by decide +kernel
theorem d3_8 : decode prog_10_method_2_code 8 = .ok (.iload_n 1, 1) := by decide +kernel
theorem d3_9 : decode prog_10_method_2_code 9 = .ok (.iastore, 1) := by decide +kernel
theorem d3_10 : decode prog_10_method_2_code 10 = .ok (.aload_n 0, 1) := by decide +kernel
theorem d3_11 : decode prog_10_method_2_code 11 = .ok (.getfield 16, 3) := by decide +kernel
theorem d3_14 : decode prog_10_method_2_code 14 = .ok (.aload_n 0, 1) := by decide +kernel
theorem d3_15 : decode prog_10_method_2_code 15 = .ok (.getfield 26, 3) := by decide +kernel
theorem d3_18 : decode prog_10_method_2_code 18 = .ok (.iload_n 2, 1) := by decide +kernel
theorem d3_19 : decode prog_10_method_2_code 19 = .ok (.iastore, 1) := by decide +kernel
theorem d3_20 : decode prog_10_method_2_code 20 = .ok (.aload_n 0, 1) := by decide +kernel
theorem d3_21 : decode prog_10_method_2_code 21 = .ok (.getfield 19, 3) := by decide +kernel
theorem d3_24 : decode prog_10_method_2_code 24 = .ok (.ifnull 13, 3) := by decide +kernel
theorem d3_37 : decode prog_10_method_2_code 37 = .ok (.aload_n 0, 1) := by decide +kernel
theorem d3_38 : decode prog_10_method_2_code 38 = .ok (.getfield 23, 3) := by decide +kernel
theorem d3_41 : decode prog_10_method_2_code 41 = .ok (.aload_n 0, 1) := by decide +kernel
theorem d3_42 : decode prog_10_method_2_code 42 = .ok (.getfield 26, 3) := by decide +kernel
theorem d3_45 : decode prog_10_method_2_code 45 = .ok (.dload 5, 2) := by decide +kernel
theorem d3_47 : decode prog_10_method_2_code 47 = .ok (.dastore, 1) := by decide +kernel
theorem d3_48 : decode prog_10_method_2_code 48 = .ok (.aload_n 0, 1) := by decide +kernel
theorem d3_49 : decode prog_10_method_2_code 49 = .ok (.dup, 1) := by decide +kernel
theorem d3_50 : decode prog_10_method_2_code 50 = .ok (.getfield 26, 3) := by decide +kernel
theorem d3_53 : decode prog_10_method_2_code 53 = .ok (.iconst 1, 1) := by decide +kernel
theorem d3_54 : decode prog_10_method_2_code 54 = .ok (.iadd, 1) := by decide +kernel
theorem d3_55 : decode prog_10_method_2_code 55 = .ok (.putfield 26, 3) := by decide +kernel
theorem d3_58 : decode prog_10_method_2_code 58 = .ok (.return_, 1) := by decide +kernel
def Q3_00 (Z : State) (a0 : Addr) (p1 : Int32) (p2 : Int32) (r3 : UInt64) (r4 : UInt64) (ai : Addr) (ak : Addr) (av : Addr) (dv : Int32) (az : Addr) (ki : ClassId) (xi0 : Int32) (xi1 : Int32) (kk : ClassId) (xk0 : Int32) (xk1 : Int32) (kv : ClassId) (xv0 : UInt64) (xv1 : UInt64) (h0 : Heap) (n0 : Nat) (v : Option Value) (h : Heap) (L : List Loc) : Prop := v = none ∧ Fr n0 L ∧ Keep h0 h [a0, ai, ak, av] ∧ Fld Z h a0 "com/example/rank60/rank60/FusedList$Explanations" "inputs" "[I" (.ref ai) ∧ Fld Z h a0 "com/example/rank60/rank60/FusedList$Explanations" "ranks" "[I" (.ref ak) ∧ Fld Z h a0 "com/example/rank60/rank60/FusedList$Explanations" "values" "[D" (.ref av) ∧ Fld Z h a0 "com/example/rank60/rank60/FusedList$Explanations" "scores" "[D" .null ∧ Fld Z h a0 "com/example/rank60/rank60/FusedList$Explanations" "documents" "I" (.int dv) ∧ Fld Z h a0 "com/example/rank60/rank60/FusedList$Explanations" "starts" "[I" (.ref az) ∧ Fld Z h a0 "com/example/rank60/rank60/FusedList$Explanations" "count" "I" (.int (1 : Int32)) ∧ Arv Z h ai ki .int (2 : Int32) [(.int p1), (.int xi1)] (.int (0 : Int32)) ∧ Arv Z h ak kk .int (2 : Int32) [(.int p2), (.int xk1)] (.int (0 : Int32)) ∧ Arv Z h av kv .double (2 : Int32) [(.double r4), (.double xv1)] (.double (FP.l2d 0))
set_option maxRecDepth 65536 in
set_option maxHeartbeats 40000000 in
theorem rm3_00 (l : Launch) (Z : State) (ag : Array Value) (hw : ∀ d ∈ tables_1, d.before ag Z = true) (ws : List Jvm.Cond) (a0 : Addr) (p1 : Int32) (p2 : Int32) (r3 : UInt64) (r4 : UInt64) (ai : Addr) (ak : Addr) (av : Addr) (dv : Int32) (az : Addr) (ki : ClassId) (xi0 : Int32) (xi1 : Int32) (kk : ClassId) (xk0 : Int32) (xk1 : Int32) (kv : ClassId) (xv0 : UInt64) (xv1 : UInt64) (h0 : Heap) (n0 : Nat) (Z0 : n0 ≤ h0.size) (E_a0 : Exa Z h0 a0 "com/example/rank60/rank60/FusedList$Explanations") (F_inputs_a0 : Fld Z h0 a0 "com/example/rank60/rank60/FusedList$Explanations" "inputs" "[I" (.ref ai)) (F_ranks_a0 : Fld Z h0 a0 "com/example/rank60/rank60/FusedList$Explanations" "ranks" "[I" (.ref ak)) (F_values_a0 : Fld Z h0 a0 "com/example/rank60/rank60/FusedList$Explanations" "values" "[D" (.ref av)) (F_scores_a0 : Fld Z h0 a0 "com/example/rank60/rank60/FusedList$Explanations" "scores" "[D" .null) (F_count_a0 : Fld Z h0 a0 "com/example/rank60/rank60/FusedList$Explanations" "count" "I" (.int (0 : Int32))) (F_documents_a0 : Fld Z h0 a0 "com/example/rank60/rank60/FusedList$Explanations" "documents" "I" (.int dv)) (F_starts_a0 : Fld Z h0 a0 "com/example/rank60/rank60/FusedList$Explanations" "starts" "[I" (.ref az)) (V_ai : Arv Z h0 ai ki .int (2 : Int32) [(.int xi0), (.int xi1)] (.int (0 : Int32))) (V_ak : Arv Z h0 ak kk .int (2 : Int32) [(.int xk0), (.int xk1)] (.int (0 : Int32))) (V_av : Arv Z h0 av kv .double (2 : Int32) [(.double xv0), (.double xv1)] (.double (FP.l2d 0))) (ge_a0 : n0 ≤ a0) (ge_ai : n0 ≤ ai) (ge_ak : n0 ≤ ak) (ge_av : n0 ≤ av) (ne_a0_ai : a0 ≠ ai) (ne_a0_ak : a0 ≠ ak) (ne_a0_av : a0 ≠ av) (ne_ai_ak : ai ≠ ak) (ne_ai_av : ai ≠ av) (ne_ak_av : ak ≠ av) :
    MetFree l (⟨"com/example/rank60/rank60/FusedList$Explanations", "add", "(IIDD)V"⟩ : MethodName) (head1 (Jvm.Cond.code (⟨"com/example/rank60/rank60/FusedList$Explanations", "add", "(IIDD)V"⟩ : MethodName) prog_10_method_2_code 7 none :: ws) ({ frames := 0, cells := 0, slots := 0, locals := 0 } : Room)) (fun a U => a = #[(.ref a0), (.int p1), (.int p2), (.double r3), (.double r4)] ∧ Z.Warmed39 U.vm ∧ U.heap = h0) (fun _ _ _ _ _ => True) (fun _ U o U' => ∃ v L, o = .returned v ∧ Q3_00 Z a0 p1 p2 r3 r4 ai ak av dv az ki xi0 xi1 kk xk0 xk1 kv xv0 xv1 h0 n0 v U'.heap L ∧ FrameEnd U o U' L ({ frames := 0, cells := 0, slots := 0, locals := 0 } : Room).cells ({ frames := 0, cells := 0, slots := 0, locals := 0 } : Room).slots) := by
  refine MetFree.of_bodySF (plainFor_of_name pn_3) hisR ?_
  intro p e s m args below meth c s₁ Bd hml0 hP hK
  obtain ⟨rfl, hZ, hh⟩ := hP
  have hx := Bd.exec
  have hby := Bd.bytes
  have hml : c.maxLocals = 7 := hml0
  have hown : s.vm.findClass "com/example/rank60/rank60/FusedList$Explanations" = some m.cls := findClass_of_methodNamed Bd.named
  have hnm := (name_of_methodNamed Bd.named Bd.method).1
  have X0 : Stand p l e ({ frames := 0, cells := 0, slots := 0, locals := 0 } : Room) s m #[(.ref a0), (.int p1), (.int p2), (.double r3), (.double r4)] below meth c s₁ [] 0 0 := Stand.of_body Bd
  have e0 : s₁.heap = h0 := by rw [← hh, Bd.state]; rfl
  have N0 := Fr.nil n0
  have pre0 : ∀ t, Steps p.tables e below (s₁.setTop (mkF m 0 #[.val (.ref a0), .val (.int p1), .val (.int p2), .val (.double r3), .second, .val (.double r4), .second] [])) t → Steps p.tables e below (s₁.setTop (entryFrame m #[(.ref a0), (.int p1), (.int p2), (.double r3), (.double r4)] 7)) t := fun t k => castTop (ef_3 m a0 p1 p2 r3 r4) k
  obtain ⟨T279, X279, e279, st279⟩ := getF X0 hx hZ hown (host := "") (Or.inl (own_wk hw 12 rfl)) Via.refl e0 F_inputs_a0 (g := (mkF m 1 (own_loc1 a0 p1 p2 r3 r4) [(.ref a0)])) rfl rfl (hb hby d3_1)
  obtain ⟨T280, X280, e280, st280⟩ := getF X279 hx hZ hown (host := "") (Or.inl (own_wk hw 28 rfl)) Via.refl e279 F_count_a0 (g := (mkF m 5 (own_loc1 a0 p1 p2 r3 r4) [(.ref a0), (.ref ai)])) rfl rfl (hb hby d3_5)
  obtain ⟨cl281, Ar281, q281, S281, M281, H281, G281⟩ := id V_ai
  have hin281 : ¬ ((0 : Int32) < 0 ∨ cl281.slots.size ≤ ((0 : Int32)).toNatClampNeg) := inb_of S281 ⟨(by decide : ¬ (0 : Int32) < 0), (by decide : (0 : Int32) < (2 : Int32))⟩
  obtain ⟨T281, h281, X281, e281, W281, st281⟩ := stI X280 hx hZ e280 Ar281 (j := (0 : Int32)) hin281 (g := (mkF m 9 (own_loc1 a0 p1 p2 r3 r4) [(.int p1), .int 0, (.ref ai)])) rfl rfl (hb hby d3_9)
  have V281 : Arv Z h281 ai ki .int (2 : Int32) [(.int p1), (.int xi1)] (.int (0 : Int32)) := Arv.set Ar281 q281 S281 M281 H281 G281 rfl W281 0 rfl (Nat.le_of_ble_eq_true rfl)
  have x282 := E_a0.wr W281
  have x283 := F_inputs_a0.other W281 (Or.inl ne_a0_ai)
  have x284 := F_ranks_a0.other W281 (Or.inl ne_a0_ai)
  have x285 := F_values_a0.other W281 (Or.inl ne_a0_ai)
  have x286 := F_scores_a0.other W281 (Or.inl ne_a0_ai)
  have x287 := F_count_a0.other W281 (Or.inl ne_a0_ai)
  have x288 := F_documents_a0.other W281 (Or.inl ne_a0_ai)
  have x289 := F_starts_a0.other W281 (Or.inl ne_a0_ai)
  have x290 := V_ak.other W281 (Ne.symm ne_ai_ak)
  have x291 := V_av.other W281 (Ne.symm ne_ai_av)
  have sz292 : n0 ≤ h281.size := Nat.le_trans Z0 (Keep.of_wr W281).1
  have kp293 : Keep h0 h281 [a0, ai, ak, av] := (Keep.refl h0 [a0, ai, ak, av]).wr W281 (Or.inl (List.mem_of_getElem? (i := 1) rfl))
  have N281 := Fr.snoc X281 N0 ge_ai
  obtain ⟨T294, X294, e294, st294⟩ := getF X281 hx hZ hown (host := "") (Or.inl (own_wk hw 14 rfl)) Via.refl e281 x284 (g := (mkF m 11 (own_loc1 a0 p1 p2 r3 r4) [(.ref a0)])) rfl rfl (hb hby d3_11)
  obtain ⟨T295, X295, e295, st295⟩ := getF X294 hx hZ hown (host := "") (Or.inl (own_wk hw 28 rfl)) Via.refl e294 x287 (g := (mkF m 15 (own_loc1 a0 p1 p2 r3 r4) [(.ref a0), (.ref ak)])) rfl rfl (hb hby d3_15)
  obtain ⟨cl296, Ar296, q296, S296, M296, H296, G296⟩ := id x290
  have hin296 : ¬ ((0 : Int32) < 0 ∨ cl296.slots.size ≤ ((0 : Int32)).toNatClampNeg) := inb_of S296 ⟨(by decide : ¬ (0 : Int32) < 0), (by decide : (0 : Int32) < (2 : Int32))⟩
  obtain ⟨T296, h296, X296, e296, W296, st296⟩ := stI X295 hx hZ e295 Ar296 (j := (0 : Int32)) hin296 (g := (mkF m 19 (own_loc1 a0 p1 p2 r3 r4) [(.int p2), .int 0, (.ref ak)])) rfl rfl (hb hby d3_19)
  have V296 : Arv Z h296 ak kk .int (2 : Int32) [(.int p2), (.int xk1)] (.int (0 : Int32)) := Arv.set Ar296 q296 S296 M296 H296 G296 rfl W296 0 rfl (Nat.le_of_ble_eq_true rfl)
  have x297 := x282.wr W296
  have x298 := x283.other W296 (Or.inl ne_a0_ak)
  have x299 := x284.other W296 (Or.inl ne_a0_ak)
  have x300 := x285.other W296 (Or.inl ne_a0_ak)
  have x301 := x286.other W296 (Or.inl ne_a0_ak)
  have x302 := x287.other W296 (Or.inl ne_a0_ak)
  have x303 := x288.other W296 (Or.inl ne_a0_ak)
  have x304 := x289.other W296 (Or.inl ne_a0_ak)
  have x305 := x291.other W296 (Ne.symm ne_ak_av)
  have x306 := V281.other W296 ne_ai_ak
  have sz307 : n0 ≤ h296.size := Nat.le_trans sz292 (Keep.of_wr W296).1
  have kp308 : Keep h0 h296 [a0, ai, ak, av] := kp293.wr W296 (Or.inl (List.mem_of_getElem? (i := 2) rfl))
  have N296 := Fr.snoc X296 N281 ge_ak
  obtain ⟨T309, X309, e309, st309⟩ := getF X296 hx hZ hown (host := "") (Or.inl (own_wk hw 17 rfl)) Via.refl e296 x301 (g := (mkF m 21 (own_loc1 a0 p1 p2 r3 r4) [(.ref a0)])) rfl rfl (hb hby d3_21)
  obtain ⟨T310, X310, e310, st310⟩ := getF X309 hx hZ hown (host := "") (Or.inl (own_wk hw 19 rfl)) Via.refl e309 x300 (g := (mkF m 38 (own_loc1 a0 p1 p2 r3 r4) [(.ref a0)])) rfl rfl (hb hby d3_38)
  obtain ⟨T311, X311, e311, st311⟩ := getF X310 hx hZ hown (host := "") (Or.inl (own_wk hw 28 rfl)) Via.refl e310 x302 (g := (mkF m 42 (own_loc1 a0 p1 p2 r3 r4) [(.ref a0), (.ref av)])) rfl rfl (hb hby d3_42)
  obtain ⟨cl312, Ar312, q312, S312, M312, H312, G312⟩ := id x305
  have hin312 : ¬ ((0 : Int32) < 0 ∨ cl312.slots.size ≤ ((0 : Int32)).toNatClampNeg) := inb_of S312 ⟨(by decide : ¬ (0 : Int32) < 0), (by decide : (0 : Int32) < (2 : Int32))⟩
  obtain ⟨T312, h312, X312, e312, W312, st312⟩ := stD X311 hx hZ e311 Ar312 (j := (0 : Int32)) hin312 (g := (mkF m 47 (own_loc1 a0 p1 p2 r3 r4) [(.double r4), .int 0, (.ref av)])) rfl rfl (hb hby d3_47)
  have V312 : Arv Z h312 av kv .double (2 : Int32) [(.double r4), (.double xv1)] (.double (FP.l2d 0)) := Arv.set Ar312 q312 S312 M312 H312 G312 rfl W312 0 rfl (Nat.le_of_ble_eq_true rfl)
  have x313 := x297.wr W312
  have x314 := x298.other W312 (Or.inl ne_a0_av)
  have x315 := x299.other W312 (Or.inl ne_a0_av)
  have x316 := x300.other W312 (Or.inl ne_a0_av)
  have x317 := x301.other W312 (Or.inl ne_a0_av)
  have x318 := x302.other W312 (Or.inl ne_a0_av)
  have x319 := x303.other W312 (Or.inl ne_a0_av)
  have x320 := x304.other W312 (Or.inl ne_a0_av)
  have x321 := x306.other W312 ne_ai_av
  have x322 := V296.other W312 ne_ak_av
  have sz323 : n0 ≤ h312.size := Nat.le_trans sz307 (Keep.of_wr W312).1
  have kp324 : Keep h0 h312 [a0, ai, ak, av] := kp308.wr W312 (Or.inl (List.mem_of_getElem? (i := 3) rfl))
  have N312 := Fr.snoc X312 N296 ge_av
  obtain ⟨T325, X325, e325, st325⟩ := getF X312 hx hZ hown (host := "") (Or.inl (own_wk hw 28 rfl)) Via.refl e312 x318 (g := (mkF m 50 (own_loc1 a0 p1 p2 r3 r4) [(.ref a0), (.ref a0)])) rfl rfl (hb hby d3_50)
  obtain ⟨T326, h326, X326, e326, W326, st326⟩ := putF X325 hx hZ hown (host := "") (Or.inl (own_wk hw 28 rfl)) Via.refl e325 x318 x313 (Or.inl (own_wk hw 29 rfl)) (own_wk hw 1 rfl) (ty := .int) (by decide) rfl rfl (g := (mkF m 55 (own_loc1 a0 p1 p2 r3 r4) [.int 1, (.ref a0)])) rfl rfl (hb hby d3_55)
  have Fw326 := x318.same W326
  have x327 := x313.wr W326
  have x328 := x314.other W326 (Or.inr (slot_ne (Or.inr (own_wk hw 13 rfl)) (Or.inl (own_wk hw 29 rfl)) (by decide) (t := (.array .int)) (t' := .int) (by decide) (by decide)))
  have x329 := x315.other W326 (Or.inr (slot_ne (Or.inr (own_wk hw 15 rfl)) (Or.inl (own_wk hw 29 rfl)) (by decide) (t := (.array .int)) (t' := .int) (by decide) (by decide)))
  have x330 := x316.other W326 (Or.inr (slot_ne (Or.inr (own_wk hw 20 rfl)) (Or.inl (own_wk hw 29 rfl)) (by decide) (t := (.array .double)) (t' := .int) (by decide) (by decide)))
  have x331 := x317.other W326 (Or.inr (slot_ne (Or.inr (own_wk hw 18 rfl)) (Or.inl (own_wk hw 29 rfl)) (by decide) (t := (.array .double)) (t' := .int) (by decide) (by decide)))
  have x332 := x319.other W326 (Or.inr (slot_ne (Or.inl (own_wk hw 36 rfl)) (Or.inl (own_wk hw 29 rfl)) (by decide) (t := .int) (t' := .int) (by decide) (by decide)))
  have x333 := x320.other W326 (Or.inr (slot_ne (Or.inr (own_wk hw 11 rfl)) (Or.inl (own_wk hw 29 rfl)) (by decide) (t := (.array .int)) (t' := .int) (by decide) (by decide)))
  have x334 := x321.other W326 (Ne.symm ne_a0_ai)
  have x335 := x322.other W326 (Ne.symm ne_a0_ak)
  have x336 := V312.other W326 (Ne.symm ne_a0_av)
  have sz337 : n0 ≤ h326.size := Nat.le_trans sz323 (Keep.of_wr W326).1
  have kp338 : Keep h0 h326 [a0, ai, ak, av] := kp324.wr W326 (Or.inl (List.mem_of_getElem? (i := 0) rfl))
  have N326 := Fr.snoc X326 N312 ge_a0
  obtain ⟨fs, hr, hrun, hended, hW, hsame⟩ := X326.leave (v := none) (fun _ => rfl)
  refine ⟨_, _, pre0 _ ?_, hrun, hended, _, _, rfl, ?_, ⟨_, rfl⟩, hW, hsame.mono (by decide) (by decide)⟩
  · show own_S p e below s₁ (mkF m 0 (own_loc1 a0 p1 p2 r3 r4) []) _
    refine XS.aloadN X0.here hx rfl (hb hby d3_0) rfl rfl ?_
    show own_S p e below s₁ (mkF m 1 (own_loc1 a0 p1 p2 r3 r4) [(.ref a0)]) _
    refine st279 _ ?_
    show own_S p e below T279 (mkF m 4 (own_loc1 a0 p1 p2 r3 r4) [(.ref ai)]) _
    refine XS.aloadN X279.here hx rfl (hb hby d3_4) rfl rfl ?_
    show own_S p e below T279 (mkF m 5 (own_loc1 a0 p1 p2 r3 r4) [(.ref a0), (.ref ai)]) _
    refine st280 _ ?_
    show own_S p e below T280 (mkF m 8 (own_loc1 a0 p1 p2 r3 r4) [.int 0, (.ref ai)]) _
    refine XS.iloadN X280.here hx rfl (hb hby d3_8) rfl ?_
    show own_S p e below T280 (mkF m 9 (own_loc1 a0 p1 p2 r3 r4) [(.int p1), .int 0, (.ref ai)]) _
    refine st281 _ ?_
    show own_S p e below T281 (mkF m 10 (own_loc1 a0 p1 p2 r3 r4) []) _
    refine XS.aloadN X281.here hx rfl (hb hby d3_10) rfl rfl ?_
    show own_S p e below T281 (mkF m 11 (own_loc1 a0 p1 p2 r3 r4) [(.ref a0)]) _
    refine st294 _ ?_
    show own_S p e below T294 (mkF m 14 (own_loc1 a0 p1 p2 r3 r4) [(.ref ak)]) _
    refine XS.aloadN X294.here hx rfl (hb hby d3_14) rfl rfl ?_
    show own_S p e below T294 (mkF m 15 (own_loc1 a0 p1 p2 r3 r4) [(.ref a0), (.ref ak)]) _
    refine st295 _ ?_
    show own_S p e below T295 (mkF m 18 (own_loc1 a0 p1 p2 r3 r4) [.int 0, (.ref ak)]) _
    refine XS.iloadN X295.here hx rfl (hb hby d3_18) rfl ?_
    show own_S p e below T295 (mkF m 19 (own_loc1 a0 p1 p2 r3 r4) [(.int p2), .int 0, (.ref ak)]) _
    refine st296 _ ?_
    show own_S p e below T296 (mkF m 20 (own_loc1 a0 p1 p2 r3 r4) []) _
    refine XS.aloadN X296.here hx rfl (hb hby d3_20) rfl rfl ?_
    show own_S p e below T296 (mkF m 21 (own_loc1 a0 p1 p2 r3 r4) [(.ref a0)]) _
    refine st309 _ ?_
    show own_S p e below T309 (mkF m 24 (own_loc1 a0 p1 p2 r3 r4) [.null]) _
    refine XS.ifnullYes X309.here hx rfl (pc0 := 24) (pc' := 37) rfl (hb hby d3_24) rfl (by decide) (by decide) ?_
    show own_S p e below T309 (mkF m 37 (own_loc1 a0 p1 p2 r3 r4) []) _
    refine XS.aloadN X309.here hx rfl (hb hby d3_37) rfl rfl ?_
    show own_S p e below T309 (mkF m 38 (own_loc1 a0 p1 p2 r3 r4) [(.ref a0)]) _
    refine st310 _ ?_
    show own_S p e below T310 (mkF m 41 (own_loc1 a0 p1 p2 r3 r4) [(.ref av)]) _
    refine XS.aloadN X310.here hx rfl (hb hby d3_41) rfl rfl ?_
    show own_S p e below T310 (mkF m 42 (own_loc1 a0 p1 p2 r3 r4) [(.ref a0), (.ref av)]) _
    refine st311 _ ?_
    show own_S p e below T311 (mkF m 45 (own_loc1 a0 p1 p2 r3 r4) [.int 0, (.ref av)]) _
    refine XS.dload X311.here hx rfl (hb hby d3_45) rfl ?_
    show own_S p e below T311 (mkF m 47 (own_loc1 a0 p1 p2 r3 r4) [(.double r4), .int 0, (.ref av)]) _
    refine st312 _ ?_
    show own_S p e below T312 (mkF m 48 (own_loc1 a0 p1 p2 r3 r4) []) _
    refine XS.aloadN X312.here hx rfl (hb hby d3_48) rfl rfl ?_
    show own_S p e below T312 (mkF m 49 (own_loc1 a0 p1 p2 r3 r4) [(.ref a0)]) _
    refine XS.dup X312.here hx rfl (hb hby d3_49) rfl rfl ?_
    show own_S p e below T312 (mkF m 50 (own_loc1 a0 p1 p2 r3 r4) [(.ref a0), (.ref a0)]) _
    refine st325 _ ?_
    show own_S p e below T325 (mkF m 53 (own_loc1 a0 p1 p2 r3 r4) [.int 0, (.ref a0)]) _
    refine XS.iconst X325.here hx rfl (hb hby d3_53) ?_
    show own_S p e below T325 (mkF m 54 (own_loc1 a0 p1 p2 r3 r4) [.int 1, .int 0, (.ref a0)]) _
    refine XS.iadd X325.here hx rfl (hb hby d3_54) rfl ?_
    show own_S p e below T325 (mkF m 55 (own_loc1 a0 p1 p2 r3 r4) [(.int ((0 : Int32) + (1 : Int32))), (.ref a0)]) _
    rw [show ((0 : Int32) + (1 : Int32)) = (1 : Int32) from by decide]
    show own_S p e below T325 (mkF m 55 (own_loc1 a0 p1 p2 r3 r4) [.int 1, (.ref a0)]) _
    refine st326 _ ?_
    show own_S p e below T326 (mkF m 58 (own_loc1 a0 p1 p2 r3 r4) []) _
    exact X326.returnOut hx Bd.returns (hb hby d3_58) hr
  · show Q3_00 Z a0 p1 p2 r3 r4 ai ak av dv az ki xi0 xi1 kk xk0 xk1 kv xv0 xv1 h0 n0 _ T326.heap _
    rw [e326]
    exact ⟨rfl, N326, kp338, x328, x329, x330, x331, x332, x333, Fw326, x334, x335, x336⟩
theorem d3_27 : decode prog_10_method_2_code 27 = .ok (.aload_n 0, 1) := by decide +kernel
theorem d3_28 : decode prog_10_method_2_code 28 = .ok (.getfield 19, 3) := by decide +kernel
theorem d3_31 : decode prog_10_method_2_code 31 = .ok (.aload_n 0, 1) := by decide +kernel
theorem d3_32 : decode prog_10_method_2_code 32 = .ok (.getfield 26, 3) := by decide +kernel
theorem d3_35 : decode prog_10_method_2_code 35 = .ok (.dload_n 3, 1) := by decide +kernel
theorem d3_36 : decode prog_10_method_2_code 36 = .ok (.dastore, 1) := by decide +kernel
def Q3_01 (Z : State) (a0 : Addr) (p1 : Int32) (p2 : Int32) (r3 : UInt64) (r4 : UInt64) (ai : Addr) (ak : Addr) (asx : Addr) (av : Addr) (dv : Int32) (az : Addr) (ki : ClassId) (xi0 : Int32) (xi1 : Int32) (kk : ClassId) (xk0 : Int32) (xk1 : Int32) (ks : ClassId) (xs0 : UInt64) (xs1 : UInt64) (kv : ClassId) (xv0 : UInt64) (xv1 : UInt64) (h0 : Heap) (n0 : Nat) (v : Option Value) (h : Heap) (L : List Loc) : Prop := v = none ∧ Fr n0 L ∧ Keep h0 h [a0, ai, ak, asx, av] ∧ Fld Z h a0 "com/example/rank60/rank60/FusedList$Explanations" "inputs" "[I" (.ref ai) ∧ Fld Z h a0 "com/example/rank60/rank60/FusedList$Explanations" "ranks" "[I" (.ref ak) ∧ Fld Z h a0 "com/example/rank60/rank60/FusedList$Explanations" "scores" "[D" (.ref asx) ∧ Fld Z h a0 "com/example/rank60/rank60/FusedList$Explanations" "values" "[D" (.ref av) ∧ Fld Z h a0 "com/example/rank60/rank60/FusedList$Explanations" "documents" "I" (.int dv) ∧ Fld Z h a0 "com/example/rank60/rank60/FusedList$Explanations" "starts" "[I" (.ref az) ∧ Fld Z h a0 "com/example/rank60/rank60/FusedList$Explanations" "count" "I" (.int (1 : Int32)) ∧ Arv Z h ai ki .int (2 : Int32) [(.int p1), (.int xi1)] (.int (0 : Int32)) ∧ Arv Z h ak kk .int (2 : Int32) [(.int p2), (.int xk1)] (.int (0 : Int32)) ∧ Arv Z h asx ks .double (2 : Int32) [(.double r3), (.double xs1)] (.double (FP.l2d 0)) ∧ Arv Z h av kv .double (2 : Int32) [(.double r4), (.double xv1)] (.double (FP.l2d 0))
set_option maxRecDepth 65536 in
set_option maxHeartbeats 40000000 in
theorem rm3_01 (l : Launch) (Z : State) (ag : Array Value) (hw : ∀ d ∈ tables_1, d.before ag Z = true) (ws : List Jvm.Cond) (a0 : Addr) (p1 : Int32) (p2 : Int32) (r3 : UInt64) (r4 : UInt64) (ai : Addr) (ak : Addr) (asx : Addr) (av : Addr) (dv : Int32) (az : Addr) (ki : ClassId) (xi0 : Int32) (xi1 : Int32) (kk : ClassId) (xk0 : Int32) (xk1 : Int32) (ks : ClassId) (xs0 : UInt64) (xs1 : UInt64) (kv : ClassId) (xv0 : UInt64) (xv1 : UInt64) (h0 : Heap) (n0 : Nat) (Z0 : n0 ≤ h0.size) (E_a0 : Exa Z h0 a0 "com/example/rank60/rank60/FusedList$Explanations") (F_inputs_a0 : Fld Z h0 a0 "com/example/rank60/rank60/FusedList$Explanations" "inputs" "[I" (.ref ai)) (F_ranks_a0 : Fld Z h0 a0 "com/example/rank60/rank60/FusedList$Explanations" "ranks" "[I" (.ref ak)) (F_scores_a0 : Fld Z h0 a0 "com/example/rank60/rank60/FusedList$Explanations" "scores" "[D" (.ref asx)) (F_values_a0 : Fld Z h0 a0 "com/example/rank60/rank60/FusedList$Explanations" "values" "[D" (.ref av)) (F_count_a0 : Fld Z h0 a0 "com/example/rank60/rank60/FusedList$Explanations" "count" "I" (.int (0 : Int32))) (F_documents_a0 : Fld Z h0 a0 "com/example/rank60/rank60/FusedList$Explanations" "documents" "I" (.int dv)) (F_starts_a0 : Fld Z h0 a0 "com/example/rank60/rank60/FusedList$Explanations" "starts" "[I" (.ref az)) (V_ai : Arv Z h0 ai ki .int (2 : Int32) [(.int xi0), (.int xi1)] (.int (0 : Int32))) (V_ak : Arv Z h0 ak kk .int (2 : Int32) [(.int xk0), (.int xk1)] (.int (0 : Int32))) (V_asx : Arv Z h0 asx ks .double (2 : Int32) [(.double xs0), (.double xs1)] (.double (FP.l2d 0))) (V_av : Arv Z h0 av kv .double (2 : Int32) [(.double xv0), (.double xv1)] (.double (FP.l2d 0))) (ge_a0 : n0 ≤ a0) (ge_ai : n0 ≤ ai) (ge_ak : n0 ≤ ak) (ge_asx : n0 ≤ asx) (ge_av : n0 ≤ av) (ne_a0_ai : a0 ≠ ai) (ne_a0_ak : a0 ≠ ak) (ne_a0_asx : a0 ≠ asx) (ne_a0_av : a0 ≠ av) (ne_ai_ak : ai ≠ ak) (ne_ai_asx : ai ≠ asx) (ne_ai_av : ai ≠ av) (ne_ak_asx : ak ≠ asx) (ne_ak_av : ak ≠ av) (ne_asx_av : asx ≠ av) :
    MetFree l (⟨"com/example/rank60/rank60/FusedList$Explanations", "add", "(IIDD)V"⟩ : MethodName) (head1 (Jvm.Cond.code (⟨"com/example/rank60/rank60/FusedList$Explanations", "add", "(IIDD)V"⟩ : MethodName) prog_10_method_2_code 7 none :: ws) ({ frames := 0, cells := 0, slots := 0, locals := 0 } : Room)) (fun a U => a = #[(.ref a0), (.int p1), (.int p2), (.double r3), (.double r4)] ∧ Z.Warmed39 U.vm ∧ U.heap = h0) (fun _ _ _ _ _ => True) (fun _ U o U' => ∃ v L, o = .returned v ∧ Q3_01 Z a0 p1 p2 r3 r4 ai ak asx av dv az ki xi0 xi1 kk xk0 xk1 ks xs0 xs1 kv xv0 xv1 h0 n0 v U'.heap L ∧ FrameEnd U o U' L ({ frames := 0, cells := 0, slots := 0, locals := 0 } : Room).cells ({ frames := 0, cells := 0, slots := 0, locals := 0 } : Room).slots) := by
  refine MetFree.of_bodySF (plainFor_of_name pn_3) hisR ?_
  intro p e s m args below meth c s₁ Bd hml0 hP hK
  obtain ⟨rfl, hZ, hh⟩ := hP
  have hx := Bd.exec
  have hby := Bd.bytes
  have hml : c.maxLocals = 7 := hml0
  have hown : s.vm.findClass "com/example/rank60/rank60/FusedList$Explanations" = some m.cls := findClass_of_methodNamed Bd.named
  have hnm := (name_of_methodNamed Bd.named Bd.method).1
  have X0 : Stand p l e ({ frames := 0, cells := 0, slots := 0, locals := 0 } : Room) s m #[(.ref a0), (.int p1), (.int p2), (.double r3), (.double r4)] below meth c s₁ [] 0 0 := Stand.of_body Bd
  have e0 : s₁.heap = h0 := by rw [← hh, Bd.state]; rfl
  have N0 := Fr.nil n0
  have pre0 : ∀ t, Steps p.tables e below (s₁.setTop (mkF m 0 #[.val (.ref a0), .val (.int p1), .val (.int p2), .val (.double r3), .second, .val (.double r4), .second] [])) t → Steps p.tables e below (s₁.setTop (entryFrame m #[(.ref a0), (.int p1), (.int p2), (.double r3), (.double r4)] 7)) t := fun t k => castTop (ef_3 m a0 p1 p2 r3 r4) k
  obtain ⟨T339, X339, e339, st339⟩ := getF X0 hx hZ hown (host := "") (Or.inl (own_wk hw 12 rfl)) Via.refl e0 F_inputs_a0 (g := (mkF m 1 (own_loc1 a0 p1 p2 r3 r4) [(.ref a0)])) rfl rfl (hb hby d3_1)
  obtain ⟨T340, X340, e340, st340⟩ := getF X339 hx hZ hown (host := "") (Or.inl (own_wk hw 28 rfl)) Via.refl e339 F_count_a0 (g := (mkF m 5 (own_loc1 a0 p1 p2 r3 r4) [(.ref a0), (.ref ai)])) rfl rfl (hb hby d3_5)
  obtain ⟨cl341, Ar341, q341, S341, M341, H341, G341⟩ := id V_ai
  have hin341 : ¬ ((0 : Int32) < 0 ∨ cl341.slots.size ≤ ((0 : Int32)).toNatClampNeg) := inb_of S341 ⟨(by decide : ¬ (0 : Int32) < 0), (by decide : (0 : Int32) < (2 : Int32))⟩
  obtain ⟨T341, h341, X341, e341, W341, st341⟩ := stI X340 hx hZ e340 Ar341 (j := (0 : Int32)) hin341 (g := (mkF m 9 (own_loc1 a0 p1 p2 r3 r4) [(.int p1), .int 0, (.ref ai)])) rfl rfl (hb hby d3_9)
  have V341 : Arv Z h341 ai ki .int (2 : Int32) [(.int p1), (.int xi1)] (.int (0 : Int32)) := Arv.set Ar341 q341 S341 M341 H341 G341 rfl W341 0 rfl (Nat.le_of_ble_eq_true rfl)
  have x342 := E_a0.wr W341
  have x343 := F_inputs_a0.other W341 (Or.inl ne_a0_ai)
  have x344 := F_ranks_a0.other W341 (Or.inl ne_a0_ai)
  have x345 := F_scores_a0.other W341 (Or.inl ne_a0_ai)
  have x346 := F_values_a0.other W341 (Or.inl ne_a0_ai)
  have x347 := F_count_a0.other W341 (Or.inl ne_a0_ai)
  have x348 := F_documents_a0.other W341 (Or.inl ne_a0_ai)
  have x349 := F_starts_a0.other W341 (Or.inl ne_a0_ai)
  have x350 := V_ak.other W341 (Ne.symm ne_ai_ak)
  have x351 := V_asx.other W341 (Ne.symm ne_ai_asx)
  have x352 := V_av.other W341 (Ne.symm ne_ai_av)
  have sz353 : n0 ≤ h341.size := Nat.le_trans Z0 (Keep.of_wr W341).1
  have kp354 : Keep h0 h341 [a0, ai, ak, asx, av] := (Keep.refl h0 [a0, ai, ak, asx, av]).wr W341 (Or.inl (List.mem_of_getElem? (i := 1) rfl))
  have N341 := Fr.snoc X341 N0 ge_ai
  obtain ⟨T355, X355, e355, st355⟩ := getF X341 hx hZ hown (host := "") (Or.inl (own_wk hw 14 rfl)) Via.refl e341 x344 (g := (mkF m 11 (own_loc1 a0 p1 p2 r3 r4) [(.ref a0)])) rfl rfl (hb hby d3_11)
  obtain ⟨T356, X356, e356, st356⟩ := getF X355 hx hZ hown (host := "") (Or.inl (own_wk hw 28 rfl)) Via.refl e355 x347 (g := (mkF m 15 (own_loc1 a0 p1 p2 r3 r4) [(.ref a0), (.ref ak)])) rfl rfl (hb hby d3_15)
  obtain ⟨cl357, Ar357, q357, S357, M357, H357, G357⟩ := id x350
  have hin357 : ¬ ((0 : Int32) < 0 ∨ cl357.slots.size ≤ ((0 : Int32)).toNatClampNeg) := inb_of S357 ⟨(by decide : ¬ (0 : Int32) < 0), (by decide : (0 : Int32) < (2 : Int32))⟩
  obtain ⟨T357, h357, X357, e357, W357, st357⟩ := stI X356 hx hZ e356 Ar357 (j := (0 : Int32)) hin357 (g := (mkF m 19 (own_loc1 a0 p1 p2 r3 r4) [(.int p2), .int 0, (.ref ak)])) rfl rfl (hb hby d3_19)
  have V357 : Arv Z h357 ak kk .int (2 : Int32) [(.int p2), (.int xk1)] (.int (0 : Int32)) := Arv.set Ar357 q357 S357 M357 H357 G357 rfl W357 0 rfl (Nat.le_of_ble_eq_true rfl)
  have x358 := x342.wr W357
  have x359 := x343.other W357 (Or.inl ne_a0_ak)
  have x360 := x344.other W357 (Or.inl ne_a0_ak)
  have x361 := x345.other W357 (Or.inl ne_a0_ak)
  have x362 := x346.other W357 (Or.inl ne_a0_ak)
  have x363 := x347.other W357 (Or.inl ne_a0_ak)
  have x364 := x348.other W357 (Or.inl ne_a0_ak)
  have x365 := x349.other W357 (Or.inl ne_a0_ak)
  have x366 := x351.other W357 (Ne.symm ne_ak_asx)
  have x367 := x352.other W357 (Ne.symm ne_ak_av)
  have x368 := V341.other W357 ne_ai_ak
  have sz369 : n0 ≤ h357.size := Nat.le_trans sz353 (Keep.of_wr W357).1
  have kp370 : Keep h0 h357 [a0, ai, ak, asx, av] := kp354.wr W357 (Or.inl (List.mem_of_getElem? (i := 2) rfl))
  have N357 := Fr.snoc X357 N341 ge_ak
  obtain ⟨T371, X371, e371, st371⟩ := getF X357 hx hZ hown (host := "") (Or.inl (own_wk hw 17 rfl)) Via.refl e357 x361 (g := (mkF m 21 (own_loc1 a0 p1 p2 r3 r4) [(.ref a0)])) rfl rfl (hb hby d3_21)
  obtain ⟨T372, X372, e372, st372⟩ := getF X371 hx hZ hown (host := "") (Or.inl (own_wk hw 17 rfl)) Via.refl e371 x361 (g := (mkF m 28 (own_loc1 a0 p1 p2 r3 r4) [(.ref a0)])) rfl rfl (hb hby d3_28)
  obtain ⟨T373, X373, e373, st373⟩ := getF X372 hx hZ hown (host := "") (Or.inl (own_wk hw 28 rfl)) Via.refl e372 x363 (g := (mkF m 32 (own_loc1 a0 p1 p2 r3 r4) [(.ref a0), (.ref asx)])) rfl rfl (hb hby d3_32)
  obtain ⟨cl374, Ar374, q374, S374, M374, H374, G374⟩ := id x366
  have hin374 : ¬ ((0 : Int32) < 0 ∨ cl374.slots.size ≤ ((0 : Int32)).toNatClampNeg) := inb_of S374 ⟨(by decide : ¬ (0 : Int32) < 0), (by decide : (0 : Int32) < (2 : Int32))⟩
  obtain ⟨T374, h374, X374, e374, W374, st374⟩ := stD X373 hx hZ e373 Ar374 (j := (0 : Int32)) hin374 (g := (mkF m 36 (own_loc1 a0 p1 p2 r3 r4) [(.double r3), .int 0, (.ref asx)])) rfl rfl (hb hby d3_36)
  have V374 : Arv Z h374 asx ks .double (2 : Int32) [(.double r3), (.double xs1)] (.double (FP.l2d 0)) := Arv.set Ar374 q374 S374 M374 H374 G374 rfl W374 0 rfl (Nat.le_of_ble_eq_true rfl)
  have x375 := x358.wr W374
  have x376 := x359.other W374 (Or.inl ne_a0_asx)
  have x377 := x360.other W374 (Or.inl ne_a0_asx)
  have x378 := x361.other W374 (Or.inl ne_a0_asx)
  have x379 := x362.other W374 (Or.inl ne_a0_asx)
  have x380 := x363.other W374 (Or.inl ne_a0_asx)
  have x381 := x364.other W374 (Or.inl ne_a0_asx)
  have x382 := x365.other W374 (Or.inl ne_a0_asx)
  have x383 := x367.other W374 (Ne.symm ne_asx_av)
  have x384 := x368.other W374 ne_ai_asx
  have x385 := V357.other W374 ne_ak_asx
  have sz386 : n0 ≤ h374.size := Nat.le_trans sz369 (Keep.of_wr W374).1
  have kp387 : Keep h0 h374 [a0, ai, ak, asx, av] := kp370.wr W374 (Or.inl (List.mem_of_getElem? (i := 3) rfl))
  have N374 := Fr.snoc X374 N357 ge_asx
  obtain ⟨T388, X388, e388, st388⟩ := getF X374 hx hZ hown (host := "") (Or.inl (own_wk hw 19 rfl)) Via.refl e374 x379 (g := (mkF m 38 (own_loc1 a0 p1 p2 r3 r4) [(.ref a0)])) rfl rfl (hb hby d3_38)
  obtain ⟨T389, X389, e389, st389⟩ := getF X388 hx hZ hown (host := "") (Or.inl (own_wk hw 28 rfl)) Via.refl e388 x380 (g := (mkF m 42 (own_loc1 a0 p1 p2 r3 r4) [(.ref a0), (.ref av)])) rfl rfl (hb hby d3_42)
  obtain ⟨cl390, Ar390, q390, S390, M390, H390, G390⟩ := id x383
  have hin390 : ¬ ((0 : Int32) < 0 ∨ cl390.slots.size ≤ ((0 : Int32)).toNatClampNeg) := inb_of S390 ⟨(by decide : ¬ (0 : Int32) < 0), (by decide : (0 : Int32) < (2 : Int32))⟩
  obtain ⟨T390, h390, X390, e390, W390, st390⟩ := stD X389 hx hZ e389 Ar390 (j := (0 : Int32)) hin390 (g := (mkF m 47 (own_loc1 a0 p1 p2 r3 r4) [(.double r4), .int 0, (.ref av)])) rfl rfl (hb hby d3_47)
  have V390 : Arv Z h390 av kv .double (2 : Int32) [(.double r4), (.double xv1)] (.double (FP.l2d 0)) := Arv.set Ar390 q390 S390 M390 H390 G390 rfl W390 0 rfl (Nat.le_of_ble_eq_true rfl)
  have x391 := x375.wr W390
  have x392 := x376.other W390 (Or.inl ne_a0_av)
  have x393 := x377.other W390 (Or.inl ne_a0_av)
  have x394 := x378.other W390 (Or.inl ne_a0_av)
  have x395 := x379.other W390 (Or.inl ne_a0_av)
  have x396 := x380.other W390 (Or.inl ne_a0_av)
  have x397 := x381.other W390 (Or.inl ne_a0_av)
  have x398 := x382.other W390 (Or.inl ne_a0_av)
  have x399 := x384.other W390 ne_ai_av
  have x400 := x385.other W390 ne_ak_av
  have x401 := V374.other W390 ne_asx_av
  have sz402 : n0 ≤ h390.size := Nat.le_trans sz386 (Keep.of_wr W390).1
  have kp403 : Keep h0 h390 [a0, ai, ak, asx, av] := kp387.wr W390 (Or.inl (List.mem_of_getElem? (i := 4) rfl))
  have N390 := Fr.snoc X390 N374 ge_av
  obtain ⟨T404, X404, e404, st404⟩ := getF X390 hx hZ hown (host := "") (Or.inl (own_wk hw 28 rfl)) Via.refl e390 x396 (g := (mkF m 50 (own_loc1 a0 p1 p2 r3 r4) [(.ref a0), (.ref a0)])) rfl rfl (hb hby d3_50)
  obtain ⟨T405, h405, X405, e405, W405, st405⟩ := putF X404 hx hZ hown (host := "") (Or.inl (own_wk hw 28 rfl)) Via.refl e404 x396 x391 (Or.inl (own_wk hw 29 rfl)) (own_wk hw 1 rfl) (ty := .int) (by decide) rfl rfl (g := (mkF m 55 (own_loc1 a0 p1 p2 r3 r4) [.int 1, (.ref a0)])) rfl rfl (hb hby d3_55)
  have Fw405 := x396.same W405
  have x406 := x391.wr W405
  have x407 := x392.other W405 (Or.inr (slot_ne (Or.inr (own_wk hw 13 rfl)) (Or.inl (own_wk hw 29 rfl)) (by decide) (t := (.array .int)) (t' := .int) (by decide) (by decide)))
  have x408 := x393.other W405 (Or.inr (slot_ne (Or.inr (own_wk hw 15 rfl)) (Or.inl (own_wk hw 29 rfl)) (by decide) (t := (.array .int)) (t' := .int) (by decide) (by decide)))
  have x409 := x394.other W405 (Or.inr (slot_ne (Or.inr (own_wk hw 18 rfl)) (Or.inl (own_wk hw 29 rfl)) (by decide) (t := (.array .double)) (t' := .int) (by decide) (by decide)))
  have x410 := x395.other W405 (Or.inr (slot_ne (Or.inr (own_wk hw 20 rfl)) (Or.inl (own_wk hw 29 rfl)) (by decide) (t := (.array .double)) (t' := .int) (by decide) (by decide)))
  have x411 := x397.other W405 (Or.inr (slot_ne (Or.inl (own_wk hw 36 rfl)) (Or.inl (own_wk hw 29 rfl)) (by decide) (t := .int) (t' := .int) (by decide) (by decide)))
  have x412 := x398.other W405 (Or.inr (slot_ne (Or.inr (own_wk hw 11 rfl)) (Or.inl (own_wk hw 29 rfl)) (by decide) (t := (.array .int)) (t' := .int) (by decide) (by decide)))
  have x413 := x399.other W405 (Ne.symm ne_a0_ai)
  have x414 := x400.other W405 (Ne.symm ne_a0_ak)
  have x415 := x401.other W405 (Ne.symm ne_a0_asx)
  have x416 := V390.other W405 (Ne.symm ne_a0_av)
  have sz417 : n0 ≤ h405.size := Nat.le_trans sz402 (Keep.of_wr W405).1
  have kp418 : Keep h0 h405 [a0, ai, ak, asx, av] := kp403.wr W405 (Or.inl (List.mem_of_getElem? (i := 0) rfl))
  have N405 := Fr.snoc X405 N390 ge_a0
  obtain ⟨fs, hr, hrun, hended, hW, hsame⟩ := X405.leave (v := none) (fun _ => rfl)
  refine ⟨_, _, pre0 _ ?_, hrun, hended, _, _, rfl, ?_, ⟨_, rfl⟩, hW, hsame.mono (by decide) (by decide)⟩
  · show own_S p e below s₁ (mkF m 0 (own_loc1 a0 p1 p2 r3 r4) []) _
    refine XS.aloadN X0.here hx rfl (hb hby d3_0) rfl rfl ?_
    show own_S p e below s₁ (mkF m 1 (own_loc1 a0 p1 p2 r3 r4) [(.ref a0)]) _
    refine st339 _ ?_
    show own_S p e below T339 (mkF m 4 (own_loc1 a0 p1 p2 r3 r4) [(.ref ai)]) _
    refine XS.aloadN X339.here hx rfl (hb hby d3_4) rfl rfl ?_
    show own_S p e below T339 (mkF m 5 (own_loc1 a0 p1 p2 r3 r4) [(.ref a0), (.ref ai)]) _
    refine st340 _ ?_
    show own_S p e below T340 (mkF m 8 (own_loc1 a0 p1 p2 r3 r4) [.int 0, (.ref ai)]) _
    refine XS.iloadN X340.here hx rfl (hb hby d3_8) rfl ?_
    show own_S p e below T340 (mkF m 9 (own_loc1 a0 p1 p2 r3 r4) [(.int p1), .int 0, (.ref ai)]) _
    refine st341 _ ?_
    show own_S p e below T341 (mkF m 10 (own_loc1 a0 p1 p2 r3 r4) []) _
    refine XS.aloadN X341.here hx rfl (hb hby d3_10) rfl rfl ?_
    show own_S p e below T341 (mkF m 11 (own_loc1 a0 p1 p2 r3 r4) [(.ref a0)]) _
    refine st355 _ ?_
    show own_S p e below T355 (mkF m 14 (own_loc1 a0 p1 p2 r3 r4) [(.ref ak)]) _
    refine XS.aloadN X355.here hx rfl (hb hby d3_14) rfl rfl ?_
    show own_S p e below T355 (mkF m 15 (own_loc1 a0 p1 p2 r3 r4) [(.ref a0), (.ref ak)]) _
    refine st356 _ ?_
    show own_S p e below T356 (mkF m 18 (own_loc1 a0 p1 p2 r3 r4) [.int 0, (.ref ak)]) _
    refine XS.iloadN X356.here hx rfl (hb hby d3_18) rfl ?_
    show own_S p e below T356 (mkF m 19 (own_loc1 a0 p1 p2 r3 r4) [(.int p2), .int 0, (.ref ak)]) _
    refine st357 _ ?_
    show own_S p e below T357 (mkF m 20 (own_loc1 a0 p1 p2 r3 r4) []) _
    refine XS.aloadN X357.here hx rfl (hb hby d3_20) rfl rfl ?_
    show own_S p e below T357 (mkF m 21 (own_loc1 a0 p1 p2 r3 r4) [(.ref a0)]) _
    refine st371 _ ?_
    show own_S p e below T371 (mkF m 24 (own_loc1 a0 p1 p2 r3 r4) [(.ref asx)]) _
    refine XS.ifnullNo X371.here hx rfl (hb hby d3_24) rfl ?_
    show own_S p e below T371 (mkF m 27 (own_loc1 a0 p1 p2 r3 r4) []) _
    refine XS.aloadN X371.here hx rfl (hb hby d3_27) rfl rfl ?_
    show own_S p e below T371 (mkF m 28 (own_loc1 a0 p1 p2 r3 r4) [(.ref a0)]) _
    refine st372 _ ?_
    show own_S p e below T372 (mkF m 31 (own_loc1 a0 p1 p2 r3 r4) [(.ref asx)]) _
    refine XS.aloadN X372.here hx rfl (hb hby d3_31) rfl rfl ?_
    show own_S p e below T372 (mkF m 32 (own_loc1 a0 p1 p2 r3 r4) [(.ref a0), (.ref asx)]) _
    refine st373 _ ?_
    show own_S p e below T373 (mkF m 35 (own_loc1 a0 p1 p2 r3 r4) [.int 0, (.ref asx)]) _
    refine XS.dloadN X373.here hx rfl (hb hby d3_35) rfl ?_
    show own_S p e below T373 (mkF m 36 (own_loc1 a0 p1 p2 r3 r4) [(.double r3), .int 0, (.ref asx)]) _
    refine st374 _ ?_
    show own_S p e below T374 (mkF m 37 (own_loc1 a0 p1 p2 r3 r4) []) _
    refine XS.aloadN X374.here hx rfl (hb hby d3_37) rfl rfl ?_
    show own_S p e below T374 (mkF m 38 (own_loc1 a0 p1 p2 r3 r4) [(.ref a0)]) _
    refine st388 _ ?_
    show own_S p e below T388 (mkF m 41 (own_loc1 a0 p1 p2 r3 r4) [(.ref av)]) _
    refine XS.aloadN X388.here hx rfl (hb hby d3_41) rfl rfl ?_
    show own_S p e below T388 (mkF m 42 (own_loc1 a0 p1 p2 r3 r4) [(.ref a0), (.ref av)]) _
    refine st389 _ ?_
    show own_S p e below T389 (mkF m 45 (own_loc1 a0 p1 p2 r3 r4) [.int 0, (.ref av)]) _
    refine XS.dload X389.here hx rfl (hb hby d3_45) rfl ?_
    show own_S p e below T389 (mkF m 47 (own_loc1 a0 p1 p2 r3 r4) [(.double r4), .int 0, (.ref av)]) _
    refine st390 _ ?_
    show own_S p e below T390 (mkF m 48 (own_loc1 a0 p1 p2 r3 r4) []) _
    refine XS.aloadN X390.here hx rfl (hb hby d3_48) rfl rfl ?_
    show own_S p e below T390 (mkF m 49 (own_loc1 a0 p1 p2 r3 r4) [(.ref a0)]) _
    refine XS.dup X390.here hx rfl (hb hby d3_49) rfl rfl ?_
    show own_S p e below T390 (mkF m 50 (own_loc1 a0 p1 p2 r3 r4) [(.ref a0), (.ref a0)]) _
    refine st404 _ ?_
    show own_S p e below T404 (mkF m 53 (own_loc1 a0 p1 p2 r3 r4) [.int 0, (.ref a0)]) _
    refine XS.iconst X404.here hx rfl (hb hby d3_53) ?_
    show own_S p e below T404 (mkF m 54 (own_loc1 a0 p1 p2 r3 r4) [.int 1, .int 0, (.ref a0)]) _
    refine XS.iadd X404.here hx rfl (hb hby d3_54) rfl ?_
    show own_S p e below T404 (mkF m 55 (own_loc1 a0 p1 p2 r3 r4) [(.int ((0 : Int32) + (1 : Int32))), (.ref a0)]) _
    rw [show ((0 : Int32) + (1 : Int32)) = (1 : Int32) from by decide]
    show own_S p e below T404 (mkF m 55 (own_loc1 a0 p1 p2 r3 r4) [.int 1, (.ref a0)]) _
    refine st405 _ ?_
    show own_S p e below T405 (mkF m 58 (own_loc1 a0 p1 p2 r3 r4) []) _
    exact X405.returnOut hx Bd.returns (hb hby d3_58) hr
  · show Q3_01 Z a0 p1 p2 r3 r4 ai ak asx av dv az ki xi0 xi1 kk xk0 xk1 ks xs0 xs1 kv xv0 xv1 h0 n0 _ T405.heap _
    rw [e405]
    exact ⟨rfl, N405, kp418, x407, x408, x409, x410, x411, x412, Fw405, x413, x414, x415, x416⟩
def Q3_10 (Z : State) (a0 : Addr) (p1 : Int32) (p2 : Int32) (r3 : UInt64) (r4 : UInt64) (ai : Addr) (ak : Addr) (av : Addr) (dv : Int32) (az : Addr) (ki : ClassId) (xi0 : Int32) (xi1 : Int32) (kk : ClassId) (xk0 : Int32) (xk1 : Int32) (kv : ClassId) (xv0 : UInt64) (xv1 : UInt64) (h0 : Heap) (n0 : Nat) (v : Option Value) (h : Heap) (L : List Loc) : Prop := v = none ∧ Fr n0 L ∧ Keep h0 h [a0, ai, ak, av] ∧ Fld Z h a0 "com/example/rank60/rank60/FusedList$Explanations" "inputs" "[I" (.ref ai) ∧ Fld Z h a0 "com/example/rank60/rank60/FusedList$Explanations" "ranks" "[I" (.ref ak) ∧ Fld Z h a0 "com/example/rank60/rank60/FusedList$Explanations" "values" "[D" (.ref av) ∧ Fld Z h a0 "com/example/rank60/rank60/FusedList$Explanations" "scores" "[D" .null ∧ Fld Z h a0 "com/example/rank60/rank60/FusedList$Explanations" "documents" "I" (.int dv) ∧ Fld Z h a0 "com/example/rank60/rank60/FusedList$Explanations" "starts" "[I" (.ref az) ∧ Fld Z h a0 "com/example/rank60/rank60/FusedList$Explanations" "count" "I" (.int (2 : Int32)) ∧ Arv Z h ai ki .int (2 : Int32) [(.int xi0), (.int p1)] (.int (0 : Int32)) ∧ Arv Z h ak kk .int (2 : Int32) [(.int xk0), (.int p2)] (.int (0 : Int32)) ∧ Arv Z h av kv .double (2 : Int32) [(.double xv0), (.double r4)] (.double (FP.l2d 0))
set_option maxRecDepth 65536 in
set_option maxHeartbeats 40000000 in
theorem rm3_10 (l : Launch) (Z : State) (ag : Array Value) (hw : ∀ d ∈ tables_1, d.before ag Z = true) (ws : List Jvm.Cond) (a0 : Addr) (p1 : Int32) (p2 : Int32) (r3 : UInt64) (r4 : UInt64) (ai : Addr) (ak : Addr) (av : Addr) (dv : Int32) (az : Addr) (ki : ClassId) (xi0 : Int32) (xi1 : Int32) (kk : ClassId) (xk0 : Int32) (xk1 : Int32) (kv : ClassId) (xv0 : UInt64) (xv1 : UInt64) (h0 : Heap) (n0 : Nat) (Z0 : n0 ≤ h0.size) (E_a0 : Exa Z h0 a0 "com/example/rank60/rank60/FusedList$Explanations") (F_inputs_a0 : Fld Z h0 a0 "com/example/rank60/rank60/FusedList$Explanations" "inputs" "[I" (.ref ai)) (F_ranks_a0 : Fld Z h0 a0 "com/example/rank60/rank60/FusedList$Explanations" "ranks" "[I" (.ref ak)) (F_values_a0 : Fld Z h0 a0 "com/example/rank60/rank60/FusedList$Explanations" "values" "[D" (.ref av)) (F_scores_a0 : Fld Z h0 a0 "com/example/rank60/rank60/FusedList$Explanations" "scores" "[D" .null) (F_count_a0 : Fld Z h0 a0 "com/example/rank60/rank60/FusedList$Explanations" "count" "I" (.int (1 : Int32))) (F_documents_a0 : Fld Z h0 a0 "com/example/rank60/rank60/FusedList$Explanations" "documents" "I" (.int dv)) (F_starts_a0 : Fld Z h0 a0 "com/example/rank60/rank60/FusedList$Explanations" "starts" "[I" (.ref az)) (V_ai : Arv Z h0 ai ki .int (2 : Int32) [(.int xi0), (.int xi1)] (.int (0 : Int32))) (V_ak : Arv Z h0 ak kk .int (2 : Int32) [(.int xk0), (.int xk1)] (.int (0 : Int32))) (V_av : Arv Z h0 av kv .double (2 : Int32) [(.double xv0), (.double xv1)] (.double (FP.l2d 0))) (ge_a0 : n0 ≤ a0) (ge_ai : n0 ≤ ai) (ge_ak : n0 ≤ ak) (ge_av : n0 ≤ av) (ne_a0_ai : a0 ≠ ai) (ne_a0_ak : a0 ≠ ak) (ne_a0_av : a0 ≠ av) (ne_ai_ak : ai ≠ ak) (ne_ai_av : ai ≠ av) (ne_ak_av : ak ≠ av) :
    MetFree l (⟨"com/example/rank60/rank60/FusedList$Explanations", "add", "(IIDD)V"⟩ : MethodName) (head1 (Jvm.Cond.code (⟨"com/example/rank60/rank60/FusedList$Explanations", "add", "(IIDD)V"⟩ : MethodName) prog_10_method_2_code 7 none :: ws) ({ frames := 0, cells := 0, slots := 0, locals := 0 } : Room)) (fun a U => a = #[(.ref a0), (.int p1), (.int p2), (.double r3), (.double r4)] ∧ Z.Warmed39 U.vm ∧ U.heap = h0) (fun _ _ _ _ _ => True) (fun _ U o U' => ∃ v L, o = .returned v ∧ Q3_10 Z a0 p1 p2 r3 r4 ai ak av dv az ki xi0 xi1 kk xk0 xk1 kv xv0 xv1 h0 n0 v U'.heap L ∧ FrameEnd U o U' L ({ frames := 0, cells := 0, slots := 0, locals := 0 } : Room).cells ({ frames := 0, cells := 0, slots := 0, locals := 0 } : Room).slots) := by
  refine MetFree.of_bodySF (plainFor_of_name pn_3) hisR ?_
  intro p e s m args below meth c s₁ Bd hml0 hP hK
  obtain ⟨rfl, hZ, hh⟩ := hP
  have hx := Bd.exec
  have hby := Bd.bytes
  have hml : c.maxLocals = 7 := hml0
  have hown : s.vm.findClass "com/example/rank60/rank60/FusedList$Explanations" = some m.cls := findClass_of_methodNamed Bd.named
  have hnm := (name_of_methodNamed Bd.named Bd.method).1
  have X0 : Stand p l e ({ frames := 0, cells := 0, slots := 0, locals := 0 } : Room) s m #[(.ref a0), (.int p1), (.int p2), (.double r3), (.double r4)] below meth c s₁ [] 0 0 := Stand.of_body Bd
  have e0 : s₁.heap = h0 := by rw [← hh, Bd.state]; rfl
  have N0 := Fr.nil n0
  have pre0 : ∀ t, Steps p.tables e below (s₁.setTop (mkF m 0 #[.val (.ref a0), .val (.int p1), .val (.int p2), .val (.double r3), .second, .val (.double r4), .second] [])) t → Steps p.tables e below (s₁.setTop (entryFrame m #[(.ref a0), (.int p1), (.int p2), (.double r3), (.double r4)] 7)) t := fun t k => castTop (ef_3 m a0 p1 p2 r3 r4) k
  obtain ⟨T419, X419, e419, st419⟩ := getF X0 hx hZ hown (host := "") (Or.inl (own_wk hw 12 rfl)) Via.refl e0 F_inputs_a0 (g := (mkF m 1 (own_loc1 a0 p1 p2 r3 r4) [(.ref a0)])) rfl rfl (hb hby d3_1)
  obtain ⟨T420, X420, e420, st420⟩ := getF X419 hx hZ hown (host := "") (Or.inl (own_wk hw 28 rfl)) Via.refl e419 F_count_a0 (g := (mkF m 5 (own_loc1 a0 p1 p2 r3 r4) [(.ref a0), (.ref ai)])) rfl rfl (hb hby d3_5)
  obtain ⟨cl421, Ar421, q421, S421, M421, H421, G421⟩ := id V_ai
  have hin421 : ¬ ((1 : Int32) < 0 ∨ cl421.slots.size ≤ ((1 : Int32)).toNatClampNeg) := inb_of S421 ⟨(by decide : ¬ (1 : Int32) < 0), (by decide : (1 : Int32) < (2 : Int32))⟩
  obtain ⟨T421, h421, X421, e421, W421, st421⟩ := stI X420 hx hZ e420 Ar421 (j := (1 : Int32)) hin421 (g := (mkF m 9 (own_loc1 a0 p1 p2 r3 r4) [(.int p1), .int 1, (.ref ai)])) rfl rfl (hb hby d3_9)
  have V421 : Arv Z h421 ai ki .int (2 : Int32) [(.int xi0), (.int p1)] (.int (0 : Int32)) := Arv.set Ar421 q421 S421 M421 H421 G421 rfl W421 1 rfl (Nat.le_of_ble_eq_true rfl)
  have x422 := E_a0.wr W421
  have x423 := F_inputs_a0.other W421 (Or.inl ne_a0_ai)
  have x424 := F_ranks_a0.other W421 (Or.inl ne_a0_ai)
  have x425 := F_values_a0.other W421 (Or.inl ne_a0_ai)
  have x426 := F_scores_a0.other W421 (Or.inl ne_a0_ai)
  have x427 := F_count_a0.other W421 (Or.inl ne_a0_ai)
  have x428 := F_documents_a0.other W421 (Or.inl ne_a0_ai)
  have x429 := F_starts_a0.other W421 (Or.inl ne_a0_ai)
  have x430 := V_ak.other W421 (Ne.symm ne_ai_ak)
  have x431 := V_av.other W421 (Ne.symm ne_ai_av)
  have sz432 : n0 ≤ h421.size := Nat.le_trans Z0 (Keep.of_wr W421).1
  have kp433 : Keep h0 h421 [a0, ai, ak, av] := (Keep.refl h0 [a0, ai, ak, av]).wr W421 (Or.inl (List.mem_of_getElem? (i := 1) rfl))
  have N421 := Fr.snoc X421 N0 ge_ai
  obtain ⟨T434, X434, e434, st434⟩ := getF X421 hx hZ hown (host := "") (Or.inl (own_wk hw 14 rfl)) Via.refl e421 x424 (g := (mkF m 11 (own_loc1 a0 p1 p2 r3 r4) [(.ref a0)])) rfl rfl (hb hby d3_11)
  obtain ⟨T435, X435, e435, st435⟩ := getF X434 hx hZ hown (host := "") (Or.inl (own_wk hw 28 rfl)) Via.refl e434 x427 (g := (mkF m 15 (own_loc1 a0 p1 p2 r3 r4) [(.ref a0), (.ref ak)])) rfl rfl (hb hby d3_15)
  obtain ⟨cl436, Ar436, q436, S436, M436, H436, G436⟩ := id x430
  have hin436 : ¬ ((1 : Int32) < 0 ∨ cl436.slots.size ≤ ((1 : Int32)).toNatClampNeg) := inb_of S436 ⟨(by decide : ¬ (1 : Int32) < 0), (by decide : (1 : Int32) < (2 : Int32))⟩
  obtain ⟨T436, h436, X436, e436, W436, st436⟩ := stI X435 hx hZ e435 Ar436 (j := (1 : Int32)) hin436 (g := (mkF m 19 (own_loc1 a0 p1 p2 r3 r4) [(.int p2), .int 1, (.ref ak)])) rfl rfl (hb hby d3_19)
  have V436 : Arv Z h436 ak kk .int (2 : Int32) [(.int xk0), (.int p2)] (.int (0 : Int32)) := Arv.set Ar436 q436 S436 M436 H436 G436 rfl W436 1 rfl (Nat.le_of_ble_eq_true rfl)
  have x437 := x422.wr W436
  have x438 := x423.other W436 (Or.inl ne_a0_ak)
  have x439 := x424.other W436 (Or.inl ne_a0_ak)
  have x440 := x425.other W436 (Or.inl ne_a0_ak)
  have x441 := x426.other W436 (Or.inl ne_a0_ak)
  have x442 := x427.other W436 (Or.inl ne_a0_ak)
  have x443 := x428.other W436 (Or.inl ne_a0_ak)
  have x444 := x429.other W436 (Or.inl ne_a0_ak)
  have x445 := x431.other W436 (Ne.symm ne_ak_av)
  have x446 := V421.other W436 ne_ai_ak
  have sz447 : n0 ≤ h436.size := Nat.le_trans sz432 (Keep.of_wr W436).1
  have kp448 : Keep h0 h436 [a0, ai, ak, av] := kp433.wr W436 (Or.inl (List.mem_of_getElem? (i := 2) rfl))
  have N436 := Fr.snoc X436 N421 ge_ak
  obtain ⟨T449, X449, e449, st449⟩ := getF X436 hx hZ hown (host := "") (Or.inl (own_wk hw 17 rfl)) Via.refl e436 x441 (g := (mkF m 21 (own_loc1 a0 p1 p2 r3 r4) [(.ref a0)])) rfl rfl (hb hby d3_21)
  obtain ⟨T450, X450, e450, st450⟩ := getF X449 hx hZ hown (host := "") (Or.inl (own_wk hw 19 rfl)) Via.refl e449 x440 (g := (mkF m 38 (own_loc1 a0 p1 p2 r3 r4) [(.ref a0)])) rfl rfl (hb hby d3_38)
  obtain ⟨T451, X451, e451, st451⟩ := getF X450 hx hZ hown (host := "") (Or.inl (own_wk hw 28 rfl)) Via.refl e450 x442 (g := (mkF m 42 (own_loc1 a0 p1 p2 r3 r4) [(.ref a0), (.ref av)])) rfl rfl (hb hby d3_42)
  obtain ⟨cl452, Ar452, q452, S452, M452, H452, G452⟩ := id x445
  have hin452 : ¬ ((1 : Int32) < 0 ∨ cl452.slots.size ≤ ((1 : Int32)).toNatClampNeg) := inb_of S452 ⟨(by decide : ¬ (1 : Int32) < 0), (by decide : (1 : Int32) < (2 : Int32))⟩
  obtain ⟨T452, h452, X452, e452, W452, st452⟩ := stD X451 hx hZ e451 Ar452 (j := (1 : Int32)) hin452 (g := (mkF m 47 (own_loc1 a0 p1 p2 r3 r4) [(.double r4), .int 1, (.ref av)])) rfl rfl (hb hby d3_47)
  have V452 : Arv Z h452 av kv .double (2 : Int32) [(.double xv0), (.double r4)] (.double (FP.l2d 0)) := Arv.set Ar452 q452 S452 M452 H452 G452 rfl W452 1 rfl (Nat.le_of_ble_eq_true rfl)
  have x453 := x437.wr W452
  have x454 := x438.other W452 (Or.inl ne_a0_av)
  have x455 := x439.other W452 (Or.inl ne_a0_av)
  have x456 := x440.other W452 (Or.inl ne_a0_av)
  have x457 := x441.other W452 (Or.inl ne_a0_av)
  have x458 := x442.other W452 (Or.inl ne_a0_av)
  have x459 := x443.other W452 (Or.inl ne_a0_av)
  have x460 := x444.other W452 (Or.inl ne_a0_av)
  have x461 := x446.other W452 ne_ai_av
  have x462 := V436.other W452 ne_ak_av
  have sz463 : n0 ≤ h452.size := Nat.le_trans sz447 (Keep.of_wr W452).1
  have kp464 : Keep h0 h452 [a0, ai, ak, av] := kp448.wr W452 (Or.inl (List.mem_of_getElem? (i := 3) rfl))
  have N452 := Fr.snoc X452 N436 ge_av
  obtain ⟨T465, X465, e465, st465⟩ := getF X452 hx hZ hown (host := "") (Or.inl (own_wk hw 28 rfl)) Via.refl e452 x458 (g := (mkF m 50 (own_loc1 a0 p1 p2 r3 r4) [(.ref a0), (.ref a0)])) rfl rfl (hb hby d3_50)
  obtain ⟨T466, h466, X466, e466, W466, st466⟩ := putF X465 hx hZ hown (host := "") (Or.inl (own_wk hw 28 rfl)) Via.refl e465 x458 x453 (Or.inl (own_wk hw 29 rfl)) (own_wk hw 1 rfl) (ty := .int) (by decide) rfl rfl (g := (mkF m 55 (own_loc1 a0 p1 p2 r3 r4) [.int 2, (.ref a0)])) rfl rfl (hb hby d3_55)
  have Fw466 := x458.same W466
  have x467 := x453.wr W466
  have x468 := x454.other W466 (Or.inr (slot_ne (Or.inr (own_wk hw 13 rfl)) (Or.inl (own_wk hw 29 rfl)) (by decide) (t := (.array .int)) (t' := .int) (by decide) (by decide)))
  have x469 := x455.other W466 (Or.inr (slot_ne (Or.inr (own_wk hw 15 rfl)) (Or.inl (own_wk hw 29 rfl)) (by decide) (t := (.array .int)) (t' := .int) (by decide) (by decide)))
  have x470 := x456.other W466 (Or.inr (slot_ne (Or.inr (own_wk hw 20 rfl)) (Or.inl (own_wk hw 29 rfl)) (by decide) (t := (.array .double)) (t' := .int) (by decide) (by decide)))
  have x471 := x457.other W466 (Or.inr (slot_ne (Or.inr (own_wk hw 18 rfl)) (Or.inl (own_wk hw 29 rfl)) (by decide) (t := (.array .double)) (t' := .int) (by decide) (by decide)))
  have x472 := x459.other W466 (Or.inr (slot_ne (Or.inl (own_wk hw 36 rfl)) (Or.inl (own_wk hw 29 rfl)) (by decide) (t := .int) (t' := .int) (by decide) (by decide)))
  have x473 := x460.other W466 (Or.inr (slot_ne (Or.inr (own_wk hw 11 rfl)) (Or.inl (own_wk hw 29 rfl)) (by decide) (t := (.array .int)) (t' := .int) (by decide) (by decide)))
  have x474 := x461.other W466 (Ne.symm ne_a0_ai)
  have x475 := x462.other W466 (Ne.symm ne_a0_ak)
  have x476 := V452.other W466 (Ne.symm ne_a0_av)
  have sz477 : n0 ≤ h466.size := Nat.le_trans sz463 (Keep.of_wr W466).1
  have kp478 : Keep h0 h466 [a0, ai, ak, av] := kp464.wr W466 (Or.inl (List.mem_of_getElem? (i := 0) rfl))
  have N466 := Fr.snoc X466 N452 ge_a0
  obtain ⟨fs, hr, hrun, hended, hW, hsame⟩ := X466.leave (v := none) (fun _ => rfl)
  refine ⟨_, _, pre0 _ ?_, hrun, hended, _, _, rfl, ?_, ⟨_, rfl⟩, hW, hsame.mono (by decide) (by decide)⟩
  · show own_S p e below s₁ (mkF m 0 (own_loc1 a0 p1 p2 r3 r4) []) _
    refine XS.aloadN X0.here hx rfl (hb hby d3_0) rfl rfl ?_
    show own_S p e below s₁ (mkF m 1 (own_loc1 a0 p1 p2 r3 r4) [(.ref a0)]) _
    refine st419 _ ?_
    show own_S p e below T419 (mkF m 4 (own_loc1 a0 p1 p2 r3 r4) [(.ref ai)]) _
    refine XS.aloadN X419.here hx rfl (hb hby d3_4) rfl rfl ?_
    show own_S p e below T419 (mkF m 5 (own_loc1 a0 p1 p2 r3 r4) [(.ref a0), (.ref ai)]) _
    refine st420 _ ?_
    show own_S p e below T420 (mkF m 8 (own_loc1 a0 p1 p2 r3 r4) [.int 1, (.ref ai)]) _
    refine XS.iloadN X420.here hx rfl (hb hby d3_8) rfl ?_
    show own_S p e below T420 (mkF m 9 (own_loc1 a0 p1 p2 r3 r4) [(.int p1), .int 1, (.ref ai)]) _
    refine st421 _ ?_
    show own_S p e below T421 (mkF m 10 (own_loc1 a0 p1 p2 r3 r4) []) _
    refine XS.aloadN X421.here hx rfl (hb hby d3_10) rfl rfl ?_
    show own_S p e below T421 (mkF m 11 (own_loc1 a0 p1 p2 r3 r4) [(.ref a0)]) _
    refine st434 _ ?_
    show own_S p e below T434 (mkF m 14 (own_loc1 a0 p1 p2 r3 r4) [(.ref ak)]) _
    refine XS.aloadN X434.here hx rfl (hb hby d3_14) rfl rfl ?_
    show own_S p e below T434 (mkF m 15 (own_loc1 a0 p1 p2 r3 r4) [(.ref a0), (.ref ak)]) _
    refine st435 _ ?_
    show own_S p e below T435 (mkF m 18 (own_loc1 a0 p1 p2 r3 r4) [.int 1, (.ref ak)]) _
    refine XS.iloadN X435.here hx rfl (hb hby d3_18) rfl ?_
    show own_S p e below T435 (mkF m 19 (own_loc1 a0 p1 p2 r3 r4) [(.int p2), .int 1, (.ref ak)]) _
    refine st436 _ ?_
    show own_S p e below T436 (mkF m 20 (own_loc1 a0 p1 p2 r3 r4) []) _
    refine XS.aloadN X436.here hx rfl (hb hby d3_20) rfl rfl ?_
    show own_S p e below T436 (mkF m 21 (own_loc1 a0 p1 p2 r3 r4) [(.ref a0)]) _
    refine st449 _ ?_
    show own_S p e below T449 (mkF m 24 (own_loc1 a0 p1 p2 r3 r4) [.null]) _
    refine XS.ifnullYes X449.here hx rfl (pc0 := 24) (pc' := 37) rfl (hb hby d3_24) rfl (by decide) (by decide) ?_
    show own_S p e below T449 (mkF m 37 (own_loc1 a0 p1 p2 r3 r4) []) _
    refine XS.aloadN X449.here hx rfl (hb hby d3_37) rfl rfl ?_
    show own_S p e below T449 (mkF m 38 (own_loc1 a0 p1 p2 r3 r4) [(.ref a0)]) _
    refine st450 _ ?_
    show own_S p e below T450 (mkF m 41 (own_loc1 a0 p1 p2 r3 r4) [(.ref av)]) _
    refine XS.aloadN X450.here hx rfl (hb hby d3_41) rfl rfl ?_
    show own_S p e below T450 (mkF m 42 (own_loc1 a0 p1 p2 r3 r4) [(.ref a0), (.ref av)]) _
    refine st451 _ ?_
    show own_S p e below T451 (mkF m 45 (own_loc1 a0 p1 p2 r3 r4) [.int 1, (.ref av)]) _
    refine XS.dload X451.here hx rfl (hb hby d3_45) rfl ?_
    show own_S p e below T451 (mkF m 47 (own_loc1 a0 p1 p2 r3 r4) [(.double r4), .int 1, (.ref av)]) _
    refine st452 _ ?_
    show own_S p e below T452 (mkF m 48 (own_loc1 a0 p1 p2 r3 r4) []) _
    refine XS.aloadN X452.here hx rfl (hb hby d3_48) rfl rfl ?_
    show own_S p e below T452 (mkF m 49 (own_loc1 a0 p1 p2 r3 r4) [(.ref a0)]) _
    refine XS.dup X452.here hx rfl (hb hby d3_49) rfl rfl ?_
    show own_S p e below T452 (mkF m 50 (own_loc1 a0 p1 p2 r3 r4) [(.ref a0), (.ref a0)]) _
    refine st465 _ ?_
    show own_S p e below T465 (mkF m 53 (own_loc1 a0 p1 p2 r3 r4) [.int 1, (.ref a0)]) _
    refine XS.iconst X465.here hx rfl (hb hby d3_53) ?_
    show own_S p e below T465 (mkF m 54 (own_loc1 a0 p1 p2 r3 r4) [.int 1, .int 1, (.ref a0)]) _
    refine XS.iadd X465.here hx rfl (hb hby d3_54) rfl ?_
    show own_S p e below T465 (mkF m 55 (own_loc1 a0 p1 p2 r3 r4) [(.int ((1 : Int32) + (1 : Int32))), (.ref a0)]) _
    rw [show ((1 : Int32) + (1 : Int32)) = (2 : Int32) from by decide]
    show own_S p e below T465 (mkF m 55 (own_loc1 a0 p1 p2 r3 r4) [.int 2, (.ref a0)]) _
    refine st466 _ ?_
    show own_S p e below T466 (mkF m 58 (own_loc1 a0 p1 p2 r3 r4) []) _
    exact X466.returnOut hx Bd.returns (hb hby d3_58) hr
  · show Q3_10 Z a0 p1 p2 r3 r4 ai ak av dv az ki xi0 xi1 kk xk0 xk1 kv xv0 xv1 h0 n0 _ T466.heap _
    rw [e466]
    exact ⟨rfl, N466, kp478, x468, x469, x470, x471, x472, x473, Fw466, x474, x475, x476⟩
def Q3_11 (Z : State) (a0 : Addr) (p1 : Int32) (p2 : Int32) (r3 : UInt64) (r4 : UInt64) (ai : Addr) (ak : Addr) (asx : Addr) (av : Addr) (dv : Int32) (az : Addr) (ki : ClassId) (xi0 : Int32) (xi1 : Int32) (kk : ClassId) (xk0 : Int32) (xk1 : Int32) (ks : ClassId) (xs0 : UInt64) (xs1 : UInt64) (kv : ClassId) (xv0 : UInt64) (xv1 : UInt64) (h0 : Heap) (n0 : Nat) (v : Option Value) (h : Heap) (L : List Loc) : Prop := v = none ∧ Fr n0 L ∧ Keep h0 h [a0, ai, ak, asx, av] ∧ Fld Z h a0 "com/example/rank60/rank60/FusedList$Explanations" "inputs" "[I" (.ref ai) ∧ Fld Z h a0 "com/example/rank60/rank60/FusedList$Explanations" "ranks" "[I" (.ref ak) ∧ Fld Z h a0 "com/example/rank60/rank60/FusedList$Explanations" "scores" "[D" (.ref asx) ∧ Fld Z h a0 "com/example/rank60/rank60/FusedList$Explanations" "values" "[D" (.ref av) ∧ Fld Z h a0 "com/example/rank60/rank60/FusedList$Explanations" "documents" "I" (.int dv) ∧ Fld Z h a0 "com/example/rank60/rank60/FusedList$Explanations" "starts" "[I" (.ref az) ∧ Fld Z h a0 "com/example/rank60/rank60/FusedList$Explanations" "count" "I" (.int (2 : Int32)) ∧ Arv Z h ai ki .int (2 : Int32) [(.int xi0), (.int p1)] (.int (0 : Int32)) ∧ Arv Z h ak kk .int (2 : Int32) [(.int xk0), (.int p2)] (.int (0 : Int32)) ∧ Arv Z h asx ks .double (2 : Int32) [(.double xs0), (.double r3)] (.double (FP.l2d 0)) ∧ Arv Z h av kv .double (2 : Int32) [(.double xv0), (.double r4)] (.double (FP.l2d 0))
set_option maxRecDepth 65536 in
set_option maxHeartbeats 40000000 in
theorem rm3_11 (l : Launch) (Z : State) (ag : Array Value) (hw : ∀ d ∈ tables_1, d.before ag Z = true) (ws : List Jvm.Cond) (a0 : Addr) (p1 : Int32) (p2 : Int32) (r3 : UInt64) (r4 : UInt64) (ai : Addr) (ak : Addr) (asx : Addr) (av : Addr) (dv : Int32) (az : Addr) (ki : ClassId) (xi0 : Int32) (xi1 : Int32) (kk : ClassId) (xk0 : Int32) (xk1 : Int32) (ks : ClassId) (xs0 : UInt64) (xs1 : UInt64) (kv : ClassId) (xv0 : UInt64) (xv1 : UInt64) (h0 : Heap) (n0 : Nat) (Z0 : n0 ≤ h0.size) (E_a0 : Exa Z h0 a0 "com/example/rank60/rank60/FusedList$Explanations") (F_inputs_a0 : Fld Z h0 a0 "com/example/rank60/rank60/FusedList$Explanations" "inputs" "[I" (.ref ai)) (F_ranks_a0 : Fld Z h0 a0 "com/example/rank60/rank60/FusedList$Explanations" "ranks" "[I" (.ref ak)) (F_scores_a0 : Fld Z h0 a0 "com/example/rank60/rank60/FusedList$Explanations" "scores" "[D" (.ref asx)) (F_values_a0 : Fld Z h0 a0 "com/example/rank60/rank60/FusedList$Explanations" "values" "[D" (.ref av)) (F_count_a0 : Fld Z h0 a0 "com/example/rank60/rank60/FusedList$Explanations" "count" "I" (.int (1 : Int32))) (F_documents_a0 : Fld Z h0 a0 "com/example/rank60/rank60/FusedList$Explanations" "documents" "I" (.int dv)) (F_starts_a0 : Fld Z h0 a0 "com/example/rank60/rank60/FusedList$Explanations" "starts" "[I" (.ref az)) (V_ai : Arv Z h0 ai ki .int (2 : Int32) [(.int xi0), (.int xi1)] (.int (0 : Int32))) (V_ak : Arv Z h0 ak kk .int (2 : Int32) [(.int xk0), (.int xk1)] (.int (0 : Int32))) (V_asx : Arv Z h0 asx ks .double (2 : Int32) [(.double xs0), (.double xs1)] (.double (FP.l2d 0))) (V_av : Arv Z h0 av kv .double (2 : Int32) [(.double xv0), (.double xv1)] (.double (FP.l2d 0))) (ge_a0 : n0 ≤ a0) (ge_ai : n0 ≤ ai) (ge_ak : n0 ≤ ak) (ge_asx : n0 ≤ asx) (ge_av : n0 ≤ av) (ne_a0_ai : a0 ≠ ai) (ne_a0_ak : a0 ≠ ak) (ne_a0_asx : a0 ≠ asx) (ne_a0_av : a0 ≠ av) (ne_ai_ak : ai ≠ ak) (ne_ai_asx : ai ≠ asx) (ne_ai_av : ai ≠ av) (ne_ak_asx : ak ≠ asx) (ne_ak_av : ak ≠ av) (ne_asx_av : asx ≠ av) :
    MetFree l (⟨"com/example/rank60/rank60/FusedList$Explanations", "add", "(IIDD)V"⟩ : MethodName) (head1 (Jvm.Cond.code (⟨"com/example/rank60/rank60/FusedList$Explanations", "add", "(IIDD)V"⟩ : MethodName) prog_10_method_2_code 7 none :: ws) ({ frames := 0, cells := 0, slots := 0, locals := 0 } : Room)) (fun a U => a = #[(.ref a0), (.int p1), (.int p2), (.double r3), (.double r4)] ∧ Z.Warmed39 U.vm ∧ U.heap = h0) (fun _ _ _ _ _ => True) (fun _ U o U' => ∃ v L, o = .returned v ∧ Q3_11 Z a0 p1 p2 r3 r4 ai ak asx av dv az ki xi0 xi1 kk xk0 xk1 ks xs0 xs1 kv xv0 xv1 h0 n0 v U'.heap L ∧ FrameEnd U o U' L ({ frames := 0, cells := 0, slots := 0, locals := 0 } : Room).cells ({ frames := 0, cells := 0, slots := 0, locals := 0 } : Room).slots) := by
  refine MetFree.of_bodySF (plainFor_of_name pn_3) hisR ?_
  intro p e s m args below meth c s₁ Bd hml0 hP hK
  obtain ⟨rfl, hZ, hh⟩ := hP
  have hx := Bd.exec
  have hby := Bd.bytes
  have hml : c.maxLocals = 7 := hml0
  have hown : s.vm.findClass "com/example/rank60/rank60/FusedList$Explanations" = some m.cls := findClass_of_methodNamed Bd.named
  have hnm := (name_of_methodNamed Bd.named Bd.method).1
  have X0 : Stand p l e ({ frames := 0, cells := 0, slots := 0, locals := 0 } : Room) s m #[(.ref a0), (.int p1), (.int p2), (.double r3), (.double r4)] below meth c s₁ [] 0 0 := Stand.of_body Bd
  have e0 : s₁.heap = h0 := by rw [← hh, Bd.state]; rfl
  have N0 := Fr.nil n0
  have pre0 : ∀ t, Steps p.tables e below (s₁.setTop (mkF m 0 #[.val (.ref a0), .val (.int p1), .val (.int p2), .val (.double r3), .second, .val (.double r4), .second] [])) t → Steps p.tables e below (s₁.setTop (entryFrame m #[(.ref a0), (.int p1), (.int p2), (.double r3), (.double r4)] 7)) t := fun t k => castTop (ef_3 m a0 p1 p2 r3 r4) k
  obtain ⟨T479, X479, e479, st479⟩ := getF X0 hx hZ hown (host := "") (Or.inl (own_wk hw 12 rfl)) Via.refl e0 F_inputs_a0 (g := (mkF m 1 (own_loc1 a0 p1 p2 r3 r4) [(.ref a0)])) rfl rfl (hb hby d3_1)
  obtain ⟨T480, X480, e480, st480⟩ := getF X479 hx hZ hown (host := "") (Or.inl (own_wk hw 28 rfl)) Via.refl e479 F_count_a0 (g := (mkF m 5 (own_loc1 a0 p1 p2 r3 r4) [(.ref a0), (.ref ai)])) rfl rfl (hb hby d3_5)
  obtain ⟨cl481, Ar481, q481, S481, M481, H481, G481⟩ := id V_ai
  have hin481 : ¬ ((1 : Int32) < 0 ∨ cl481.slots.size ≤ ((1 : Int32)).toNatClampNeg) := inb_of S481 ⟨(by decide : ¬ (1 : Int32) < 0), (by decide : (1 : Int32) < (2 : Int32))⟩
  obtain ⟨T481, h481, X481, e481, W481, st481⟩ := stI X480 hx hZ e480 Ar481 (j := (1 : Int32)) hin481 (g := (mkF m 9 (own_loc1 a0 p1 p2 r3 r4) [(.int p1), .int 1, (.ref ai)])) rfl rfl (hb hby d3_9)
  have V481 : Arv Z h481 ai ki .int (2 : Int32) [(.int xi0), (.int p1)] (.int (0 : Int32)) := Arv.set Ar481 q481 S481 M481 H481 G481 rfl W481 1 rfl (Nat.le_of_ble_eq_true rfl)
  have x482 := E_a0.wr W481
  have x483 := F_inputs_a0.other W481 (Or.inl ne_a0_ai)
  have x484 := F_ranks_a0.other W481 (Or.inl ne_a0_ai)
  have x485 := F_scores_a0.other W481 (Or.inl ne_a0_ai)
  have x486 := F_values_a0.other W481 (Or.inl ne_a0_ai)
  have x487 := F_count_a0.other W481 (Or.inl ne_a0_ai)
  have x488 := F_documents_a0.other W481 (Or.inl ne_a0_ai)
  have x489 := F_starts_a0.other W481 (Or.inl ne_a0_ai)
  have x490 := V_ak.other W481 (Ne.symm ne_ai_ak)
  have x491 := V_asx.other W481 (Ne.symm ne_ai_asx)
  have x492 := V_av.other W481 (Ne.symm ne_ai_av)
  have sz493 : n0 ≤ h481.size := Nat.le_trans Z0 (Keep.of_wr W481).1
  have kp494 : Keep h0 h481 [a0, ai, ak, asx, av] := (Keep.refl h0 [a0, ai, ak, asx, av]).wr W481 (Or.inl (List.mem_of_getElem? (i := 1) rfl))
  have N481 := Fr.snoc X481 N0 ge_ai
  obtain ⟨T495, X495, e495, st495⟩ := getF X481 hx hZ hown (host := "") (Or.inl (own_wk hw 14 rfl)) Via.refl e481 x484 (g := (mkF m 11 (own_loc1 a0 p1 p2 r3 r4) [(.ref a0)])) rfl rfl (hb hby d3_11)
  obtain ⟨T496, X496, e496, st496⟩ := getF X495 hx hZ hown (host := "") (Or.inl (own_wk hw 28 rfl)) Via.refl e495 x487 (g := (mkF m 15 (own_loc1 a0 p1 p2 r3 r4) [(.ref a0), (.ref ak)])) rfl rfl (hb hby d3_15)
  obtain ⟨cl497, Ar497, q497, S497, M497, H497, G497⟩ := id x490
  have hin497 : ¬ ((1 : Int32) < 0 ∨ cl497.slots.size ≤ ((1 : Int32)).toNatClampNeg) := inb_of S497 ⟨(by decide : ¬ (1 : Int32) < 0), (by decide : (1 : Int32) < (2 : Int32))⟩
  obtain ⟨T497, h497, X497, e497, W497, st497⟩ := stI X496 hx hZ e496 Ar497 (j := (1 : Int32)) hin497 (g := (mkF m 19 (own_loc1 a0 p1 p2 r3 r4) [(.int p2), .int 1, (.ref ak)])) rfl rfl (hb hby d3_19)
  have V497 : Arv Z h497 ak kk .int (2 : Int32) [(.int xk0), (.int p2)] (.int (0 : Int32)) := Arv.set Ar497 q497 S497 M497 H497 G497 rfl W497 1 rfl (Nat.le_of_ble_eq_true rfl)
  have x498 := x482.wr W497
  have x499 := x483.other W497 (Or.inl ne_a0_ak)
  have x500 := x484.other W497 (Or.inl ne_a0_ak)
  have x501 := x485.other W497 (Or.inl ne_a0_ak)
  have x502 := x486.other W497 (Or.inl ne_a0_ak)
  have x503 := x487.other W497 (Or.inl ne_a0_ak)
  have x504 := x488.other W497 (Or.inl ne_a0_ak)
  have x505 := x489.other W497 (Or.inl ne_a0_ak)
  have x506 := x491.other W497 (Ne.symm ne_ak_asx)
  have x507 := x492.other W497 (Ne.symm ne_ak_av)
  have x508 := V481.other W497 ne_ai_ak
  have sz509 : n0 ≤ h497.size := Nat.le_trans sz493 (Keep.of_wr W497).1
  have kp510 : Keep h0 h497 [a0, ai, ak, asx, av] := kp494.wr W497 (Or.inl (List.mem_of_getElem? (i := 2) rfl))
  have N497 := Fr.snoc X497 N481 ge_ak
  obtain ⟨T511, X511, e511, st511⟩ := getF X497 hx hZ hown (host := "") (Or.inl (own_wk hw 17 rfl)) Via.refl e497 x501 (g := (mkF m 21 (own_loc1 a0 p1 p2 r3 r4) [(.ref a0)])) rfl rfl (hb hby d3_21)
  obtain ⟨T512, X512, e512, st512⟩ := getF X511 hx hZ hown (host := "") (Or.inl (own_wk hw 17 rfl)) Via.refl e511 x501 (g := (mkF m 28 (own_loc1 a0 p1 p2 r3 r4) [(.ref a0)])) rfl rfl (hb hby d3_28)
  obtain ⟨T513, X513, e513, st513⟩ := getF X512 hx hZ hown (host := "") (Or.inl (own_wk hw 28 rfl)) Via.refl e512 x503 (g := (mkF m 32 (own_loc1 a0 p1 p2 r3 r4) [(.ref a0), (.ref asx)])) rfl rfl (hb hby d3_32)
  obtain ⟨cl514, Ar514, q514, S514, M514, H514, G514⟩ := id x506
  have hin514 : ¬ ((1 : Int32) < 0 ∨ cl514.slots.size ≤ ((1 : Int32)).toNatClampNeg) := inb_of S514 ⟨(by decide : ¬ (1 : Int32) < 0), (by decide : (1 : Int32) < (2 : Int32))⟩
  obtain ⟨T514, h514, X514, e514, W514, st514⟩ := stD X513 hx hZ e513 Ar514 (j := (1 : Int32)) hin514 (g := (mkF m 36 (own_loc1 a0 p1 p2 r3 r4) [(.double r3), .int 1, (.ref asx)])) rfl rfl (hb hby d3_36)
  have V514 : Arv Z h514 asx ks .double (2 : Int32) [(.double xs0), (.double r3)] (.double (FP.l2d 0)) := Arv.set Ar514 q514 S514 M514 H514 G514 rfl W514 1 rfl (Nat.le_of_ble_eq_true rfl)
  have x515 := x498.wr W514
  have x516 := x499.other W514 (Or.inl ne_a0_asx)
  have x517 := x500.other W514 (Or.inl ne_a0_asx)
  have x518 := x501.other W514 (Or.inl ne_a0_asx)
  have x519 := x502.other W514 (Or.inl ne_a0_asx)
  have x520 := x503.other W514 (Or.inl ne_a0_asx)
  have x521 := x504.other W514 (Or.inl ne_a0_asx)
  have x522 := x505.other W514 (Or.inl ne_a0_asx)
  have x523 := x507.other W514 (Ne.symm ne_asx_av)
  have x524 := x508.other W514 ne_ai_asx
  have x525 := V497.other W514 ne_ak_asx
  have sz526 : n0 ≤ h514.size := Nat.le_trans sz509 (Keep.of_wr W514).1
  have kp527 : Keep h0 h514 [a0, ai, ak, asx, av] := kp510.wr W514 (Or.inl (List.mem_of_getElem? (i := 3) rfl))
  have N514 := Fr.snoc X514 N497 ge_asx
  obtain ⟨T528, X528, e528, st528⟩ := getF X514 hx hZ hown (host := "") (Or.inl (own_wk hw 19 rfl)) Via.refl e514 x519 (g := (mkF m 38 (own_loc1 a0 p1 p2 r3 r4) [(.ref a0)])) rfl rfl (hb hby d3_38)
  obtain ⟨T529, X529, e529, st529⟩ := getF X528 hx hZ hown (host := "") (Or.inl (own_wk hw 28 rfl)) Via.refl e528 x520 (g := (mkF m 42 (own_loc1 a0 p1 p2 r3 r4) [(.ref a0), (.ref av)])) rfl rfl (hb hby d3_42)
  obtain ⟨cl530, Ar530, q530, S530, M530, H530, G530⟩ := id x523
  have hin530 : ¬ ((1 : Int32) < 0 ∨ cl530.slots.size ≤ ((1 : Int32)).toNatClampNeg) := inb_of S530 ⟨(by decide : ¬ (1 : Int32) < 0), (by decide : (1 : Int32) < (2 : Int32))⟩
  obtain ⟨T530, h530, X530, e530, W530, st530⟩ := stD X529 hx hZ e529 Ar530 (j := (1 : Int32)) hin530 (g := (mkF m 47 (own_loc1 a0 p1 p2 r3 r4) [(.double r4), .int 1, (.ref av)])) rfl rfl (hb hby d3_47)
  have V530 : Arv Z h530 av kv .double (2 : Int32) [(.double xv0), (.double r4)] (.double (FP.l2d 0)) := Arv.set Ar530 q530 S530 M530 H530 G530 rfl W530 1 rfl (Nat.le_of_ble_eq_true rfl)
  have x531 := x515.wr W530
  have x532 := x516.other W530 (Or.inl ne_a0_av)
  have x533 := x517.other W530 (Or.inl ne_a0_av)
  have x534 := x518.other W530 (Or.inl ne_a0_av)
  have x535 := x519.other W530 (Or.inl ne_a0_av)
  have x536 := x520.other W530 (Or.inl ne_a0_av)
  have x537 := x521.other W530 (Or.inl ne_a0_av)
  have x538 := x522.other W530 (Or.inl ne_a0_av)
  have x539 := x524.other W530 ne_ai_av
  have x540 := x525.other W530 ne_ak_av
  have x541 := V514.other W530 ne_asx_av
  have sz542 : n0 ≤ h530.size := Nat.le_trans sz526 (Keep.of_wr W530).1
  have kp543 : Keep h0 h530 [a0, ai, ak, asx, av] := kp527.wr W530 (Or.inl (List.mem_of_getElem? (i := 4) rfl))
  have N530 := Fr.snoc X530 N514 ge_av
  obtain ⟨T544, X544, e544, st544⟩ := getF X530 hx hZ hown (host := "") (Or.inl (own_wk hw 28 rfl)) Via.refl e530 x536 (g := (mkF m 50 (own_loc1 a0 p1 p2 r3 r4) [(.ref a0), (.ref a0)])) rfl rfl (hb hby d3_50)
  obtain ⟨T545, h545, X545, e545, W545, st545⟩ := putF X544 hx hZ hown (host := "") (Or.inl (own_wk hw 28 rfl)) Via.refl e544 x536 x531 (Or.inl (own_wk hw 29 rfl)) (own_wk hw 1 rfl) (ty := .int) (by decide) rfl rfl (g := (mkF m 55 (own_loc1 a0 p1 p2 r3 r4) [.int 2, (.ref a0)])) rfl rfl (hb hby d3_55)
  have Fw545 := x536.same W545
  have x546 := x531.wr W545
  have x547 := x532.other W545 (Or.inr (slot_ne (Or.inr (own_wk hw 13 rfl)) (Or.inl (own_wk hw 29 rfl)) (by decide) (t := (.array .int)) (t' := .int) (by decide) (by decide)))
  have x548 := x533.other W545 (Or.inr (slot_ne (Or.inr (own_wk hw 15 rfl)) (Or.inl (own_wk hw 29 rfl)) (by decide) (t := (.array .int)) (t' := .int) (by decide) (by decide)))
  have x549 := x534.other W545 (Or.inr (slot_ne (Or.inr (own_wk hw 18 rfl)) (Or.inl (own_wk hw 29 rfl)) (by decide) (t := (.array .double)) (t' := .int) (by decide) (by decide)))
  have x550 := x535.other W545 (Or.inr (slot_ne (Or.inr (own_wk hw 20 rfl)) (Or.inl (own_wk hw 29 rfl)) (by decide) (t := (.array .double)) (t' := .int) (by decide) (by decide)))
  have x551 := x537.other W545 (Or.inr (slot_ne (Or.inl (own_wk hw 36 rfl)) (Or.inl (own_wk hw 29 rfl)) (by decide) (t := .int) (t' := .int) (by decide) (by decide)))
  have x552 := x538.other W545 (Or.inr (slot_ne (Or.inr (own_wk hw 11 rfl)) (Or.inl (own_wk hw 29 rfl)) (by decide) (t := (.array .int)) (t' := .int) (by decide) (by decide)))
  have x553 := x539.other W545 (Ne.symm ne_a0_ai)
  have x554 := x540.other W545 (Ne.symm ne_a0_ak)
  have x555 := x541.other W545 (Ne.symm ne_a0_asx)
  have x556 := V530.other W545 (Ne.symm ne_a0_av)
  have sz557 : n0 ≤ h545.size := Nat.le_trans sz542 (Keep.of_wr W545).1
  have kp558 : Keep h0 h545 [a0, ai, ak, asx, av] := kp543.wr W545 (Or.inl (List.mem_of_getElem? (i := 0) rfl))
  have N545 := Fr.snoc X545 N530 ge_a0
  obtain ⟨fs, hr, hrun, hended, hW, hsame⟩ := X545.leave (v := none) (fun _ => rfl)
  refine ⟨_, _, pre0 _ ?_, hrun, hended, _, _, rfl, ?_, ⟨_, rfl⟩, hW, hsame.mono (by decide) (by decide)⟩
  · show own_S p e below s₁ (mkF m 0 (own_loc1 a0 p1 p2 r3 r4) []) _
    refine XS.aloadN X0.here hx rfl (hb hby d3_0) rfl rfl ?_
    show own_S p e below s₁ (mkF m 1 (own_loc1 a0 p1 p2 r3 r4) [(.ref a0)]) _
    refine st479 _ ?_
    show own_S p e below T479 (mkF m 4 (own_loc1 a0 p1 p2 r3 r4) [(.ref ai)]) _
    refine XS.aloadN X479.here hx rfl (hb hby d3_4) rfl rfl ?_
    show own_S p e below T479 (mkF m 5 (own_loc1 a0 p1 p2 r3 r4) [(.ref a0), (.ref ai)]) _
    refine st480 _ ?_
    show own_S p e below T480 (mkF m 8 (own_loc1 a0 p1 p2 r3 r4) [.int 1, (.ref ai)]) _
    refine XS.iloadN X480.here hx rfl (hb hby d3_8) rfl ?_
    show own_S p e below T480 (mkF m 9 (own_loc1 a0 p1 p2 r3 r4) [(.int p1), .int 1, (.ref ai)]) _
    refine st481 _ ?_
    show own_S p e below T481 (mkF m 10 (own_loc1 a0 p1 p2 r3 r4) []) _
    refine XS.aloadN X481.here hx rfl (hb hby d3_10) rfl rfl ?_
    show own_S p e below T481 (mkF m 11 (own_loc1 a0 p1 p2 r3 r4) [(.ref a0)]) _
    refine st495 _ ?_
    show own_S p e below T495 (mkF m 14 (own_loc1 a0 p1 p2 r3 r4) [(.ref ak)]) _
    refine XS.aloadN X495.here hx rfl (hb hby d3_14) rfl rfl ?_
    show own_S p e below T495 (mkF m 15 (own_loc1 a0 p1 p2 r3 r4) [(.ref a0), (.ref ak)]) _
    refine st496 _ ?_
    show own_S p e below T496 (mkF m 18 (own_loc1 a0 p1 p2 r3 r4) [.int 1, (.ref ak)]) _
    refine XS.iloadN X496.here hx rfl (hb hby d3_18) rfl ?_
    show own_S p e below T496 (mkF m 19 (own_loc1 a0 p1 p2 r3 r4) [(.int p2), .int 1, (.ref ak)]) _
    refine st497 _ ?_
    show own_S p e below T497 (mkF m 20 (own_loc1 a0 p1 p2 r3 r4) []) _
    refine XS.aloadN X497.here hx rfl (hb hby d3_20) rfl rfl ?_
    show own_S p e below T497 (mkF m 21 (own_loc1 a0 p1 p2 r3 r4) [(.ref a0)]) _
    refine st511 _ ?_
    show own_S p e below T511 (mkF m 24 (own_loc1 a0 p1 p2 r3 r4) [(.ref asx)]) _
    refine XS.ifnullNo X511.here hx rfl (hb hby d3_24) rfl ?_
    show own_S p e below T511 (mkF m 27 (own_loc1 a0 p1 p2 r3 r4) []) _
    refine XS.aloadN X511.here hx rfl (hb hby d3_27) rfl rfl ?_
    show own_S p e below T511 (mkF m 28 (own_loc1 a0 p1 p2 r3 r4) [(.ref a0)]) _
    refine st512 _ ?_
    show own_S p e below T512 (mkF m 31 (own_loc1 a0 p1 p2 r3 r4) [(.ref asx)]) _
    refine XS.aloadN X512.here hx rfl (hb hby d3_31) rfl rfl ?_
    show own_S p e below T512 (mkF m 32 (own_loc1 a0 p1 p2 r3 r4) [(.ref a0), (.ref asx)]) _
    refine st513 _ ?_
    show own_S p e below T513 (mkF m 35 (own_loc1 a0 p1 p2 r3 r4) [.int 1, (.ref asx)]) _
    refine XS.dloadN X513.here hx rfl (hb hby d3_35) rfl ?_
    show own_S p e below T513 (mkF m 36 (own_loc1 a0 p1 p2 r3 r4) [(.double r3), .int 1, (.ref asx)]) _
    refine st514 _ ?_
    show own_S p e below T514 (mkF m 37 (own_loc1 a0 p1 p2 r3 r4) []) _
    refine XS.aloadN X514.here hx rfl (hb hby d3_37) rfl rfl ?_
    show own_S p e below T514 (mkF m 38 (own_loc1 a0 p1 p2 r3 r4) [(.ref a0)]) _
    refine st528 _ ?_
    show own_S p e below T528 (mkF m 41 (own_loc1 a0 p1 p2 r3 r4) [(.ref av)]) _
    refine XS.aloadN X528.here hx rfl (hb hby d3_41) rfl rfl ?_
    show own_S p e below T528 (mkF m 42 (own_loc1 a0 p1 p2 r3 r4) [(.ref a0), (.ref av)]) _
    refine st529 _ ?_
    show own_S p e below T529 (mkF m 45 (own_loc1 a0 p1 p2 r3 r4) [.int 1, (.ref av)]) _
    refine XS.dload X529.here hx rfl (hb hby d3_45) rfl ?_
    show own_S p e below T529 (mkF m 47 (own_loc1 a0 p1 p2 r3 r4) [(.double r4), .int 1, (.ref av)]) _
    refine st530 _ ?_
    show own_S p e below T530 (mkF m 48 (own_loc1 a0 p1 p2 r3 r4) []) _
    refine XS.aloadN X530.here hx rfl (hb hby d3_48) rfl rfl ?_
    show own_S p e below T530 (mkF m 49 (own_loc1 a0 p1 p2 r3 r4) [(.ref a0)]) _
    refine XS.dup X530.here hx rfl (hb hby d3_49) rfl rfl ?_
    show own_S p e below T530 (mkF m 50 (own_loc1 a0 p1 p2 r3 r4) [(.ref a0), (.ref a0)]) _
    refine st544 _ ?_
    show own_S p e below T544 (mkF m 53 (own_loc1 a0 p1 p2 r3 r4) [.int 1, (.ref a0)]) _
    refine XS.iconst X544.here hx rfl (hb hby d3_53) ?_
    show own_S p e below T544 (mkF m 54 (own_loc1 a0 p1 p2 r3 r4) [.int 1, .int 1, (.ref a0)]) _
    refine XS.iadd X544.here hx rfl (hb hby d3_54) rfl ?_
    show own_S p e below T544 (mkF m 55 (own_loc1 a0 p1 p2 r3 r4) [(.int ((1 : Int32) + (1 : Int32))), (.ref a0)]) _
    rw [show ((1 : Int32) + (1 : Int32)) = (2 : Int32) from by decide]
    show own_S p e below T544 (mkF m 55 (own_loc1 a0 p1 p2 r3 r4) [.int 2, (.ref a0)]) _
    refine st545 _ ?_
    show own_S p e below T545 (mkF m 58 (own_loc1 a0 p1 p2 r3 r4) []) _
    exact X545.returnOut hx Bd.returns (hb hby d3_58) hr
  · show Q3_11 Z a0 p1 p2 r3 r4 ai ak asx av dv az ki xi0 xi1 kk xk0 xk1 ks xs0 xs1 kv xv0 xv1 h0 n0 _ T545.heap _
    rw [e545]
    exact ⟨rfl, N545, kp558, x547, x548, x549, x550, x551, x552, Fw545, x553, x554, x555, x556⟩
theorem ef_4 (m : MethodId) (a0 : Addr) : entryFrame m #[(.ref a0)] 1 = mkF m 0 #[.val (.ref a0)] [] := by first | (simp [entryFrame, mkF, argsToLocals, Value.category]; done) | rfl
theorem d4_0 : decode prog_10_method_3_code 0 = .ok (.aload_n 0, 1) := by decide +kernel
theorem d4_1 : decode prog_10_method_3_code 1 = .ok (.dup, 1) := by decide +kernel
theorem d4_2 : decode prog_10_method_3_code 2 = .ok (.getfield 30, 3) := by decide +kernel
theorem d4_5 : decode prog_10_method_3_code 5 = .ok (.iconst 1, 1) := by decide +kernel
theorem d4_6 : decode prog_10_method_3_code 6 = .ok (.iadd, 1) := by decide +kernel
theorem d4_7 : decode prog_10_method_3_code 7 = .ok (.putfield 30, 3) := by decide +kernel
theorem d4_10 : decode prog_10_method_3_code 10 = .ok (.aload_n 0, 1) := by decide +kernel
theorem d4_11 : decode prog_10_method_3_code 11 = .ok (.getfield 7, 3) := by decide +kernel
theorem d4_14 : decode prog_10_method_3_code 14 = .ok (.aload_n 0, 1) := by decide +kernel
theorem d4_15 : decode prog_10_method_3_code 15 = .ok (.getfield 30, 3) := by decide +kernel
theorem d4_18 : decode prog_10_method_3_code 18 = .ok (.aload_n 0, 1) := by decide +kernel
theorem d4_19 : decode prog_10_method_3_code 19 = .ok (.getfield 26, 3) := by decide +kernel
theorem d4_22 : decode prog_10_method_3_code 22 = .ok (.iastore, 1) := by decide +kernel
theorem d4_23 : decode prog_10_method_3_code 23 = .ok (.return_, 1) := by decide +kernel
def Q4_0 (Z : State) (a0 : Addr) (az : Addr) (cv : Int32) (ai : Addr) (ak : Addr) (av : Addr) (sv : Value) (kt : ClassId) (x0 : Int32) (x1 : Int32) (x2 : Int32) (h0 : Heap) (n0 : Nat) (v : Option Value) (h : Heap) (L : List Loc) : Prop := v = none ∧ Fr n0 L ∧ Keep h0 h [a0, az] ∧ Fld Z h a0 "com/example/rank60/rank60/FusedList$Explanations" "starts" "[I" (.ref az) ∧ Fld Z h a0 "com/example/rank60/rank60/FusedList$Explanations" "documents" "I" (.int (1 : Int32)) ∧ Fld Z h a0 "com/example/rank60/rank60/FusedList$Explanations" "count" "I" (.int cv) ∧ Fld Z h a0 "com/example/rank60/rank60/FusedList$Explanations" "inputs" "[I" (.ref ai) ∧ Fld Z h a0 "com/example/rank60/rank60/FusedList$Explanations" "ranks" "[I" (.ref ak) ∧ Fld Z h a0 "com/example/rank60/rank60/FusedList$Explanations" "values" "[D" (.ref av) ∧ Fld Z h a0 "com/example/rank60/rank60/FusedList$Explanations" "scores" "[D" sv ∧ Arv Z h az kt .int (3 : Int32) [(.int x0), (.int cv), (.int x2)] (.int (0 : Int32))
set_option maxRecDepth 65536 in
set_option maxHeartbeats 40000000 in
theorem rm4_0 (l : Launch) (Z : State) (ag : Array Value) (hw : ∀ d ∈ tables_1, d.before ag Z = true) (ws : List Jvm.Cond) (a0 : Addr) (az : Addr) (cv : Int32) (ai : Addr) (ak : Addr) (av : Addr) (sv : Value) (kt : ClassId) (x0 : Int32) (x1 : Int32) (x2 : Int32) (h0 : Heap) (n0 : Nat) (Z0 : n0 ≤ h0.size) (E_a0 : Exa Z h0 a0 "com/example/rank60/rank60/FusedList$Explanations") (F_starts_a0 : Fld Z h0 a0 "com/example/rank60/rank60/FusedList$Explanations" "starts" "[I" (.ref az)) (F_documents_a0 : Fld Z h0 a0 "com/example/rank60/rank60/FusedList$Explanations" "documents" "I" (.int (0 : Int32))) (F_count_a0 : Fld Z h0 a0 "com/example/rank60/rank60/FusedList$Explanations" "count" "I" (.int cv)) (F_inputs_a0 : Fld Z h0 a0 "com/example/rank60/rank60/FusedList$Explanations" "inputs" "[I" (.ref ai)) (F_ranks_a0 : Fld Z h0 a0 "com/example/rank60/rank60/FusedList$Explanations" "ranks" "[I" (.ref ak)) (F_values_a0 : Fld Z h0 a0 "com/example/rank60/rank60/FusedList$Explanations" "values" "[D" (.ref av)) (F_scores_a0 : Fld Z h0 a0 "com/example/rank60/rank60/FusedList$Explanations" "scores" "[D" sv) (V_az : Arv Z h0 az kt .int (3 : Int32) [(.int x0), (.int x1), (.int x2)] (.int (0 : Int32))) (ge_a0 : n0 ≤ a0) (ge_az : n0 ≤ az) (ne_a0_az : a0 ≠ az) :
    MetFree l (⟨"com/example/rank60/rank60/FusedList$Explanations", "endDocument", "()V"⟩ : MethodName) (head1 (Jvm.Cond.code (⟨"com/example/rank60/rank60/FusedList$Explanations", "endDocument", "()V"⟩ : MethodName) prog_10_method_3_code 1 none :: ws) ({ frames := 0, cells := 0, slots := 0, locals := 0 } : Room)) (fun a U => a = #[(.ref a0)] ∧ Z.Warmed39 U.vm ∧ U.heap = h0) (fun _ _ _ _ _ => True) (fun _ U o U' => ∃ v L, o = .returned v ∧ Q4_0 Z a0 az cv ai ak av sv kt x0 x1 x2 h0 n0 v U'.heap L ∧ FrameEnd U o U' L ({ frames := 0, cells := 0, slots := 0, locals := 0 } : Room).cells ({ frames := 0, cells := 0, slots := 0, locals := 0 } : Room).slots) := by
  refine MetFree.of_bodySF (plainFor_of_name pn_3) hisR ?_
  intro p e s m args below meth c s₁ Bd hml0 hP hK
  obtain ⟨rfl, hZ, hh⟩ := hP
  have hx := Bd.exec
  have hby := Bd.bytes
  have hml : c.maxLocals = 1 := hml0
  have hown : s.vm.findClass "com/example/rank60/rank60/FusedList$Explanations" = some m.cls := findClass_of_methodNamed Bd.named
  have hnm := (name_of_methodNamed Bd.named Bd.method).1
  have X0 : Stand p l e ({ frames := 0, cells := 0, slots := 0, locals := 0 } : Room) s m #[(.ref a0)] below meth c s₁ [] 0 0 := Stand.of_body Bd
  have e0 : s₁.heap = h0 := by rw [← hh, Bd.state]; rfl
  have N0 := Fr.nil n0
  have pre0 : ∀ t, Steps p.tables e below (s₁.setTop (mkF m 0 #[.val (.ref a0)] [])) t → Steps p.tables e below (s₁.setTop (entryFrame m #[(.ref a0)] 1)) t := fun t k => castTop (ef_4 m a0) k
  obtain ⟨T559, X559, e559, st559⟩ := getF X0 hx hZ hown (host := "") (Or.inl (own_wk hw 35 rfl)) Via.refl e0 F_documents_a0 (g := (mkF m 2 #[.val (.ref a0)] [(.ref a0), (.ref a0)])) rfl rfl (hb hby d4_2)
  obtain ⟨T560, h560, X560, e560, W560, st560⟩ := putF X559 hx hZ hown (host := "") (Or.inl (own_wk hw 35 rfl)) Via.refl e559 F_documents_a0 E_a0 (Or.inl (own_wk hw 36 rfl)) (own_wk hw 1 rfl) (ty := .int) (by decide) rfl rfl (g := (mkF m 7 #[.val (.ref a0)] [.int 1, (.ref a0)])) rfl rfl (hb hby d4_7)
  have Fw560 := F_documents_a0.same W560
  have x561 := E_a0.wr W560
  have x562 := F_starts_a0.other W560 (Or.inr (slot_ne (Or.inr (own_wk hw 11 rfl)) (Or.inl (own_wk hw 36 rfl)) (by decide) (t := (.array .int)) (t' := .int) (by decide) (by decide)))
  have x563 := F_count_a0.other W560 (Or.inr (slot_ne (Or.inl (own_wk hw 29 rfl)) (Or.inl (own_wk hw 36 rfl)) (by decide) (t := .int) (t' := .int) (by decide) (by decide)))
  have x564 := F_inputs_a0.other W560 (Or.inr (slot_ne (Or.inr (own_wk hw 13 rfl)) (Or.inl (own_wk hw 36 rfl)) (by decide) (t := (.array .int)) (t' := .int) (by decide) (by decide)))
  have x565 := F_ranks_a0.other W560 (Or.inr (slot_ne (Or.inr (own_wk hw 15 rfl)) (Or.inl (own_wk hw 36 rfl)) (by decide) (t := (.array .int)) (t' := .int) (by decide) (by decide)))
  have x566 := F_values_a0.other W560 (Or.inr (slot_ne (Or.inr (own_wk hw 20 rfl)) (Or.inl (own_wk hw 36 rfl)) (by decide) (t := (.array .double)) (t' := .int) (by decide) (by decide)))
  have x567 := F_scores_a0.other W560 (Or.inr (slot_ne (Or.inr (own_wk hw 18 rfl)) (Or.inl (own_wk hw 36 rfl)) (by decide) (t := (.array .double)) (t' := .int) (by decide) (by decide)))
  have x568 := V_az.other W560 (Ne.symm ne_a0_az)
  have sz569 : n0 ≤ h560.size := Nat.le_trans Z0 (Keep.of_wr W560).1
  have kp570 : Keep h0 h560 [a0, az] := (Keep.refl h0 [a0, az]).wr W560 (Or.inl (List.mem_of_getElem? (i := 0) rfl))
  have N560 := Fr.snoc X560 N0 ge_a0
  obtain ⟨T571, X571, e571, st571⟩ := getF X560 hx hZ hown (host := "") (Or.inl (own_wk hw 10 rfl)) Via.refl e560 x562 (g := (mkF m 11 #[.val (.ref a0)] [(.ref a0)])) rfl rfl (hb hby d4_11)
  obtain ⟨T572, X572, e572, st572⟩ := getF X571 hx hZ hown (host := "") (Or.inl (own_wk hw 35 rfl)) Via.refl e571 Fw560 (g := (mkF m 15 #[.val (.ref a0)] [(.ref a0), (.ref az)])) rfl rfl (hb hby d4_15)
  obtain ⟨T573, X573, e573, st573⟩ := getF X572 hx hZ hown (host := "") (Or.inl (own_wk hw 28 rfl)) Via.refl e572 x563 (g := (mkF m 19 #[.val (.ref a0)] [(.ref a0), .int 1, (.ref az)])) rfl rfl (hb hby d4_19)
  obtain ⟨cl574, Ar574, q574, S574, M574, H574, G574⟩ := id x568
  have hin574 : ¬ ((1 : Int32) < 0 ∨ cl574.slots.size ≤ ((1 : Int32)).toNatClampNeg) := inb_of S574 ⟨(by decide : ¬ (1 : Int32) < 0), (by decide : (1 : Int32) < (3 : Int32))⟩
  obtain ⟨T574, h574, X574, e574, W574, st574⟩ := stI X573 hx hZ e573 Ar574 (j := (1 : Int32)) hin574 (g := (mkF m 22 #[.val (.ref a0)] [(.int cv), .int 1, (.ref az)])) rfl rfl (hb hby d4_22)
  have V574 : Arv Z h574 az kt .int (3 : Int32) [(.int x0), (.int cv), (.int x2)] (.int (0 : Int32)) := Arv.set Ar574 q574 S574 M574 H574 G574 rfl W574 1 rfl (Nat.le_of_ble_eq_true rfl)
  have x575 := x561.wr W574
  have x576 := x562.other W574 (Or.inl ne_a0_az)
  have x577 := x563.other W574 (Or.inl ne_a0_az)
  have x578 := x564.other W574 (Or.inl ne_a0_az)
  have x579 := x565.other W574 (Or.inl ne_a0_az)
  have x580 := x566.other W574 (Or.inl ne_a0_az)
  have x581 := x567.other W574 (Or.inl ne_a0_az)
  have x582 := Fw560.other W574 (Or.inl ne_a0_az)
  have sz583 : n0 ≤ h574.size := Nat.le_trans sz569 (Keep.of_wr W574).1
  have kp584 : Keep h0 h574 [a0, az] := kp570.wr W574 (Or.inl (List.mem_of_getElem? (i := 1) rfl))
  have N574 := Fr.snoc X574 N560 ge_az
  obtain ⟨fs, hr, hrun, hended, hW, hsame⟩ := X574.leave (v := none) (fun _ => rfl)
  refine ⟨_, _, pre0 _ ?_, hrun, hended, _, _, rfl, ?_, ⟨_, rfl⟩, hW, hsame.mono (by decide) (by decide)⟩
  · show own_S p e below s₁ (mkF m 0 #[.val (.ref a0)] []) _
    refine XS.aloadN X0.here hx rfl (hb hby d4_0) rfl rfl ?_
    show own_S p e below s₁ (mkF m 1 #[.val (.ref a0)] [(.ref a0)]) _
    refine XS.dup X0.here hx rfl (hb hby d4_1) rfl rfl ?_
    show own_S p e below s₁ (mkF m 2 #[.val (.ref a0)] [(.ref a0), (.ref a0)]) _
    refine st559 _ ?_
    show own_S p e below T559 (mkF m 5 #[.val (.ref a0)] [.int 0, (.ref a0)]) _
    refine XS.iconst X559.here hx rfl (hb hby d4_5) ?_
    show own_S p e below T559 (mkF m 6 #[.val (.ref a0)] [.int 1, .int 0, (.ref a0)]) _
    refine XS.iadd X559.here hx rfl (hb hby d4_6) rfl ?_
    show own_S p e below T559 (mkF m 7 #[.val (.ref a0)] [(.int ((0 : Int32) + (1 : Int32))), (.ref a0)]) _
    rw [show ((0 : Int32) + (1 : Int32)) = (1 : Int32) from by decide]
    show own_S p e below T559 (mkF m 7 #[.val (.ref a0)] [.int 1, (.ref a0)]) _
    refine st560 _ ?_
    show own_S p e below T560 (mkF m 10 #[.val (.ref a0)] []) _
    refine XS.aloadN X560.here hx rfl (hb hby d4_10) rfl rfl ?_
    show own_S p e below T560 (mkF m 11 #[.val (.ref a0)] [(.ref a0)]) _
    refine st571 _ ?_
    show own_S p e below T571 (mkF m 14 #[.val (.ref a0)] [(.ref az)]) _
    refine XS.aloadN X571.here hx rfl (hb hby d4_14) rfl rfl ?_
    show own_S p e below T571 (mkF m 15 #[.val (.ref a0)] [(.ref a0), (.ref az)]) _
    refine st572 _ ?_
    show own_S p e below T572 (mkF m 18 #[.val (.ref a0)] [.int 1, (.ref az)]) _
    refine XS.aloadN X572.here hx rfl (hb hby d4_18) rfl rfl ?_
    show own_S p e below T572 (mkF m 19 #[.val (.ref a0)] [(.ref a0), .int 1, (.ref az)]) _
    refine st573 _ ?_
    show own_S p e below T573 (mkF m 22 #[.val (.ref a0)] [(.int cv), .int 1, (.ref az)]) _
    refine st574 _ ?_
    show own_S p e below T574 (mkF m 23 #[.val (.ref a0)] []) _
    exact X574.returnOut hx Bd.returns (hb hby d4_23) hr
  · show Q4_0 Z a0 az cv ai ak av sv kt x0 x1 x2 h0 n0 _ T574.heap _
    rw [e574]
    exact ⟨rfl, N574, kp584, x576, x582, x577, x578, x579, x580, x581, V574⟩
def Q4_1 (Z : State) (a0 : Addr) (az : Addr) (cv : Int32) (ai : Addr) (ak : Addr) (av : Addr) (sv : Value) (kt : ClassId) (x0 : Int32) (x1 : Int32) (x2 : Int32) (h0 : Heap) (n0 : Nat) (v : Option Value) (h : Heap) (L : List Loc) : Prop := v = none ∧ Fr n0 L ∧ Keep h0 h [a0, az] ∧ Fld Z h a0 "com/example/rank60/rank60/FusedList$Explanations" "starts" "[I" (.ref az) ∧ Fld Z h a0 "com/example/rank60/rank60/FusedList$Explanations" "documents" "I" (.int (2 : Int32)) ∧ Fld Z h a0 "com/example/rank60/rank60/FusedList$Explanations" "count" "I" (.int cv) ∧ Fld Z h a0 "com/example/rank60/rank60/FusedList$Explanations" "inputs" "[I" (.ref ai) ∧ Fld Z h a0 "com/example/rank60/rank60/FusedList$Explanations" "ranks" "[I" (.ref ak) ∧ Fld Z h a0 "com/example/rank60/rank60/FusedList$Explanations" "values" "[D" (.ref av) ∧ Fld Z h a0 "com/example/rank60/rank60/FusedList$Explanations" "scores" "[D" sv ∧ Arv Z h az kt .int (3 : Int32) [(.int x0), (.int x1), (.int cv)] (.int (0 : Int32))
set_option maxRecDepth 65536 in
set_option maxHeartbeats 40000000 in
theorem rm4_1 (l : Launch) (Z : State) (ag : Array Value) (hw : ∀ d ∈ tables_1, d.before ag Z = true) (ws : List Jvm.Cond) (a0 : Addr) (az : Addr) (cv : Int32) (ai : Addr) (ak : Addr) (av : Addr) (sv : Value) (kt : ClassId) (x0 : Int32) (x1 : Int32) (x2 : Int32) (h0 : Heap) (n0 : Nat) (Z0 : n0 ≤ h0.size) (E_a0 : Exa Z h0 a0 "com/example/rank60/rank60/FusedList$Explanations") (F_starts_a0 : Fld Z h0 a0 "com/example/rank60/rank60/FusedList$Explanations" "starts" "[I" (.ref az)) (F_documents_a0 : Fld Z h0 a0 "com/example/rank60/rank60/FusedList$Explanations" "documents" "I" (.int (1 : Int32))) (F_count_a0 : Fld Z h0 a0 "com/example/rank60/rank60/FusedList$Explanations" "count" "I" (.int cv)) (F_inputs_a0 : Fld Z h0 a0 "com/example/rank60/rank60/FusedList$Explanations" "inputs" "[I" (.ref ai)) (F_ranks_a0 : Fld Z h0 a0 "com/example/rank60/rank60/FusedList$Explanations" "ranks" "[I" (.ref ak)) (F_values_a0 : Fld Z h0 a0 "com/example/rank60/rank60/FusedList$Explanations" "values" "[D" (.ref av)) (F_scores_a0 : Fld Z h0 a0 "com/example/rank60/rank60/FusedList$Explanations" "scores" "[D" sv) (V_az : Arv Z h0 az kt .int (3 : Int32) [(.int x0), (.int x1), (.int x2)] (.int (0 : Int32))) (ge_a0 : n0 ≤ a0) (ge_az : n0 ≤ az) (ne_a0_az : a0 ≠ az) :
    MetFree l (⟨"com/example/rank60/rank60/FusedList$Explanations", "endDocument", "()V"⟩ : MethodName) (head1 (Jvm.Cond.code (⟨"com/example/rank60/rank60/FusedList$Explanations", "endDocument", "()V"⟩ : MethodName) prog_10_method_3_code 1 none :: ws) ({ frames := 0, cells := 0, slots := 0, locals := 0 } : Room)) (fun a U => a = #[(.ref a0)] ∧ Z.Warmed39 U.vm ∧ U.heap = h0) (fun _ _ _ _ _ => True) (fun _ U o U' => ∃ v L, o = .returned v ∧ Q4_1 Z a0 az cv ai ak av sv kt x0 x1 x2 h0 n0 v U'.heap L ∧ FrameEnd U o U' L ({ frames := 0, cells := 0, slots := 0, locals := 0 } : Room).cells ({ frames := 0, cells := 0, slots := 0, locals := 0 } : Room).slots) := by
  refine MetFree.of_bodySF (plainFor_of_name pn_3) hisR ?_
  intro p e s m args below meth c s₁ Bd hml0 hP hK
  obtain ⟨rfl, hZ, hh⟩ := hP
  have hx := Bd.exec
  have hby := Bd.bytes
  have hml : c.maxLocals = 1 := hml0
  have hown : s.vm.findClass "com/example/rank60/rank60/FusedList$Explanations" = some m.cls := findClass_of_methodNamed Bd.named
  have hnm := (name_of_methodNamed Bd.named Bd.method).1
  have X0 : Stand p l e ({ frames := 0, cells := 0, slots := 0, locals := 0 } : Room) s m #[(.ref a0)] below meth c s₁ [] 0 0 := Stand.of_body Bd
  have e0 : s₁.heap = h0 := by rw [← hh, Bd.state]; rfl
  have N0 := Fr.nil n0
  have pre0 : ∀ t, Steps p.tables e below (s₁.setTop (mkF m 0 #[.val (.ref a0)] [])) t → Steps p.tables e below (s₁.setTop (entryFrame m #[(.ref a0)] 1)) t := fun t k => castTop (ef_4 m a0) k
  obtain ⟨T585, X585, e585, st585⟩ := getF X0 hx hZ hown (host := "") (Or.inl (own_wk hw 35 rfl)) Via.refl e0 F_documents_a0 (g := (mkF m 2 #[.val (.ref a0)] [(.ref a0), (.ref a0)])) rfl rfl (hb hby d4_2)
  obtain ⟨T586, h586, X586, e586, W586, st586⟩ := putF X585 hx hZ hown (host := "") (Or.inl (own_wk hw 35 rfl)) Via.refl e585 F_documents_a0 E_a0 (Or.inl (own_wk hw 36 rfl)) (own_wk hw 1 rfl) (ty := .int) (by decide) rfl rfl (g := (mkF m 7 #[.val (.ref a0)] [.int 2, (.ref a0)])) rfl rfl (hb hby d4_7)
  have Fw586 := F_documents_a0.same W586
  have x587 := E_a0.wr W586
  have x588 := F_starts_a0.other W586 (Or.inr (slot_ne (Or.inr (own_wk hw 11 rfl)) (Or.inl (own_wk hw 36 rfl)) (by decide) (t := (.array .int)) (t' := .int) (by decide) (by decide)))
  have x589 := F_count_a0.other W586 (Or.inr (slot_ne (Or.inl (own_wk hw 29 rfl)) (Or.inl (own_wk hw 36 rfl)) (by decide) (t := .int) (t' := .int) (by decide) (by decide)))
  have x590 := F_inputs_a0.other W586 (Or.inr (slot_ne (Or.inr (own_wk hw 13 rfl)) (Or.inl (own_wk hw 36 rfl)) (by decide) (t := (.array .int)) (t' := .int) (by decide) (by decide)))
  have x591 := F_ranks_a0.other W586 (Or.inr (slot_ne (Or.inr (own_wk hw 15 rfl)) (Or.inl (own_wk hw 36 rfl)) (by decide) (t := (.array .int)) (t' := .int) (by decide) (by decide)))
  have x592 := F_values_a0.other W586 (Or.inr (slot_ne (Or.inr (own_wk hw 20 rfl)) (Or.inl (own_wk hw 36 rfl)) (by decide) (t := (.array .double)) (t' := .int) (by decide) (by decide)))
  have x593 := F_scores_a0.other W586 (Or.inr (slot_ne (Or.inr (own_wk hw 18 rfl)) (Or.inl (own_wk hw 36 rfl)) (by decide) (t := (.array .double)) (t' := .int) (by decide) (by decide)))
  have x594 := V_az.other W586 (Ne.symm ne_a0_az)
  have sz595 : n0 ≤ h586.size := Nat.le_trans Z0 (Keep.of_wr W586).1
  have kp596 : Keep h0 h586 [a0, az] := (Keep.refl h0 [a0, az]).wr W586 (Or.inl (List.mem_of_getElem? (i := 0) rfl))
  have N586 := Fr.snoc X586 N0 ge_a0
  obtain ⟨T597, X597, e597, st597⟩ := getF X586 hx hZ hown (host := "") (Or.inl (own_wk hw 10 rfl)) Via.refl e586 x588 (g := (mkF m 11 #[.val (.ref a0)] [(.ref a0)])) rfl rfl (hb hby d4_11)
  obtain ⟨T598, X598, e598, st598⟩ := getF X597 hx hZ hown (host := "") (Or.inl (own_wk hw 35 rfl)) Via.refl e597 Fw586 (g := (mkF m 15 #[.val (.ref a0)] [(.ref a0), (.ref az)])) rfl rfl (hb hby d4_15)
  obtain ⟨T599, X599, e599, st599⟩ := getF X598 hx hZ hown (host := "") (Or.inl (own_wk hw 28 rfl)) Via.refl e598 x589 (g := (mkF m 19 #[.val (.ref a0)] [(.ref a0), .int 2, (.ref az)])) rfl rfl (hb hby d4_19)
  obtain ⟨cl600, Ar600, q600, S600, M600, H600, G600⟩ := id x594
  have hin600 : ¬ ((2 : Int32) < 0 ∨ cl600.slots.size ≤ ((2 : Int32)).toNatClampNeg) := inb_of S600 ⟨(by decide : ¬ (2 : Int32) < 0), (by decide : (2 : Int32) < (3 : Int32))⟩
  obtain ⟨T600, h600, X600, e600, W600, st600⟩ := stI X599 hx hZ e599 Ar600 (j := (2 : Int32)) hin600 (g := (mkF m 22 #[.val (.ref a0)] [(.int cv), .int 2, (.ref az)])) rfl rfl (hb hby d4_22)
  have V600 : Arv Z h600 az kt .int (3 : Int32) [(.int x0), (.int x1), (.int cv)] (.int (0 : Int32)) := Arv.set Ar600 q600 S600 M600 H600 G600 rfl W600 2 rfl (Nat.le_of_ble_eq_true rfl)
  have x601 := x587.wr W600
  have x602 := x588.other W600 (Or.inl ne_a0_az)
  have x603 := x589.other W600 (Or.inl ne_a0_az)
  have x604 := x590.other W600 (Or.inl ne_a0_az)
  have x605 := x591.other W600 (Or.inl ne_a0_az)
  have x606 := x592.other W600 (Or.inl ne_a0_az)
  have x607 := x593.other W600 (Or.inl ne_a0_az)
  have x608 := Fw586.other W600 (Or.inl ne_a0_az)
  have sz609 : n0 ≤ h600.size := Nat.le_trans sz595 (Keep.of_wr W600).1
  have kp610 : Keep h0 h600 [a0, az] := kp596.wr W600 (Or.inl (List.mem_of_getElem? (i := 1) rfl))
  have N600 := Fr.snoc X600 N586 ge_az
  obtain ⟨fs, hr, hrun, hended, hW, hsame⟩ := X600.leave (v := none) (fun _ => rfl)
  refine ⟨_, _, pre0 _ ?_, hrun, hended, _, _, rfl, ?_, ⟨_, rfl⟩, hW, hsame.mono (by decide) (by decide)⟩
  · show own_S p e below s₁ (mkF m 0 #[.val (.ref a0)] []) _
    refine XS.aloadN X0.here hx rfl (hb hby d4_0) rfl rfl ?_
    show own_S p e below s₁ (mkF m 1 #[.val (.ref a0)] [(.ref a0)]) _
    refine XS.dup X0.here hx rfl (hb hby d4_1) rfl rfl ?_
    show own_S p e below s₁ (mkF m 2 #[.val (.ref a0)] [(.ref a0), (.ref a0)]) _
    refine st585 _ ?_
    show own_S p e below T585 (mkF m 5 #[.val (.ref a0)] [.int 1, (.ref a0)]) _
    refine XS.iconst X585.here hx rfl (hb hby d4_5) ?_
    show own_S p e below T585 (mkF m 6 #[.val (.ref a0)] [.int 1, .int 1, (.ref a0)]) _
    refine XS.iadd X585.here hx rfl (hb hby d4_6) rfl ?_
    show own_S p e below T585 (mkF m 7 #[.val (.ref a0)] [(.int ((1 : Int32) + (1 : Int32))), (.ref a0)]) _
    rw [show ((1 : Int32) + (1 : Int32)) = (2 : Int32) from by decide]
    show own_S p e below T585 (mkF m 7 #[.val (.ref a0)] [.int 2, (.ref a0)]) _
    refine st586 _ ?_
    show own_S p e below T586 (mkF m 10 #[.val (.ref a0)] []) _
    refine XS.aloadN X586.here hx rfl (hb hby d4_10) rfl rfl ?_
    show own_S p e below T586 (mkF m 11 #[.val (.ref a0)] [(.ref a0)]) _
    refine st597 _ ?_
    show own_S p e below T597 (mkF m 14 #[.val (.ref a0)] [(.ref az)]) _
    refine XS.aloadN X597.here hx rfl (hb hby d4_14) rfl rfl ?_
    show own_S p e below T597 (mkF m 15 #[.val (.ref a0)] [(.ref a0), (.ref az)]) _
    refine st598 _ ?_
    show own_S p e below T598 (mkF m 18 #[.val (.ref a0)] [.int 2, (.ref az)]) _
    refine XS.aloadN X598.here hx rfl (hb hby d4_18) rfl rfl ?_
    show own_S p e below T598 (mkF m 19 #[.val (.ref a0)] [(.ref a0), .int 2, (.ref az)]) _
    refine st599 _ ?_
    show own_S p e below T599 (mkF m 22 #[.val (.ref a0)] [(.int cv), .int 2, (.ref az)]) _
    refine st600 _ ?_
    show own_S p e below T600 (mkF m 23 #[.val (.ref a0)] []) _
    exact X600.returnOut hx Bd.returns (hb hby d4_23) hr
  · show Q4_1 Z a0 az cv ai ak av sv kt x0 x1 x2 h0 n0 _ T600.heap _
    rw [e600]
    exact ⟨rfl, N600, kp610, x602, x608, x603, x604, x605, x606, x607, V600⟩
theorem pn_8 : plainName "java/util/AbstractList" = true := by first | (simp [plainName, overriddenIn]; done) | decide +kernel
theorem ef_7 (m : MethodId) (a0 : Addr) : entryFrame m #[(.ref a0)] 1 = mkF m 0 #[.val (.ref a0)] [] := by first | (simp [entryFrame, mkF, argsToLocals, Value.category]; done) | rfl
theorem d7_0 : decode jdk_39_method_1_code 0 = .ok (.aload_n 0, 1) := by decide +kernel
theorem pd_2 : parseMethodDescriptor "()V" = some ⟨[], none⟩ := by decide +kernel
theorem d7_1 : decode jdk_39_method_1_code 1 = .ok (.invokespecial 1, 3) := by decide +kernel
theorem d7_4 : decode jdk_39_method_1_code 4 = .ok (.aload_n 0, 1) := by decide +kernel
theorem d7_5 : decode jdk_39_method_1_code 5 = .ok (.iconst 0, 1) := by decide +kernel
theorem d7_6 : decode jdk_39_method_1_code 6 = .ok (.putfield 7, 3) := by decide +kernel
theorem d7_9 : decode jdk_39_method_1_code 9 = .ok (.return_, 1) := by decide +kernel
def Q7_f (Z : State) (a0 : Addr) (h0 : Heap) (n0 : Nat) (v : Option Value) (h : Heap) (L : List Loc) : Prop := v = none ∧ Fr n0 L ∧ Keep h0 h [a0] ∧ Fld Z h a0 "java/util/AbstractList" "modCount" "I" (.int (0 : Int32)) ∧ Fld Z h a0 "com/example/rank60/rank60/FusedList" "ids" "[Ljava/lang/String;" .null ∧ Fld Z h a0 "com/example/rank60/rank60/FusedList" "documents" "[I" .null ∧ Fld Z h a0 "com/example/rank60/rank60/FusedList" "numbering" "Lcom/example/rank60/rank60/DocumentNumbering;" .null ∧ Fld Z h a0 "com/example/rank60/rank60/FusedList" "scores" "[D" .null ∧ Fld Z h a0 "com/example/rank60/rank60/FusedList" "explanations" "Lcom/example/rank60/rank60/FusedList$Explanations;" .null ∧ Fld Z h a0 "com/example/rank60/rank60/FusedList" "firstRank" "I" (.int (0 : Int32))
set_option maxRecDepth 65536 in
set_option maxHeartbeats 40000000 in
theorem rm7_f (l : Launch) (Z : State) (ag : Array Value) (hw : ∀ d ∈ tables_1, d.before ag Z = true) (ws : List Jvm.Cond) (a0 : Addr) (h0 : Heap) (n0 : Nat) (Z0 : n0 ≤ h0.size) (E_a0 : Exa Z h0 a0 "com/example/rank60/rank60/FusedList") (F_modCount_a0 : Fld Z h0 a0 "java/util/AbstractList" "modCount" "I" (.int (0 : Int32))) (F_ids_a0 : Fld Z h0 a0 "com/example/rank60/rank60/FusedList" "ids" "[Ljava/lang/String;" .null) (F_documents_a0 : Fld Z h0 a0 "com/example/rank60/rank60/FusedList" "documents" "[I" .null) (F_numbering_a0 : Fld Z h0 a0 "com/example/rank60/rank60/FusedList" "numbering" "Lcom/example/rank60/rank60/DocumentNumbering;" .null) (F_scores_a0 : Fld Z h0 a0 "com/example/rank60/rank60/FusedList" "scores" "[D" .null) (F_explanations_a0 : Fld Z h0 a0 "com/example/rank60/rank60/FusedList" "explanations" "Lcom/example/rank60/rank60/FusedList$Explanations;" .null) (F_firstRank_a0 : Fld Z h0 a0 "com/example/rank60/rank60/FusedList" "firstRank" "I" (.int (0 : Int32))) (ge_a0 : n0 ≤ a0) :
    MetFree l (⟨"java/util/AbstractList", "<init>", "()V"⟩ : MethodName) (head1 (Jvm.Cond.code (⟨"java/util/AbstractList", "<init>", "()V"⟩ : MethodName) jdk_39_method_1_code 1 none :: ws) ({ frames := 2, cells := 0, slots := 0, locals := 24 } : Room)) (fun a U => a = #[(.ref a0)] ∧ Z.Warmed39 U.vm ∧ U.heap = h0) (fun _ _ _ _ _ => True) (fun _ U o U' => ∃ v L, o = .returned v ∧ Q7_f Z a0 h0 n0 v U'.heap L ∧ FrameEnd U o U' L ({ frames := 2, cells := 0, slots := 0, locals := 24 } : Room).cells ({ frames := 2, cells := 0, slots := 0, locals := 24 } : Room).slots) := by
  refine MetFree.of_bodySF (plainFor_of_name pn_8) hisR ?_
  intro p e s m args below meth c s₁ Bd hml0 hP hK
  obtain ⟨rfl, hZ, hh⟩ := hP
  have hx := Bd.exec
  have hby := Bd.bytes
  have hml : c.maxLocals = 1 := hml0
  have hown : s.vm.findClass "java/util/AbstractList" = some m.cls := findClass_of_methodNamed Bd.named
  have hnm := (name_of_methodNamed Bd.named Bd.method).1
  have X0 : Stand p l e ({ frames := 2, cells := 0, slots := 0, locals := 24 } : Room) s m #[(.ref a0)] below meth c s₁ [] 0 0 := Stand.of_body Bd
  have e0 : s₁.heap = h0 := by rw [← hh, Bd.state]; rfl
  have N0 := Fr.nil n0
  have pre0 : ∀ t, Steps p.tables e below (s₁.setTop (mkF m 0 #[.val (.ref a0)] [])) t → Steps p.tables e below (s₁.setTop (entryFrame m #[(.ref a0)] 1)) t := fun t k => castTop (ef_7 m a0) k
  obtain ⟨_, _, ⟨T611, L611, k611, n611⟩, -, X611, ⟨Lc611, hQ611, l611, y611, z611⟩, st611⟩ := X0.specialBack hx (y := (⟨"java/util/AbstractCollection", "<init>", "()V"⟩ : MethodName)) rfl hown (mvT hZ (own_wk hw 51 rfl)) (mvT hZ (own_wk hw 52 rfl)) (mvT hZ (own_wk hw 56 rfl)) (by decide) (backOf (W := 0) (rm8 l Z ag hw [] a0  h0 n0 Z0 ) hZ (own_wk hw 56 rfl) (own_wk hw 55 rfl) (by decide) (by decide)) (g := (mkF m 1 #[.val (.ref a0)] [(.ref a0)])) rfl (by rw [hml]; rfl) (Steps.refl _) (a := a0) (argsL := []) (rest := []) (lenOf pd_2 rfl) rfl (by show 2 * 0 + _ ≤ _; exact Nat.le_of_eq rfl) (hb hby d7_1) (fun _ _ => ⟨rfl, e0, (by decide : 0 + 0 ≤ _), (by decide : 0 + 0 ≤ _)⟩)
  dsimp only [Pt.U, Pt.locs, Pt.cells, Pt.slots] at X611 l611 y611 z611 st611 hQ611
  subst l611 y611 z611
  obtain ⟨rfl, N611q, e611⟩ := hQ611
  have N611 := Fr.app N0 N611q
  obtain ⟨T612, h612, X612, e612, W612, st612⟩ := putF X611 hx hZ hown (host := "") (Or.inl (own_wk hw 58 rfl)) Via.refl e611 F_modCount_a0 E_a0 (Or.inl (own_wk hw 59 rfl)) (own_wk hw 38 rfl) (ty := .int) (by decide) rfl rfl (g := (mkF m 6 #[.val (.ref a0)] [.int 0, (.ref a0)])) rfl rfl (hb hby d7_6)
  have Fw612 := F_modCount_a0.same W612
  have x613 := E_a0.wr W612
  have x614 := F_ids_a0.other W612 (Or.inr (slot_ne (Or.inr (own_wk hw 61 rfl)) (Or.inl (own_wk hw 59 rfl)) (by decide) (t := (.array (.object "java/lang/String"))) (t' := .int) (by decide) (by decide)))
  have x615 := F_documents_a0.other W612 (Or.inr (slot_ne (Or.inr (own_wk hw 63 rfl)) (Or.inl (own_wk hw 59 rfl)) (by decide) (t := (.array .int)) (t' := .int) (by decide) (by decide)))
  have x616 := F_numbering_a0.other W612 (Or.inr (slot_ne (Or.inr (own_wk hw 65 rfl)) (Or.inl (own_wk hw 59 rfl)) (by decide) (t := (.object "com/example/rank60/rank60/DocumentNumbering")) (t' := .int) (by decide) (by decide)))
  have x617 := F_scores_a0.other W612 (Or.inr (slot_ne (Or.inr (own_wk hw 67 rfl)) (Or.inl (own_wk hw 59 rfl)) (by decide) (t := (.array .double)) (t' := .int) (by decide) (by decide)))
  have x618 := F_explanations_a0.other W612 (Or.inr (slot_ne (Or.inr (own_wk hw 71 rfl)) (Or.inl (own_wk hw 59 rfl)) (by decide) (t := (.object "com/example/rank60/rank60/FusedList$Explanations")) (t' := .int) (by decide) (by decide)))
  have x619 := F_firstRank_a0.other W612 (Or.inr (slot_ne (Or.inr (own_wk hw 69 rfl)) (Or.inl (own_wk hw 59 rfl)) (by decide) (t := .int) (t' := .int) (by decide) (by decide)))
  have sz620 : n0 ≤ h612.size := Nat.le_trans Z0 (Keep.of_wr W612).1
  have kp621 : Keep h0 h612 [a0] := (Keep.refl h0 [a0]).wr W612 (Or.inl (List.mem_of_getElem? (i := 0) rfl))
  have N612 := Fr.snoc X612 N611 ge_a0
  obtain ⟨fs, hr, hrun, hended, hW, hsame⟩ := X612.leave (v := none) (fun _ => rfl)
  refine ⟨_, _, pre0 _ ?_, hrun, hended, _, _, rfl, ?_, ⟨_, rfl⟩, hW, hsame.mono (by decide) (by decide)⟩
  · show own_S p e below s₁ (mkF m 0 #[.val (.ref a0)] []) _
    refine XS.aloadN X0.here hx rfl (hb hby d7_0) rfl rfl ?_
    show own_S p e below s₁ (mkF m 1 #[.val (.ref a0)] [(.ref a0)]) _
    refine st611.trans ?_
    show own_S p e below T611 (mkF m 4 #[.val (.ref a0)] []) _
    refine XS.aloadN X611.here hx rfl (hb hby d7_4) rfl rfl ?_
    show own_S p e below T611 (mkF m 5 #[.val (.ref a0)] [(.ref a0)]) _
    refine XS.iconst X611.here hx rfl (hb hby d7_5) ?_
    show own_S p e below T611 (mkF m 6 #[.val (.ref a0)] [.int 0, (.ref a0)]) _
    refine st612 _ ?_
    show own_S p e below T612 (mkF m 9 #[.val (.ref a0)] []) _
    exact X612.returnOut hx Bd.returns (hb hby d7_9) hr
  · show Q7_f Z a0 h0 n0 _ T612.heap _
    rw [e612]
    exact ⟨rfl, N612, kp621, Fw612, x614, x615, x616, x617, x618, x619⟩
def Q7_d (Z : State) (a0 : Addr) (ae : Addr) (h0 : Heap) (n0 : Nat) (v : Option Value) (h : Heap) (L : List Loc) : Prop := v = none ∧ Fr n0 L ∧ Keep h0 h [a0] ∧ Fld Z h a0 "java/util/AbstractList" "modCount" "I" (.int (0 : Int32)) ∧ Fld Z h a0 "com/example/rank60/rank60/FusedList$Explanations$DocumentContributions" "this$0" "Lcom/example/rank60/rank60/FusedList$Explanations;" (.ref ae) ∧ Fld Z h a0 "com/example/rank60/rank60/FusedList$Explanations$DocumentContributions" "start" "I" (.int (0 : Int32)) ∧ Fld Z h a0 "com/example/rank60/rank60/FusedList$Explanations$DocumentContributions" "size" "I" (.int (0 : Int32))
set_option maxRecDepth 65536 in
set_option maxHeartbeats 40000000 in
theorem rm7_d (l : Launch) (Z : State) (ag : Array Value) (hw : ∀ d ∈ tables_1, d.before ag Z = true) (ws : List Jvm.Cond) (a0 : Addr) (ae : Addr) (h0 : Heap) (n0 : Nat) (Z0 : n0 ≤ h0.size) (E_a0 : Exa Z h0 a0 "com/example/rank60/rank60/FusedList$Explanations$DocumentContributions") (F_modCount_a0 : Fld Z h0 a0 "java/util/AbstractList" "modCount" "I" (.int (0 : Int32))) (F_this_0_a0 : Fld Z h0 a0 "com/example/rank60/rank60/FusedList$Explanations$DocumentContributions" "this$0" "Lcom/example/rank60/rank60/FusedList$Explanations;" (.ref ae)) (F_start_a0 : Fld Z h0 a0 "com/example/rank60/rank60/FusedList$Explanations$DocumentContributions" "start" "I" (.int (0 : Int32))) (F_size_a0 : Fld Z h0 a0 "com/example/rank60/rank60/FusedList$Explanations$DocumentContributions" "size" "I" (.int (0 : Int32))) (ge_a0 : n0 ≤ a0) :
    MetFree l (⟨"java/util/AbstractList", "<init>", "()V"⟩ : MethodName) (head1 (Jvm.Cond.code (⟨"java/util/AbstractList", "<init>", "()V"⟩ : MethodName) jdk_39_method_1_code 1 none :: ws) ({ frames := 2, cells := 0, slots := 0, locals := 24 } : Room)) (fun a U => a = #[(.ref a0)] ∧ Z.Warmed39 U.vm ∧ U.heap = h0) (fun _ _ _ _ _ => True) (fun _ U o U' => ∃ v L, o = .returned v ∧ Q7_d Z a0 ae h0 n0 v U'.heap L ∧ FrameEnd U o U' L ({ frames := 2, cells := 0, slots := 0, locals := 24 } : Room).cells ({ frames := 2, cells := 0, slots := 0, locals := 24 } : Room).slots) := by
  refine MetFree.of_bodySF (plainFor_of_name pn_8) hisR ?_
  intro p e s m args below meth c s₁ Bd hml0 hP hK
  obtain ⟨rfl, hZ, hh⟩ := hP
  have hx := Bd.exec
  have hby := Bd.bytes
  have hml : c.maxLocals = 1 := hml0
  have hown : s.vm.findClass "java/util/AbstractList" = some m.cls := findClass_of_methodNamed Bd.named
  have hnm := (name_of_methodNamed Bd.named Bd.method).1
  have X0 : Stand p l e ({ frames := 2, cells := 0, slots := 0, locals := 24 } : Room) s m #[(.ref a0)] below meth c s₁ [] 0 0 := Stand.of_body Bd
  have e0 : s₁.heap = h0 := by rw [← hh, Bd.state]; rfl
  have N0 := Fr.nil n0
  have pre0 : ∀ t, Steps p.tables e below (s₁.setTop (mkF m 0 #[.val (.ref a0)] [])) t → Steps p.tables e below (s₁.setTop (entryFrame m #[(.ref a0)] 1)) t := fun t k => castTop (ef_7 m a0) k
  obtain ⟨_, _, ⟨T622, L622, k622, n622⟩, -, X622, ⟨Lc622, hQ622, l622, y622, z622⟩, st622⟩ := X0.specialBack hx (y := (⟨"java/util/AbstractCollection", "<init>", "()V"⟩ : MethodName)) rfl hown (mvT hZ (own_wk hw 51 rfl)) (mvT hZ (own_wk hw 52 rfl)) (mvT hZ (own_wk hw 56 rfl)) (by decide) (backOf (W := 0) (rm8 l Z ag hw [] a0  h0 n0 Z0 ) hZ (own_wk hw 56 rfl) (own_wk hw 55 rfl) (by decide) (by decide)) (g := (mkF m 1 #[.val (.ref a0)] [(.ref a0)])) rfl (by rw [hml]; rfl) (Steps.refl _) (a := a0) (argsL := []) (rest := []) (lenOf pd_2 rfl) rfl (by show 2 * 0 + _ ≤ _; exact Nat.le_of_eq rfl) (hb hby d7_1) (fun _ _ => ⟨rfl, e0, (by decide : 0 + 0 ≤ _), (by decide : 0 + 0 ≤ _)⟩)
  dsimp only [Pt.U, Pt.locs, Pt.cells, Pt.slots] at X622 l622 y622 z622 st622 hQ622
  subst l622 y622 z622
  obtain ⟨rfl, N622q, e622⟩ := hQ622
  have N622 := Fr.app N0 N622q
  obtain ⟨T623, h623, X623, e623, W623, st623⟩ := putF X622 hx hZ hown (host := "") (Or.inl (own_wk hw 58 rfl)) Via.refl e622 F_modCount_a0 E_a0 (Or.inl (own_wk hw 99 rfl)) (own_wk hw 90 rfl) (ty := .int) (by decide) rfl rfl (g := (mkF m 6 #[.val (.ref a0)] [.int 0, (.ref a0)])) rfl rfl (hb hby d7_6)
  have Fw623 := F_modCount_a0.same W623
  have x624 := E_a0.wr W623
  have x625 := F_this_0_a0.other W623 (Or.inr (slot_ne (Or.inr (own_wk hw 96 rfl)) (Or.inl (own_wk hw 99 rfl)) (by decide) (t := (.object "com/example/rank60/rank60/FusedList$Explanations")) (t' := .int) (by decide) (by decide)))
  have x626 := F_start_a0.other W623 (Or.inr (slot_ne (Or.inr (own_wk hw 101 rfl)) (Or.inl (own_wk hw 99 rfl)) (by decide) (t := .int) (t' := .int) (by decide) (by decide)))
  have x627 := F_size_a0.other W623 (Or.inr (slot_ne (Or.inr (own_wk hw 103 rfl)) (Or.inl (own_wk hw 99 rfl)) (by decide) (t := .int) (t' := .int) (by decide) (by decide)))
  have sz628 : n0 ≤ h623.size := Nat.le_trans Z0 (Keep.of_wr W623).1
  have kp629 : Keep h0 h623 [a0] := (Keep.refl h0 [a0]).wr W623 (Or.inl (List.mem_of_getElem? (i := 0) rfl))
  have N623 := Fr.snoc X623 N622 ge_a0
  obtain ⟨fs, hr, hrun, hended, hW, hsame⟩ := X623.leave (v := none) (fun _ => rfl)
  refine ⟨_, _, pre0 _ ?_, hrun, hended, _, _, rfl, ?_, ⟨_, rfl⟩, hW, hsame.mono (by decide) (by decide)⟩
  · show own_S p e below s₁ (mkF m 0 #[.val (.ref a0)] []) _
    refine XS.aloadN X0.here hx rfl (hb hby d7_0) rfl rfl ?_
    show own_S p e below s₁ (mkF m 1 #[.val (.ref a0)] [(.ref a0)]) _
    refine st622.trans ?_
    show own_S p e below T622 (mkF m 4 #[.val (.ref a0)] []) _
    refine XS.aloadN X622.here hx rfl (hb hby d7_4) rfl rfl ?_
    show own_S p e below T622 (mkF m 5 #[.val (.ref a0)] [(.ref a0)]) _
    refine XS.iconst X622.here hx rfl (hb hby d7_5) ?_
    show own_S p e below T622 (mkF m 6 #[.val (.ref a0)] [.int 0, (.ref a0)]) _
    refine st623 _ ?_
    show own_S p e below T623 (mkF m 9 #[.val (.ref a0)] []) _
    exact X623.returnOut hx Bd.returns (hb hby d7_9) hr
  · show Q7_d Z a0 ae h0 n0 _ T623.heap _
    rw [e623]
    exact ⟨rfl, N623, kp629, Fw623, x625, x626, x627⟩
theorem pn_2 : plainName "com/example/rank60/rank60/FusedList" = true := by first | (simp [plainName, overriddenIn]; done) | decide +kernel
theorem ef_6_vvnnvvv (m : MethodId) (a0 : Addr) (a1 : Addr) (a4 : Addr) (p5 : Int32) (a6 : Addr) : entryFrame m #[(.ref a0), (.ref a1), .null, .null, (.ref a4), (.int p5), (.ref a6)] 7 = mkF m 0 #[.val (.ref a0), .val (.ref a1), .val .null, .val .null, .val (.ref a4), .val (.int p5), .val (.ref a6)] [] := by first | (simp [entryFrame, mkF, argsToLocals, Value.category]; done) | rfl
abbrev own_loc2 (a0 : Addr) (a1 : Addr) (a4 : Addr) (p5 : Int32) (a6 : Addr) : Array Slot := #[.val (.ref a0), .val (.ref a1), .val .null, .val .null, .val (.ref a4), .val (.int p5), .val (.ref a6)]
theorem d6_0 : decode prog_9_method_3_code 0 = .ok (.aload_n 0, 1) := by decide +kernel
theorem d6_1 : decode prog_9_method_3_code 1 = .ok (.invokespecial 7, 3) := by decide +kernel
theorem d6_4 : decode prog_9_method_3_code 4 = .ok (.aload_n 0, 1) := by decide +kernel
theorem d6_5 : decode prog_9_method_3_code 5 = .ok (.aload_n 1, 1) := by decide +kernel
theorem d6_6 : decode prog_9_method_3_code 6 = .ok (.putfield 12, 3) := by decide +kernel
theorem d6_9 : decode prog_9_method_3_code 9 = .ok (.aload_n 0, 1) := by decide +kernel
theorem d6_10 : decode prog_9_method_3_code 10 = .ok (.aload_n 2, 1) := by decide +kernel
theorem d6_11 : decode prog_9_method_3_code 11 = .ok (.putfield 16, 3) := by decide +kernel
theorem d6_14 : decode prog_9_method_3_code 14 = .ok (.aload_n 0, 1) := by decide +kernel
theorem d6_15 : decode prog_9_method_3_code 15 = .ok (.aload_n 3, 1) := by decide +kernel
theorem d6_16 : decode prog_9_method_3_code 16 = .ok (.putfield 20, 3) := by decide +kernel
theorem d6_19 : decode prog_9_method_3_code 19 = .ok (.aload_n 0, 1) := by decide +kernel
theorem d6_20 : decode prog_9_method_3_code 20 = .ok (.aload 4, 2) := by decide +kernel
theorem d6_22 : decode prog_9_method_3_code 22 = .ok (.putfield 24, 3) := by decide +kernel
theorem d6_25 : decode prog_9_method_3_code 25 = .ok (.aload_n 0, 1) := by decide +kernel
theorem d6_26 : decode prog_9_method_3_code 26 = .ok (.iload 5, 2) := by decide +kernel
theorem d6_28 : decode prog_9_method_3_code 28 = .ok (.putfield 28, 3) := by decide +kernel
theorem d6_31 : decode prog_9_method_3_code 31 = .ok (.aload_n 0, 1) := by decide +kernel
theorem d6_32 : decode prog_9_method_3_code 32 = .ok (.aload 6, 2) := by decide +kernel
theorem d6_34 : decode prog_9_method_3_code 34 = .ok (.putfield 32, 3) := by decide +kernel
theorem d6_37 : decode prog_9_method_3_code 37 = .ok (.return_, 1) := by decide +kernel
def Q6 (Z : State) (a0 : Addr) (a1 : Addr) (a4 : Addr) (p5 : Int32) (a6 : Addr) (h0 : Heap) (n0 : Nat) (v : Option Value) (h : Heap) (L : List Loc) : Prop := v = none ∧ Fr n0 L ∧ Keep h0 h [a0] ∧ Fld Z h a0 "com/example/rank60/rank60/FusedList" "scores" "[D" (.ref a4) ∧ Fld Z h a0 "com/example/rank60/rank60/FusedList" "explanations" "Lcom/example/rank60/rank60/FusedList$Explanations;" (.ref a6)
set_option maxRecDepth 65536 in
set_option maxHeartbeats 40000000 in
theorem rm6 (l : Launch) (Z : State) (ag : Array Value) (hw : ∀ d ∈ tables_1, d.before ag Z = true) (ws : List Jvm.Cond) (a0 : Addr) (a1 : Addr) (a4 : Addr) (p5 : Int32) (a6 : Addr) (h0 : Heap) (n0 : Nat) (Z0 : n0 ≤ h0.size) (E_a0 : Exa Z h0 a0 "com/example/rank60/rank60/FusedList") (F_modCount_a0 : Fld Z h0 a0 "java/util/AbstractList" "modCount" "I" (.int (0 : Int32))) (F_ids_a0 : Fld Z h0 a0 "com/example/rank60/rank60/FusedList" "ids" "[Ljava/lang/String;" .null) (F_documents_a0 : Fld Z h0 a0 "com/example/rank60/rank60/FusedList" "documents" "[I" .null) (F_numbering_a0 : Fld Z h0 a0 "com/example/rank60/rank60/FusedList" "numbering" "Lcom/example/rank60/rank60/DocumentNumbering;" .null) (F_scores_a0 : Fld Z h0 a0 "com/example/rank60/rank60/FusedList" "scores" "[D" .null) (F_explanations_a0 : Fld Z h0 a0 "com/example/rank60/rank60/FusedList" "explanations" "Lcom/example/rank60/rank60/FusedList$Explanations;" .null) (F_firstRank_a0 : Fld Z h0 a0 "com/example/rank60/rank60/FusedList" "firstRank" "I" (.int (0 : Int32))) (ge_a0 : n0 ≤ a0) :
    MetFree l (⟨"com/example/rank60/rank60/FusedList", "<init>", "([Ljava/lang/String;[ILcom/example/rank60/rank60/DocumentNumbering;[DILcom/example/rank60/rank60/FusedList$Explanations;)V"⟩ : MethodName) (head1 (Jvm.Cond.code (⟨"com/example/rank60/rank60/FusedList", "<init>", "([Ljava/lang/String;[ILcom/example/rank60/rank60/DocumentNumbering;[DILcom/example/rank60/rank60/FusedList$Explanations;)V"⟩ : MethodName) prog_9_method_3_code 7 none :: ws) ({ frames := 3, cells := 0, slots := 0, locals := 36 } : Room)) (fun a U => a = #[(.ref a0), (.ref a1), .null, .null, (.ref a4), (.int p5), (.ref a6)] ∧ Z.Warmed39 U.vm ∧ U.heap = h0) (fun _ _ _ _ _ => True) (fun _ U o U' => ∃ v L, o = .returned v ∧ Q6 Z a0 a1 a4 p5 a6 h0 n0 v U'.heap L ∧ FrameEnd U o U' L ({ frames := 3, cells := 0, slots := 0, locals := 36 } : Room).cells ({ frames := 3, cells := 0, slots := 0, locals := 36 } : Room).slots) := by
  refine MetFree.of_bodySF (plainFor_of_name pn_2) hisR ?_
  intro p e s m args below meth c s₁ Bd hml0 hP hK
  obtain ⟨rfl, hZ, hh⟩ := hP
  have hx := Bd.exec
  have hby := Bd.bytes
  have hml : c.maxLocals = 7 := hml0
  have hown : s.vm.findClass "com/example/rank60/rank60/FusedList" = some m.cls := findClass_of_methodNamed Bd.named
  have hnm := (name_of_methodNamed Bd.named Bd.method).1
  have X0 : Stand p l e ({ frames := 3, cells := 0, slots := 0, locals := 36 } : Room) s m #[(.ref a0), (.ref a1), .null, .null, (.ref a4), (.int p5), (.ref a6)] below meth c s₁ [] 0 0 := Stand.of_body Bd
  have e0 : s₁.heap = h0 := by rw [← hh, Bd.state]; rfl
  have N0 := Fr.nil n0
  have pre0 : ∀ t, Steps p.tables e below (s₁.setTop (mkF m 0 #[.val (.ref a0), .val (.ref a1), .val .null, .val .null, .val (.ref a4), .val (.int p5), .val (.ref a6)] [])) t → Steps p.tables e below (s₁.setTop (entryFrame m #[(.ref a0), (.ref a1), .null, .null, (.ref a4), (.int p5), (.ref a6)] 7)) t := fun t k => castTop (ef_6_vvnnvvv m a0 a1 a4 p5 a6) k
  obtain ⟨_, _, ⟨T630, L630, k630, n630⟩, -, X630, ⟨Lc630, hQ630, l630, y630, z630⟩, st630⟩ := X0.specialBack hx (y := (⟨"java/util/AbstractList", "<init>", "()V"⟩ : MethodName)) rfl hown (mvT hZ (own_wk hw 46 rfl)) (mvT hZ (own_wk hw 47 rfl)) (mvT hZ (own_wk hw 50 rfl)) (by decide) (backOf (W := 0) (rm7_f l Z ag hw [] a0  h0 n0 Z0 E_a0 F_modCount_a0 F_ids_a0 F_documents_a0 F_numbering_a0 F_scores_a0 F_explanations_a0 F_firstRank_a0 ge_a0) hZ (own_wk hw 50 rfl) (own_wk hw 49 rfl) (by decide) (by decide)) (g := (mkF m 1 (own_loc2 a0 a1 a4 p5 a6) [(.ref a0)])) rfl (by rw [hml]; rfl) (Steps.refl _) (a := a0) (argsL := []) (rest := []) (lenOf pd_2 rfl) rfl (by show 2 * 0 + _ ≤ _; exact Nat.le_of_eq rfl) (hb hby d6_1) (fun _ _ => ⟨rfl, e0, (by decide : 0 + 0 ≤ _), (by decide : 0 + 0 ≤ _)⟩)
  dsimp only [Pt.U, Pt.locs, Pt.cells, Pt.slots] at X630 l630 y630 z630 st630 hQ630
  subst l630 y630 z630
  obtain ⟨rfl, N630q, K630, o630_0, o630_1, o630_2, o630_3, o630_4, o630_5, o630_6⟩ := hQ630
  have N630 := Fr.app N0 N630q
  have x631 := E_a0.keep K630
  have sz632 : n0 ≤ T630.heap.size := Nat.le_trans Z0 K630.1
  have kp633 : Keep h0 T630.heap [a0] := (Keep.refl h0 [a0]).trans K630 (allS (Or.inl (List.mem_of_getElem? (i := 0) rfl)) all0)
  obtain ⟨T634, h634, X634, e634, W634, st634⟩ := putF X630 hx hZ hown (host := "") (Or.inl (own_wk hw 60 rfl)) Via.refl rfl o630_1 x631 (Or.inr ⟨(own_wk hw 61 rfl), rfl, hnm⟩) (own_wk hw 38 rfl) (ty := (.array (.object "java/lang/String"))) (by decide) rfl rfl (g := (mkF m 6 (own_loc2 a0 a1 a4 p5 a6) [(.ref a1), (.ref a0)])) rfl rfl (hb hby d6_6)
  have Fw634 := o630_1.same W634
  have x635 := x631.wr W634
  have x636 := o630_0.other W634 (Or.inr (slot_ne (Or.inl (own_wk hw 59 rfl)) (Or.inr (own_wk hw 61 rfl)) (by decide) (t := .int) (t' := (.array (.object "java/lang/String"))) (by decide) (by decide)))
  have x637 := o630_2.other W634 (Or.inr (slot_ne (Or.inr (own_wk hw 63 rfl)) (Or.inr (own_wk hw 61 rfl)) (by decide) (t := (.array .int)) (t' := (.array (.object "java/lang/String"))) (by decide) (by decide)))
  have x638 := o630_3.other W634 (Or.inr (slot_ne (Or.inr (own_wk hw 65 rfl)) (Or.inr (own_wk hw 61 rfl)) (by decide) (t := (.object "com/example/rank60/rank60/DocumentNumbering")) (t' := (.array (.object "java/lang/String"))) (by decide) (by decide)))
  have x639 := o630_4.other W634 (Or.inr (slot_ne (Or.inr (own_wk hw 67 rfl)) (Or.inr (own_wk hw 61 rfl)) (by decide) (t := (.array .double)) (t' := (.array (.object "java/lang/String"))) (by decide) (by decide)))
  have x640 := o630_5.other W634 (Or.inr (slot_ne (Or.inr (own_wk hw 71 rfl)) (Or.inr (own_wk hw 61 rfl)) (by decide) (t := (.object "com/example/rank60/rank60/FusedList$Explanations")) (t' := (.array (.object "java/lang/String"))) (by decide) (by decide)))
  have x641 := o630_6.other W634 (Or.inr (slot_ne (Or.inr (own_wk hw 69 rfl)) (Or.inr (own_wk hw 61 rfl)) (by decide) (t := .int) (t' := (.array (.object "java/lang/String"))) (by decide) (by decide)))
  have sz642 : n0 ≤ h634.size := Nat.le_trans sz632 (Keep.of_wr W634).1
  have kp643 : Keep h0 h634 [a0] := kp633.wr W634 (Or.inl (List.mem_of_getElem? (i := 0) rfl))
  have N634 := Fr.snoc X634 N630 ge_a0
  obtain ⟨T644, h644, X644, e644, W644, st644⟩ := putF X634 hx hZ hown (host := "") (Or.inl (own_wk hw 62 rfl)) Via.refl e634 x637 x635 (Or.inr ⟨(own_wk hw 63 rfl), rfl, hnm⟩) (own_wk hw 38 rfl) (ty := (.array .int)) (by decide) rfl rfl (g := (mkF m 11 (own_loc2 a0 a1 a4 p5 a6) [.null, (.ref a0)])) rfl rfl (hb hby d6_11)
  have Fw644 := x637.same W644
  have x645 := x635.wr W644
  have x646 := x636.other W644 (Or.inr (slot_ne (Or.inl (own_wk hw 59 rfl)) (Or.inr (own_wk hw 63 rfl)) (by decide) (t := .int) (t' := (.array .int)) (by decide) (by decide)))
  have x647 := x638.other W644 (Or.inr (slot_ne (Or.inr (own_wk hw 65 rfl)) (Or.inr (own_wk hw 63 rfl)) (by decide) (t := (.object "com/example/rank60/rank60/DocumentNumbering")) (t' := (.array .int)) (by decide) (by decide)))
  have x648 := x639.other W644 (Or.inr (slot_ne (Or.inr (own_wk hw 67 rfl)) (Or.inr (own_wk hw 63 rfl)) (by decide) (t := (.array .double)) (t' := (.array .int)) (by decide) (by decide)))
  have x649 := x640.other W644 (Or.inr (slot_ne (Or.inr (own_wk hw 71 rfl)) (Or.inr (own_wk hw 63 rfl)) (by decide) (t := (.object "com/example/rank60/rank60/FusedList$Explanations")) (t' := (.array .int)) (by decide) (by decide)))
  have x650 := x641.other W644 (Or.inr (slot_ne (Or.inr (own_wk hw 69 rfl)) (Or.inr (own_wk hw 63 rfl)) (by decide) (t := .int) (t' := (.array .int)) (by decide) (by decide)))
  have x651 := Fw634.other W644 (Or.inr (slot_ne (Or.inr (own_wk hw 61 rfl)) (Or.inr (own_wk hw 63 rfl)) (by decide) (t := (.array (.object "java/lang/String"))) (t' := (.array .int)) (by decide) (by decide)))
  have sz652 : n0 ≤ h644.size := Nat.le_trans sz642 (Keep.of_wr W644).1
  have kp653 : Keep h0 h644 [a0] := kp643.wr W644 (Or.inl (List.mem_of_getElem? (i := 0) rfl))
  have N644 := Fr.snoc X644 N634 ge_a0
  obtain ⟨T654, h654, X654, e654, W654, st654⟩ := putF X644 hx hZ hown (host := "") (Or.inl (own_wk hw 64 rfl)) Via.refl e644 x647 x645 (Or.inr ⟨(own_wk hw 65 rfl), rfl, hnm⟩) (own_wk hw 38 rfl) (ty := (.object "com/example/rank60/rank60/DocumentNumbering")) (by decide) rfl rfl (g := (mkF m 16 (own_loc2 a0 a1 a4 p5 a6) [.null, (.ref a0)])) rfl rfl (hb hby d6_16)
  have Fw654 := x647.same W654
  have x655 := x645.wr W654
  have x656 := x646.other W654 (Or.inr (slot_ne (Or.inl (own_wk hw 59 rfl)) (Or.inr (own_wk hw 65 rfl)) (by decide) (t := .int) (t' := (.object "com/example/rank60/rank60/DocumentNumbering")) (by decide) (by decide)))
  have x657 := x648.other W654 (Or.inr (slot_ne (Or.inr (own_wk hw 67 rfl)) (Or.inr (own_wk hw 65 rfl)) (by decide) (t := (.array .double)) (t' := (.object "com/example/rank60/rank60/DocumentNumbering")) (by decide) (by decide)))
  have x658 := x649.other W654 (Or.inr (slot_ne (Or.inr (own_wk hw 71 rfl)) (Or.inr (own_wk hw 65 rfl)) (by decide) (t := (.object "com/example/rank60/rank60/FusedList$Explanations")) (t' := (.object "com/example/rank60/rank60/DocumentNumbering")) (by decide) (by decide)))
  have x659 := x650.other W654 (Or.inr (slot_ne (Or.inr (own_wk hw 69 rfl)) (Or.inr (own_wk hw 65 rfl)) (by decide) (t := .int) (t' := (.object "com/example/rank60/rank60/DocumentNumbering")) (by decide) (by decide)))
  have x660 := x651.other W654 (Or.inr (slot_ne (Or.inr (own_wk hw 61 rfl)) (Or.inr (own_wk hw 65 rfl)) (by decide) (t := (.array (.object "java/lang/String"))) (t' := (.object "com/example/rank60/rank60/DocumentNumbering")) (by decide) (by decide)))
  have x661 := Fw644.other W654 (Or.inr (slot_ne (Or.inr (own_wk hw 63 rfl)) (Or.inr (own_wk hw 65 rfl)) (by decide) (t := (.array .int)) (t' := (.object "com/example/rank60/rank60/DocumentNumbering")) (by decide) (by decide)))
  have sz662 : n0 ≤ h654.size := Nat.le_trans sz652 (Keep.of_wr W654).1
  have kp663 : Keep h0 h654 [a0] := kp653.wr W654 (Or.inl (List.mem_of_getElem? (i := 0) rfl))
  have N654 := Fr.snoc X654 N644 ge_a0
  obtain ⟨T664, h664, X664, e664, W664, st664⟩ := putF X654 hx hZ hown (host := "") (Or.inl (own_wk hw 66 rfl)) Via.refl e654 x657 x655 (Or.inr ⟨(own_wk hw 67 rfl), rfl, hnm⟩) (own_wk hw 38 rfl) (ty := (.array .double)) (by decide) rfl rfl (g := (mkF m 22 (own_loc2 a0 a1 a4 p5 a6) [(.ref a4), (.ref a0)])) rfl rfl (hb hby d6_22)
  have Fw664 := x657.same W664
  have x665 := x655.wr W664
  have x666 := x656.other W664 (Or.inr (slot_ne (Or.inl (own_wk hw 59 rfl)) (Or.inr (own_wk hw 67 rfl)) (by decide) (t := .int) (t' := (.array .double)) (by decide) (by decide)))
  have x667 := x658.other W664 (Or.inr (slot_ne (Or.inr (own_wk hw 71 rfl)) (Or.inr (own_wk hw 67 rfl)) (by decide) (t := (.object "com/example/rank60/rank60/FusedList$Explanations")) (t' := (.array .double)) (by decide) (by decide)))
  have x668 := x659.other W664 (Or.inr (slot_ne (Or.inr (own_wk hw 69 rfl)) (Or.inr (own_wk hw 67 rfl)) (by decide) (t := .int) (t' := (.array .double)) (by decide) (by decide)))
  have x669 := x660.other W664 (Or.inr (slot_ne (Or.inr (own_wk hw 61 rfl)) (Or.inr (own_wk hw 67 rfl)) (by decide) (t := (.array (.object "java/lang/String"))) (t' := (.array .double)) (by decide) (by decide)))
  have x670 := x661.other W664 (Or.inr (slot_ne (Or.inr (own_wk hw 63 rfl)) (Or.inr (own_wk hw 67 rfl)) (by decide) (t := (.array .int)) (t' := (.array .double)) (by decide) (by decide)))
  have x671 := Fw654.other W664 (Or.inr (slot_ne (Or.inr (own_wk hw 65 rfl)) (Or.inr (own_wk hw 67 rfl)) (by decide) (t := (.object "com/example/rank60/rank60/DocumentNumbering")) (t' := (.array .double)) (by decide) (by decide)))
  have sz672 : n0 ≤ h664.size := Nat.le_trans sz662 (Keep.of_wr W664).1
  have kp673 : Keep h0 h664 [a0] := kp663.wr W664 (Or.inl (List.mem_of_getElem? (i := 0) rfl))
  have N664 := Fr.snoc X664 N654 ge_a0
  obtain ⟨T674, h674, X674, e674, W674, st674⟩ := putF X664 hx hZ hown (host := "") (Or.inl (own_wk hw 68 rfl)) Via.refl e664 x668 x665 (Or.inr ⟨(own_wk hw 69 rfl), rfl, hnm⟩) (own_wk hw 38 rfl) (ty := .int) (by decide) rfl rfl (g := (mkF m 28 (own_loc2 a0 a1 a4 p5 a6) [(.int p5), (.ref a0)])) rfl rfl (hb hby d6_28)
  have Fw674 := x668.same W674
  have x675 := x665.wr W674
  have x676 := x666.other W674 (Or.inr (slot_ne (Or.inl (own_wk hw 59 rfl)) (Or.inr (own_wk hw 69 rfl)) (by decide) (t := .int) (t' := .int) (by decide) (by decide)))
  have x677 := x667.other W674 (Or.inr (slot_ne (Or.inr (own_wk hw 71 rfl)) (Or.inr (own_wk hw 69 rfl)) (by decide) (t := (.object "com/example/rank60/rank60/FusedList$Explanations")) (t' := .int) (by decide) (by decide)))
  have x678 := x669.other W674 (Or.inr (slot_ne (Or.inr (own_wk hw 61 rfl)) (Or.inr (own_wk hw 69 rfl)) (by decide) (t := (.array (.object "java/lang/String"))) (t' := .int) (by decide) (by decide)))
  have x679 := x670.other W674 (Or.inr (slot_ne (Or.inr (own_wk hw 63 rfl)) (Or.inr (own_wk hw 69 rfl)) (by decide) (t := (.array .int)) (t' := .int) (by decide) (by decide)))
  have x680 := x671.other W674 (Or.inr (slot_ne (Or.inr (own_wk hw 65 rfl)) (Or.inr (own_wk hw 69 rfl)) (by decide) (t := (.object "com/example/rank60/rank60/DocumentNumbering")) (t' := .int) (by decide) (by decide)))
  have x681 := Fw664.other W674 (Or.inr (slot_ne (Or.inr (own_wk hw 67 rfl)) (Or.inr (own_wk hw 69 rfl)) (by decide) (t := (.array .double)) (t' := .int) (by decide) (by decide)))
  have sz682 : n0 ≤ h674.size := Nat.le_trans sz672 (Keep.of_wr W674).1
  have kp683 : Keep h0 h674 [a0] := kp673.wr W674 (Or.inl (List.mem_of_getElem? (i := 0) rfl))
  have N674 := Fr.snoc X674 N664 ge_a0
  obtain ⟨T684, h684, X684, e684, W684, st684⟩ := putF X674 hx hZ hown (host := "") (Or.inl (own_wk hw 70 rfl)) Via.refl e674 x677 x675 (Or.inr ⟨(own_wk hw 71 rfl), rfl, hnm⟩) (own_wk hw 38 rfl) (ty := (.object "com/example/rank60/rank60/FusedList$Explanations")) (by decide) rfl rfl (g := (mkF m 34 (own_loc2 a0 a1 a4 p5 a6) [(.ref a6), (.ref a0)])) rfl rfl (hb hby d6_34)
  have Fw684 := x677.same W684
  have x685 := x675.wr W684
  have x686 := x676.other W684 (Or.inr (slot_ne (Or.inl (own_wk hw 59 rfl)) (Or.inr (own_wk hw 71 rfl)) (by decide) (t := .int) (t' := (.object "com/example/rank60/rank60/FusedList$Explanations")) (by decide) (by decide)))
  have x687 := x678.other W684 (Or.inr (slot_ne (Or.inr (own_wk hw 61 rfl)) (Or.inr (own_wk hw 71 rfl)) (by decide) (t := (.array (.object "java/lang/String"))) (t' := (.object "com/example/rank60/rank60/FusedList$Explanations")) (by decide) (by decide)))
  have x688 := x679.other W684 (Or.inr (slot_ne (Or.inr (own_wk hw 63 rfl)) (Or.inr (own_wk hw 71 rfl)) (by decide) (t := (.array .int)) (t' := (.object "com/example/rank60/rank60/FusedList$Explanations")) (by decide) (by decide)))
  have x689 := x680.other W684 (Or.inr (slot_ne (Or.inr (own_wk hw 65 rfl)) (Or.inr (own_wk hw 71 rfl)) (by decide) (t := (.object "com/example/rank60/rank60/DocumentNumbering")) (t' := (.object "com/example/rank60/rank60/FusedList$Explanations")) (by decide) (by decide)))
  have x690 := x681.other W684 (Or.inr (slot_ne (Or.inr (own_wk hw 67 rfl)) (Or.inr (own_wk hw 71 rfl)) (by decide) (t := (.array .double)) (t' := (.object "com/example/rank60/rank60/FusedList$Explanations")) (by decide) (by decide)))
  have x691 := Fw674.other W684 (Or.inr (slot_ne (Or.inr (own_wk hw 69 rfl)) (Or.inr (own_wk hw 71 rfl)) (by decide) (t := .int) (t' := (.object "com/example/rank60/rank60/FusedList$Explanations")) (by decide) (by decide)))
  have sz692 : n0 ≤ h684.size := Nat.le_trans sz682 (Keep.of_wr W684).1
  have kp693 : Keep h0 h684 [a0] := kp683.wr W684 (Or.inl (List.mem_of_getElem? (i := 0) rfl))
  have N684 := Fr.snoc X684 N674 ge_a0
  obtain ⟨fs, hr, hrun, hended, hW, hsame⟩ := X684.leave (v := none) (fun _ => rfl)
  refine ⟨_, _, pre0 _ ?_, hrun, hended, _, _, rfl, ?_, ⟨_, rfl⟩, hW, hsame.mono (by decide) (by decide)⟩
  · show own_S p e below s₁ (mkF m 0 (own_loc2 a0 a1 a4 p5 a6) []) _
    refine XS.aloadN X0.here hx rfl (hb hby d6_0) rfl rfl ?_
    show own_S p e below s₁ (mkF m 1 (own_loc2 a0 a1 a4 p5 a6) [(.ref a0)]) _
    refine st630.trans ?_
    show own_S p e below T630 (mkF m 4 (own_loc2 a0 a1 a4 p5 a6) []) _
    refine XS.aloadN X630.here hx rfl (hb hby d6_4) rfl rfl ?_
    show own_S p e below T630 (mkF m 5 (own_loc2 a0 a1 a4 p5 a6) [(.ref a0)]) _
    refine XS.aloadN X630.here hx rfl (hb hby d6_5) rfl rfl ?_
    show own_S p e below T630 (mkF m 6 (own_loc2 a0 a1 a4 p5 a6) [(.ref a1), (.ref a0)]) _
    refine st634 _ ?_
    show own_S p e below T634 (mkF m 9 (own_loc2 a0 a1 a4 p5 a6) []) _
    refine XS.aloadN X634.here hx rfl (hb hby d6_9) rfl rfl ?_
    show own_S p e below T634 (mkF m 10 (own_loc2 a0 a1 a4 p5 a6) [(.ref a0)]) _
    refine XS.aloadN X634.here hx rfl (hb hby d6_10) rfl rfl ?_
    show own_S p e below T634 (mkF m 11 (own_loc2 a0 a1 a4 p5 a6) [.null, (.ref a0)]) _
    refine st644 _ ?_
    show own_S p e below T644 (mkF m 14 (own_loc2 a0 a1 a4 p5 a6) []) _
    refine XS.aloadN X644.here hx rfl (hb hby d6_14) rfl rfl ?_
    show own_S p e below T644 (mkF m 15 (own_loc2 a0 a1 a4 p5 a6) [(.ref a0)]) _
    refine XS.aloadN X644.here hx rfl (hb hby d6_15) rfl rfl ?_
    show own_S p e below T644 (mkF m 16 (own_loc2 a0 a1 a4 p5 a6) [.null, (.ref a0)]) _
    refine st654 _ ?_
    show own_S p e below T654 (mkF m 19 (own_loc2 a0 a1 a4 p5 a6) []) _
    refine XS.aloadN X654.here hx rfl (hb hby d6_19) rfl rfl ?_
    show own_S p e below T654 (mkF m 20 (own_loc2 a0 a1 a4 p5 a6) [(.ref a0)]) _
    refine XS.aload X654.here hx rfl (hb hby d6_20) rfl rfl ?_
    show own_S p e below T654 (mkF m 22 (own_loc2 a0 a1 a4 p5 a6) [(.ref a4), (.ref a0)]) _
    refine st664 _ ?_
    show own_S p e below T664 (mkF m 25 (own_loc2 a0 a1 a4 p5 a6) []) _
    refine XS.aloadN X664.here hx rfl (hb hby d6_25) rfl rfl ?_
    show own_S p e below T664 (mkF m 26 (own_loc2 a0 a1 a4 p5 a6) [(.ref a0)]) _
    refine XS.iload X664.here hx rfl (hb hby d6_26) rfl ?_
    show own_S p e below T664 (mkF m 28 (own_loc2 a0 a1 a4 p5 a6) [(.int p5), (.ref a0)]) _
    refine st674 _ ?_
    show own_S p e below T674 (mkF m 31 (own_loc2 a0 a1 a4 p5 a6) []) _
    refine XS.aloadN X674.here hx rfl (hb hby d6_31) rfl rfl ?_
    show own_S p e below T674 (mkF m 32 (own_loc2 a0 a1 a4 p5 a6) [(.ref a0)]) _
    refine XS.aload X674.here hx rfl (hb hby d6_32) rfl rfl ?_
    show own_S p e below T674 (mkF m 34 (own_loc2 a0 a1 a4 p5 a6) [(.ref a6), (.ref a0)]) _
    refine st684 _ ?_
    show own_S p e below T684 (mkF m 37 (own_loc2 a0 a1 a4 p5 a6) []) _
    exact X684.returnOut hx Bd.returns (hb hby d6_37) hr
  · show Q6 Z a0 a1 a4 p5 a6 h0 n0 _ T684.heap _
    rw [e684]
    exact ⟨rfl, N684, kp693, x690, Fw684⟩
theorem ef_5 (m : MethodId) (a0 : Addr) (a1 : Addr) (a2 : Addr) (p3 : Int32) (a4 : Addr) : entryFrame m #[(.ref a0), (.ref a1), (.ref a2), (.int p3), (.ref a4)] 5 = mkF m 0 #[.val (.ref a0), .val (.ref a1), .val (.ref a2), .val (.int p3), .val (.ref a4)] [] := by first | (simp [entryFrame, mkF, argsToLocals, Value.category]; done) | rfl
theorem d5_0 : decode prog_9_method_1_code 0 = .ok (.aload_n 0, 1) := by decide +kernel
theorem d5_1 : decode prog_9_method_1_code 1 = .ok (.aload_n 1, 1) := by decide +kernel
theorem d5_2 : decode prog_9_method_1_code 2 = .ok (.aconst_null, 1) := by decide +kernel
theorem d5_3 : decode prog_9_method_1_code 3 = .ok (.aconst_null, 1) := by decide +kernel
theorem d5_4 : decode prog_9_method_1_code 4 = .ok (.aload_n 2, 1) := by decide +kernel
theorem d5_5 : decode prog_9_method_1_code 5 = .ok (.iload_n 3, 1) := by decide +kernel
theorem d5_6 : decode prog_9_method_1_code 6 = .ok (.aload 4, 2) := by decide +kernel
theorem pd_13 : parseMethodDescriptor "([Ljava/lang/String;[ILcom/example/rank60/rank60/DocumentNumbering;[DILcom/example/rank60/rank60/FusedList$Explanations;)V" = some ⟨[(.array (.object "java/lang/String")), (.array .int), (.object "com/example/rank60/rank60/DocumentNumbering"), (.array .double), .int, (.object "com/example/rank60/rank60/FusedList$Explanations")], none⟩ := by decide +kernel
theorem d5_8 : decode prog_9_method_1_code 8 = .ok (.invokespecial 1, 3) := by decide +kernel
theorem d5_11 : decode prog_9_method_1_code 11 = .ok (.return_, 1) := by decide +kernel
def Q5 (Z : State) (a0 : Addr) (a1 : Addr) (a2 : Addr) (p3 : Int32) (a4 : Addr) (h0 : Heap) (n0 : Nat) (v : Option Value) (h : Heap) (L : List Loc) : Prop := v = none ∧ Fr n0 L ∧ Keep h0 h [a0] ∧ Fld Z h a0 "com/example/rank60/rank60/FusedList" "scores" "[D" (.ref a2) ∧ Fld Z h a0 "com/example/rank60/rank60/FusedList" "explanations" "Lcom/example/rank60/rank60/FusedList$Explanations;" (.ref a4)
set_option maxRecDepth 65536 in
set_option maxHeartbeats 40000000 in
theorem rm5 (l : Launch) (Z : State) (ag : Array Value) (hw : ∀ d ∈ tables_1, d.before ag Z = true) (ws : List Jvm.Cond) (a0 : Addr) (a1 : Addr) (a2 : Addr) (p3 : Int32) (a4 : Addr) (h0 : Heap) (n0 : Nat) (Z0 : n0 ≤ h0.size) (E_a0 : Exa Z h0 a0 "com/example/rank60/rank60/FusedList") (F_modCount_a0 : Fld Z h0 a0 "java/util/AbstractList" "modCount" "I" (.int (0 : Int32))) (F_ids_a0 : Fld Z h0 a0 "com/example/rank60/rank60/FusedList" "ids" "[Ljava/lang/String;" .null) (F_documents_a0 : Fld Z h0 a0 "com/example/rank60/rank60/FusedList" "documents" "[I" .null) (F_numbering_a0 : Fld Z h0 a0 "com/example/rank60/rank60/FusedList" "numbering" "Lcom/example/rank60/rank60/DocumentNumbering;" .null) (F_scores_a0 : Fld Z h0 a0 "com/example/rank60/rank60/FusedList" "scores" "[D" .null) (F_explanations_a0 : Fld Z h0 a0 "com/example/rank60/rank60/FusedList" "explanations" "Lcom/example/rank60/rank60/FusedList$Explanations;" .null) (F_firstRank_a0 : Fld Z h0 a0 "com/example/rank60/rank60/FusedList" "firstRank" "I" (.int (0 : Int32))) (ge_a0 : n0 ≤ a0) :
    MetFree l (⟨"com/example/rank60/rank60/FusedList", "<init>", "([Ljava/lang/String;[DILcom/example/rank60/rank60/FusedList$Explanations;)V"⟩ : MethodName) (head1 (Jvm.Cond.code (⟨"com/example/rank60/rank60/FusedList", "<init>", "([Ljava/lang/String;[DILcom/example/rank60/rank60/FusedList$Explanations;)V"⟩ : MethodName) prog_9_method_1_code 5 none :: ws) ({ frames := 4, cells := 0, slots := 0, locals := 54 } : Room)) (fun a U => a = #[(.ref a0), (.ref a1), (.ref a2), (.int p3), (.ref a4)] ∧ Z.Warmed39 U.vm ∧ U.heap = h0) (fun _ _ _ _ _ => True) (fun _ U o U' => ∃ v L, o = .returned v ∧ Q5 Z a0 a1 a2 p3 a4 h0 n0 v U'.heap L ∧ FrameEnd U o U' L ({ frames := 4, cells := 0, slots := 0, locals := 54 } : Room).cells ({ frames := 4, cells := 0, slots := 0, locals := 54 } : Room).slots) := by
  refine MetFree.of_bodySF (plainFor_of_name pn_2) hisR ?_
  intro p e s m args below meth c s₁ Bd hml0 hP hK
  obtain ⟨rfl, hZ, hh⟩ := hP
  have hx := Bd.exec
  have hby := Bd.bytes
  have hml : c.maxLocals = 5 := hml0
  have hown : s.vm.findClass "com/example/rank60/rank60/FusedList" = some m.cls := findClass_of_methodNamed Bd.named
  have hnm := (name_of_methodNamed Bd.named Bd.method).1
  have X0 : Stand p l e ({ frames := 4, cells := 0, slots := 0, locals := 54 } : Room) s m #[(.ref a0), (.ref a1), (.ref a2), (.int p3), (.ref a4)] below meth c s₁ [] 0 0 := Stand.of_body Bd
  have e0 : s₁.heap = h0 := by rw [← hh, Bd.state]; rfl
  have N0 := Fr.nil n0
  have pre0 : ∀ t, Steps p.tables e below (s₁.setTop (mkF m 0 #[.val (.ref a0), .val (.ref a1), .val (.ref a2), .val (.int p3), .val (.ref a4)] [])) t → Steps p.tables e below (s₁.setTop (entryFrame m #[(.ref a0), (.ref a1), (.ref a2), (.int p3), (.ref a4)] 5)) t := fun t k => castTop (ef_5 m a0 a1 a2 p3 a4) k
  obtain ⟨_, _, ⟨T694, L694, k694, n694⟩, -, X694, ⟨Lc694, hQ694, l694, y694, z694⟩, st694⟩ := X0.specialBack hx (y := (⟨"com/example/rank60/rank60/FusedList", "<init>", "([Ljava/lang/String;[ILcom/example/rank60/rank60/DocumentNumbering;[DILcom/example/rank60/rank60/FusedList$Explanations;)V"⟩ : MethodName)) rfl hown (mvT hZ (own_wk hw 43 rfl)) (mvT hZ (own_wk hw 44 rfl)) (mvT hZ (own_wk hw 45 rfl)) (by decide) (backOf (W := 0) (rm6 l Z ag hw [] a0 a1 a2 p3 a4  h0 n0 Z0 E_a0 F_modCount_a0 F_ids_a0 F_documents_a0 F_numbering_a0 F_scores_a0 F_explanations_a0 F_firstRank_a0 ge_a0) hZ (own_wk hw 45 rfl) (own_wk hw 39 rfl) (by decide) (by decide)) (g := (mkF m 8 #[.val (.ref a0), .val (.ref a1), .val (.ref a2), .val (.int p3), .val (.ref a4)] [(.ref a4), (.int p3), (.ref a2), .null, .null, (.ref a1), (.ref a0)])) rfl (by rw [hml]; rfl) (Steps.refl _) (a := a0) (argsL := [(.ref a1), .null, .null, (.ref a2), (.int p3), (.ref a4)]) (rest := []) (lenOf pd_13 rfl) rfl (by show 2 * 0 + _ ≤ _; exact Nat.le_of_eq rfl) (hb hby d5_8) (fun _ _ => ⟨rfl, e0, (by decide : 0 + 0 ≤ _), (by decide : 0 + 0 ≤ _)⟩)
  dsimp only [Pt.U, Pt.locs, Pt.cells, Pt.slots] at X694 l694 y694 z694 st694 hQ694
  subst l694 y694 z694
  obtain ⟨rfl, N694q, K694, o694_0, o694_1⟩ := hQ694
  have N694 := Fr.app N0 N694q
  have x695 := E_a0.keep K694
  have sz696 : n0 ≤ T694.heap.size := Nat.le_trans Z0 K694.1
  have kp697 : Keep h0 T694.heap [a0] := (Keep.refl h0 [a0]).trans K694 (allS (Or.inl (List.mem_of_getElem? (i := 0) rfl)) all0)
  obtain ⟨fs, hr, hrun, hended, hW, hsame⟩ := X694.leave (v := none) (fun _ => rfl)
  refine ⟨_, _, pre0 _ ?_, hrun, hended, _, _, rfl, ?_, ⟨_, rfl⟩, hW, hsame.mono (by decide) (by decide)⟩
  · show own_S p e below s₁ (mkF m 0 #[.val (.ref a0), .val (.ref a1), .val (.ref a2), .val (.int p3), .val (.ref a4)] []) _
    refine XS.aloadN X0.here hx rfl (hb hby d5_0) rfl rfl ?_
    show own_S p e below s₁ (mkF m 1 #[.val (.ref a0), .val (.ref a1), .val (.ref a2), .val (.int p3), .val (.ref a4)] [(.ref a0)]) _
    refine XS.aloadN X0.here hx rfl (hb hby d5_1) rfl rfl ?_
    show own_S p e below s₁ (mkF m 2 #[.val (.ref a0), .val (.ref a1), .val (.ref a2), .val (.int p3), .val (.ref a4)] [(.ref a1), (.ref a0)]) _
    refine XS.aconstNull X0.here hx rfl (hb hby d5_2) ?_
    show own_S p e below s₁ (mkF m 3 #[.val (.ref a0), .val (.ref a1), .val (.ref a2), .val (.int p3), .val (.ref a4)] [.null, (.ref a1), (.ref a0)]) _
    refine XS.aconstNull X0.here hx rfl (hb hby d5_3) ?_
    show own_S p e below s₁ (mkF m 4 #[.val (.ref a0), .val (.ref a1), .val (.ref a2), .val (.int p3), .val (.ref a4)] [.null, .null, (.ref a1), (.ref a0)]) _
    refine XS.aloadN X0.here hx rfl (hb hby d5_4) rfl rfl ?_
    show own_S p e below s₁ (mkF m 5 #[.val (.ref a0), .val (.ref a1), .val (.ref a2), .val (.int p3), .val (.ref a4)] [(.ref a2), .null, .null, (.ref a1), (.ref a0)]) _
    refine XS.iloadN X0.here hx rfl (hb hby d5_5) rfl ?_
    show own_S p e below s₁ (mkF m 6 #[.val (.ref a0), .val (.ref a1), .val (.ref a2), .val (.int p3), .val (.ref a4)] [(.int p3), (.ref a2), .null, .null, (.ref a1), (.ref a0)]) _
    refine XS.aload X0.here hx rfl (hb hby d5_6) rfl rfl ?_
    show own_S p e below s₁ (mkF m 8 #[.val (.ref a0), .val (.ref a1), .val (.ref a2), .val (.int p3), .val (.ref a4)] [(.ref a4), (.int p3), (.ref a2), .null, .null, (.ref a1), (.ref a0)]) _
    refine st694.trans ?_
    show own_S p e below T694 (mkF m 11 #[.val (.ref a0), .val (.ref a1), .val (.ref a2), .val (.int p3), .val (.ref a4)] []) _
    exact X694.returnOut hx Bd.returns (hb hby d5_11) hr
  · show Q5 Z a0 a1 a2 p3 a4 h0 n0 _ T694.heap _
    exact ⟨rfl, N694, kp697, o694_0, o694_1⟩
theorem ef_13 (m : MethodId) (a0 : Addr) (a1 : Addr) (p2 : Int32) (p3 : Int32) : entryFrame m #[(.ref a0), (.ref a1), (.int p2), (.int p3)] 4 = mkF m 0 #[.val (.ref a0), .val (.ref a1), .val (.int p2), .val (.int p3)] [] := by first | (simp [entryFrame, mkF, argsToLocals, Value.category]; done) | rfl
theorem d13_0 : decode prog_11_method_1_code 0 = .ok (.aload_n 0, 1) := by decide +kernel
theorem d13_1 : decode prog_11_method_1_code 1 = .ok (.aload_n 1, 1) := by decide +kernel
theorem d13_2 : decode prog_11_method_1_code 2 = .ok (.putfield 1, 3) := by decide +kernel
theorem d13_5 : decode prog_11_method_1_code 5 = .ok (.aload_n 0, 1) := by decide +kernel
theorem d13_6 : decode prog_11_method_1_code 6 = .ok (.invokespecial 7, 3) := by decide +kernel
theorem d13_9 : decode prog_11_method_1_code 9 = .ok (.aload_n 0, 1) := by decide +kernel
theorem d13_10 : decode prog_11_method_1_code 10 = .ok (.iload_n 2, 1) := by decide +kernel
theorem d13_11 : decode prog_11_method_1_code 11 = .ok (.putfield 13, 3) := by decide +kernel
theorem d13_14 : decode prog_11_method_1_code 14 = .ok (.aload_n 0, 1) := by decide +kernel
theorem d13_15 : decode prog_11_method_1_code 15 = .ok (.iload_n 3, 1) := by decide +kernel
theorem d13_16 : decode prog_11_method_1_code 16 = .ok (.putfield 17, 3) := by decide +kernel
theorem d13_19 : decode prog_11_method_1_code 19 = .ok (.return_, 1) := by decide +kernel
def Q13 (Z : State) (a0 : Addr) (a1 : Addr) (p2 : Int32) (p3 : Int32) (h0 : Heap) (n0 : Nat) (v : Option Value) (h : Heap) (L : List Loc) : Prop := v = none ∧ Fr n0 L ∧ Keep h0 h [a0] ∧ Fld Z h a0 "com/example/rank60/rank60/FusedList$Explanations$DocumentContributions" "this$0" "Lcom/example/rank60/rank60/FusedList$Explanations;" (.ref a1) ∧ Fld Z h a0 "com/example/rank60/rank60/FusedList$Explanations$DocumentContributions" "start" "I" (.int p2) ∧ Fld Z h a0 "com/example/rank60/rank60/FusedList$Explanations$DocumentContributions" "size" "I" (.int p3)
set_option maxRecDepth 65536 in
set_option maxHeartbeats 40000000 in
theorem rm13 (l : Launch) (Z : State) (ag : Array Value) (hw : ∀ d ∈ tables_1, d.before ag Z = true) (ws : List Jvm.Cond) (a0 : Addr) (a1 : Addr) (p2 : Int32) (p3 : Int32) (h0 : Heap) (n0 : Nat) (Z0 : n0 ≤ h0.size) (E_a0 : Exa Z h0 a0 "com/example/rank60/rank60/FusedList$Explanations$DocumentContributions") (F_modCount_a0 : Fld Z h0 a0 "java/util/AbstractList" "modCount" "I" (.int (0 : Int32))) (F_this_0_a0 : Fld Z h0 a0 "com/example/rank60/rank60/FusedList$Explanations$DocumentContributions" "this$0" "Lcom/example/rank60/rank60/FusedList$Explanations;" .null) (F_start_a0 : Fld Z h0 a0 "com/example/rank60/rank60/FusedList$Explanations$DocumentContributions" "start" "I" (.int (0 : Int32))) (F_size_a0 : Fld Z h0 a0 "com/example/rank60/rank60/FusedList$Explanations$DocumentContributions" "size" "I" (.int (0 : Int32))) (ge_a0 : n0 ≤ a0) :
    MetFree l (⟨"com/example/rank60/rank60/FusedList$Explanations$DocumentContributions", "<init>", "(Lcom/example/rank60/rank60/FusedList$Explanations;II)V"⟩ : MethodName) (head1 (Jvm.Cond.code (⟨"com/example/rank60/rank60/FusedList$Explanations$DocumentContributions", "<init>", "(Lcom/example/rank60/rank60/FusedList$Explanations;II)V"⟩ : MethodName) prog_11_method_1_code 4 none :: ws) ({ frames := 3, cells := 0, slots := 0, locals := 36 } : Room)) (fun a U => a = #[(.ref a0), (.ref a1), (.int p2), (.int p3)] ∧ Z.Warmed39 U.vm ∧ U.heap = h0) (fun _ _ _ _ _ => True) (fun _ U o U' => ∃ v L, o = .returned v ∧ Q13 Z a0 a1 p2 p3 h0 n0 v U'.heap L ∧ FrameEnd U o U' L ({ frames := 3, cells := 0, slots := 0, locals := 36 } : Room).cells ({ frames := 3, cells := 0, slots := 0, locals := 36 } : Room).slots) := by
  refine MetFree.of_bodySF (plainFor_of_name pn_4) hisR ?_
  intro p e s m args below meth c s₁ Bd hml0 hP hK
  obtain ⟨rfl, hZ, hh⟩ := hP
  have hx := Bd.exec
  have hby := Bd.bytes
  have hml : c.maxLocals = 4 := hml0
  have hown : s.vm.findClass "com/example/rank60/rank60/FusedList$Explanations$DocumentContributions" = some m.cls := findClass_of_methodNamed Bd.named
  have hnm := (name_of_methodNamed Bd.named Bd.method).1
  have X0 : Stand p l e ({ frames := 3, cells := 0, slots := 0, locals := 36 } : Room) s m #[(.ref a0), (.ref a1), (.int p2), (.int p3)] below meth c s₁ [] 0 0 := Stand.of_body Bd
  have e0 : s₁.heap = h0 := by rw [← hh, Bd.state]; rfl
  have N0 := Fr.nil n0
  have pre0 : ∀ t, Steps p.tables e below (s₁.setTop (mkF m 0 #[.val (.ref a0), .val (.ref a1), .val (.int p2), .val (.int p3)] [])) t → Steps p.tables e below (s₁.setTop (entryFrame m #[(.ref a0), (.ref a1), (.int p2), (.int p3)] 4)) t := fun t k => castTop (ef_13 m a0 a1 p2 p3) k
  obtain ⟨T698, h698, X698, e698, W698, st698⟩ := putF X0 hx hZ hown (host := "") (Or.inl (own_wk hw 95 rfl)) Via.refl e0 F_this_0_a0 E_a0 (Or.inr ⟨(own_wk hw 96 rfl), rfl, hnm⟩) (own_wk hw 90 rfl) (ty := (.object "com/example/rank60/rank60/FusedList$Explanations")) (by decide) rfl rfl (g := (mkF m 2 #[.val (.ref a0), .val (.ref a1), .val (.int p2), .val (.int p3)] [(.ref a1), (.ref a0)])) rfl rfl (hb hby d13_2)
  have Fw698 := F_this_0_a0.same W698
  have x699 := E_a0.wr W698
  have x700 := F_modCount_a0.other W698 (Or.inr (slot_ne (Or.inl (own_wk hw 99 rfl)) (Or.inr (own_wk hw 96 rfl)) (by decide) (t := .int) (t' := (.object "com/example/rank60/rank60/FusedList$Explanations")) (by decide) (by decide)))
  have x701 := F_start_a0.other W698 (Or.inr (slot_ne (Or.inr (own_wk hw 101 rfl)) (Or.inr (own_wk hw 96 rfl)) (by decide) (t := .int) (t' := (.object "com/example/rank60/rank60/FusedList$Explanations")) (by decide) (by decide)))
  have x702 := F_size_a0.other W698 (Or.inr (slot_ne (Or.inr (own_wk hw 103 rfl)) (Or.inr (own_wk hw 96 rfl)) (by decide) (t := .int) (t' := (.object "com/example/rank60/rank60/FusedList$Explanations")) (by decide) (by decide)))
  have sz703 : n0 ≤ h698.size := Nat.le_trans Z0 (Keep.of_wr W698).1
  have kp704 : Keep h0 h698 [a0] := (Keep.refl h0 [a0]).wr W698 (Or.inl (List.mem_of_getElem? (i := 0) rfl))
  have N698 := Fr.snoc X698 N0 ge_a0
  obtain ⟨_, _, ⟨T705, L705, k705, n705⟩, -, X705, ⟨Lc705, hQ705, l705, y705, z705⟩, st705⟩ := X698.specialBack hx (y := (⟨"java/util/AbstractList", "<init>", "()V"⟩ : MethodName)) rfl hown (mvT hZ (own_wk hw 97 rfl)) (mvT hZ (own_wk hw 47 rfl)) (mvT hZ (own_wk hw 50 rfl)) (by decide) (backOf (W := 0) (rm7_d l Z ag hw [] a0 a1 h698 n0 sz703 x699 x700 Fw698 x701 x702 ge_a0) hZ (own_wk hw 50 rfl) (own_wk hw 49 rfl) (by decide) (by decide)) (g := (mkF m 6 #[.val (.ref a0), .val (.ref a1), .val (.int p2), .val (.int p3)] [(.ref a0)])) rfl (by rw [hml]; rfl) (Steps.refl _) (a := a0) (argsL := []) (rest := []) (lenOf pd_2 rfl) rfl (by show 2 * 0 + _ ≤ _; exact Nat.le_of_eq rfl) (hb hby d13_6) (fun _ _ => ⟨rfl, e698, (by decide : 0 + 0 ≤ _), (by decide : 0 + 0 ≤ _)⟩)
  dsimp only [Pt.U, Pt.locs, Pt.cells, Pt.slots] at X705 l705 y705 z705 st705 hQ705
  subst l705 y705 z705
  obtain ⟨rfl, N705q, K705, o705_0, o705_1, o705_2, o705_3⟩ := hQ705
  have N705 := Fr.app N698 N705q
  have x706 := x699.keep K705
  have sz707 : n0 ≤ T705.heap.size := Nat.le_trans sz703 K705.1
  have kp708 : Keep h0 T705.heap [a0] := kp704.trans K705 (allS (Or.inl (List.mem_of_getElem? (i := 0) rfl)) all0)
  obtain ⟨T709, h709, X709, e709, W709, st709⟩ := putF X705 hx hZ hown (host := "") (Or.inl (own_wk hw 100 rfl)) Via.refl rfl o705_2 x706 (Or.inr ⟨(own_wk hw 101 rfl), rfl, hnm⟩) (own_wk hw 90 rfl) (ty := .int) (by decide) rfl rfl (g := (mkF m 11 #[.val (.ref a0), .val (.ref a1), .val (.int p2), .val (.int p3)] [(.int p2), (.ref a0)])) rfl rfl (hb hby d13_11)
  have Fw709 := o705_2.same W709
  have x710 := x706.wr W709
  have x711 := o705_0.other W709 (Or.inr (slot_ne (Or.inl (own_wk hw 99 rfl)) (Or.inr (own_wk hw 101 rfl)) (by decide) (t := .int) (t' := .int) (by decide) (by decide)))
  have x712 := o705_1.other W709 (Or.inr (slot_ne (Or.inr (own_wk hw 96 rfl)) (Or.inr (own_wk hw 101 rfl)) (by decide) (t := (.object "com/example/rank60/rank60/FusedList$Explanations")) (t' := .int) (by decide) (by decide)))
  have x713 := o705_3.other W709 (Or.inr (slot_ne (Or.inr (own_wk hw 103 rfl)) (Or.inr (own_wk hw 101 rfl)) (by decide) (t := .int) (t' := .int) (by decide) (by decide)))
  have sz714 : n0 ≤ h709.size := Nat.le_trans sz707 (Keep.of_wr W709).1
  have kp715 : Keep h0 h709 [a0] := kp708.wr W709 (Or.inl (List.mem_of_getElem? (i := 0) rfl))
  have N709 := Fr.snoc X709 N705 ge_a0
  obtain ⟨T716, h716, X716, e716, W716, st716⟩ := putF X709 hx hZ hown (host := "") (Or.inl (own_wk hw 102 rfl)) Via.refl e709 x713 x710 (Or.inr ⟨(own_wk hw 103 rfl), rfl, hnm⟩) (own_wk hw 90 rfl) (ty := .int) (by decide) rfl rfl (g := (mkF m 16 #[.val (.ref a0), .val (.ref a1), .val (.int p2), .val (.int p3)] [(.int p3), (.ref a0)])) rfl rfl (hb hby d13_16)
  have Fw716 := x713.same W716
  have x717 := x710.wr W716
  have x718 := x711.other W716 (Or.inr (slot_ne (Or.inl (own_wk hw 99 rfl)) (Or.inr (own_wk hw 103 rfl)) (by decide) (t := .int) (t' := .int) (by decide) (by decide)))
  have x719 := x712.other W716 (Or.inr (slot_ne (Or.inr (own_wk hw 96 rfl)) (Or.inr (own_wk hw 103 rfl)) (by decide) (t := (.object "com/example/rank60/rank60/FusedList$Explanations")) (t' := .int) (by decide) (by decide)))
  have x720 := Fw709.other W716 (Or.inr (slot_ne (Or.inr (own_wk hw 101 rfl)) (Or.inr (own_wk hw 103 rfl)) (by decide) (t := .int) (t' := .int) (by decide) (by decide)))
  have sz721 : n0 ≤ h716.size := Nat.le_trans sz714 (Keep.of_wr W716).1
  have kp722 : Keep h0 h716 [a0] := kp715.wr W716 (Or.inl (List.mem_of_getElem? (i := 0) rfl))
  have N716 := Fr.snoc X716 N709 ge_a0
  obtain ⟨fs, hr, hrun, hended, hW, hsame⟩ := X716.leave (v := none) (fun _ => rfl)
  refine ⟨_, _, pre0 _ ?_, hrun, hended, _, _, rfl, ?_, ⟨_, rfl⟩, hW, hsame.mono (by decide) (by decide)⟩
  · show own_S p e below s₁ (mkF m 0 #[.val (.ref a0), .val (.ref a1), .val (.int p2), .val (.int p3)] []) _
    refine XS.aloadN X0.here hx rfl (hb hby d13_0) rfl rfl ?_
    show own_S p e below s₁ (mkF m 1 #[.val (.ref a0), .val (.ref a1), .val (.int p2), .val (.int p3)] [(.ref a0)]) _
    refine XS.aloadN X0.here hx rfl (hb hby d13_1) rfl rfl ?_
    show own_S p e below s₁ (mkF m 2 #[.val (.ref a0), .val (.ref a1), .val (.int p2), .val (.int p3)] [(.ref a1), (.ref a0)]) _
    refine st698 _ ?_
    show own_S p e below T698 (mkF m 5 #[.val (.ref a0), .val (.ref a1), .val (.int p2), .val (.int p3)] []) _
    refine XS.aloadN X698.here hx rfl (hb hby d13_5) rfl rfl ?_
    show own_S p e below T698 (mkF m 6 #[.val (.ref a0), .val (.ref a1), .val (.int p2), .val (.int p3)] [(.ref a0)]) _
    refine st705.trans ?_
    show own_S p e below T705 (mkF m 9 #[.val (.ref a0), .val (.ref a1), .val (.int p2), .val (.int p3)] []) _
    refine XS.aloadN X705.here hx rfl (hb hby d13_9) rfl rfl ?_
    show own_S p e below T705 (mkF m 10 #[.val (.ref a0), .val (.ref a1), .val (.int p2), .val (.int p3)] [(.ref a0)]) _
    refine XS.iloadN X705.here hx rfl (hb hby d13_10) rfl ?_
    show own_S p e below T705 (mkF m 11 #[.val (.ref a0), .val (.ref a1), .val (.int p2), .val (.int p3)] [(.int p2), (.ref a0)]) _
    refine st709 _ ?_
    show own_S p e below T709 (mkF m 14 #[.val (.ref a0), .val (.ref a1), .val (.int p2), .val (.int p3)] []) _
    refine XS.aloadN X709.here hx rfl (hb hby d13_14) rfl rfl ?_
    show own_S p e below T709 (mkF m 15 #[.val (.ref a0), .val (.ref a1), .val (.int p2), .val (.int p3)] [(.ref a0)]) _
    refine XS.iloadN X709.here hx rfl (hb hby d13_15) rfl ?_
    show own_S p e below T709 (mkF m 16 #[.val (.ref a0), .val (.ref a1), .val (.int p2), .val (.int p3)] [(.int p3), (.ref a0)]) _
    refine st716 _ ?_
    show own_S p e below T716 (mkF m 19 #[.val (.ref a0), .val (.ref a1), .val (.int p2), .val (.int p3)] []) _
    exact X716.returnOut hx Bd.returns (hb hby d13_19) hr
  · show Q13 Z a0 a1 p2 p3 h0 n0 _ T716.heap _
    rw [e716]
    exact ⟨rfl, N716, kp722, x719, x720, Fw716⟩
theorem ef_12_v0 (m : MethodId) (a0 : Addr) : entryFrame m #[(.ref a0), (.int (0 : Int32))] 4 = mkF m 0 #[.val (.ref a0), .val (.int 0), .unset, .unset] [] := by first | (simp [entryFrame, mkF, argsToLocals, Value.category]; done) | rfl
theorem d12_0 : decode prog_10_method_4_code 0 = .ok (.aload_n 0, 1) := by decide +kernel
theorem d12_1 : decode prog_10_method_4_code 1 = .ok (.getfield 7, 3) := by decide +kernel
theorem d12_4 : decode prog_10_method_4_code 4 = .ok (.iload_n 1, 1) := by decide +kernel
theorem d12_5 : decode prog_10_method_4_code 5 = .ok (.iaload, 1) := by decide +kernel
theorem d12_6 : decode prog_10_method_4_code 6 = .ok (.istore_n 2, 1) := by decide +kernel
theorem d12_7 : decode prog_10_method_4_code 7 = .ok (.aload_n 0, 1) := by decide +kernel
theorem d12_8 : decode prog_10_method_4_code 8 = .ok (.getfield 7, 3) := by decide +kernel
theorem d12_11 : decode prog_10_method_4_code 11 = .ok (.iload_n 1, 1) := by decide +kernel
theorem d12_12 : decode prog_10_method_4_code 12 = .ok (.iconst 1, 1) := by decide +kernel
theorem d12_13 : decode prog_10_method_4_code 13 = .ok (.iadd, 1) := by decide +kernel
theorem d12_14 : decode prog_10_method_4_code 14 = .ok (.iaload, 1) := by decide +kernel
theorem d12_15 : decode prog_10_method_4_code 15 = .ok (.iload_n 2, 1) := by decide +kernel
theorem d12_16 : decode prog_10_method_4_code 16 = .ok (.isub, 1) := by decide +kernel
theorem d12_17 : decode prog_10_method_4_code 17 = .ok (.istore_n 3, 1) := by decide +kernel
theorem d12_18 : decode prog_10_method_4_code 18 = .ok (.new 33, 3) := by decide +kernel
theorem d12_21 : decode prog_10_method_4_code 21 = .ok (.dup, 1) := by decide +kernel
theorem d12_22 : decode prog_10_method_4_code 22 = .ok (.aload_n 0, 1) := by decide +kernel
theorem d12_23 : decode prog_10_method_4_code 23 = .ok (.iload_n 2, 1) := by decide +kernel
theorem d12_24 : decode prog_10_method_4_code 24 = .ok (.iload_n 3, 1) := by decide +kernel
theorem pd_11 : parseMethodDescriptor "(Lcom/example/rank60/rank60/FusedList$Explanations;II)V" = some ⟨[(.object "com/example/rank60/rank60/FusedList$Explanations"), .int, .int], none⟩ := by decide +kernel
theorem d12_25 : decode prog_10_method_4_code 25 = .ok (.invokespecial 35, 3) := by decide +kernel
theorem d12_28 : decode prog_10_method_4_code 28 = .ok (.areturn, 1) := by decide +kernel
def Q12_0 (Z : State) (a0 : Addr) (az : Addr) (kt : ClassId) (x0 : Int32) (x1 : Int32) (x2 : Int32) (h0 : Heap) (n0 : Nat) (v : Option Value) (h : Heap) (L : List Loc) : Prop := ∃ r : Addr, v = some (.ref r) ∧ Fr n0 L ∧ Keep h0 h [] ∧ n0 ≤ r ∧ h0.size ≤ r ∧ Exa Z h r "com/example/rank60/rank60/FusedList$Explanations$DocumentContributions" ∧ Fld Z h r "com/example/rank60/rank60/FusedList$Explanations$DocumentContributions" "this$0" "Lcom/example/rank60/rank60/FusedList$Explanations;" (.ref a0) ∧ Fld Z h r "com/example/rank60/rank60/FusedList$Explanations$DocumentContributions" "start" "I" (.int x0) ∧ Fld Z h r "com/example/rank60/rank60/FusedList$Explanations$DocumentContributions" "size" "I" (.int (x1 - x0))
set_option maxRecDepth 65536 in
set_option maxHeartbeats 40000000 in
theorem rm12_0 (l : Launch) (Z : State) (ag : Array Value) (hw : ∀ d ∈ tables_1, d.before ag Z = true) (ws : List Jvm.Cond) (a0 : Addr) (az : Addr) (kt : ClassId) (x0 : Int32) (x1 : Int32) (x2 : Int32) (h0 : Heap) (n0 : Nat) (Z0 : n0 ≤ h0.size) (E_a0 : Exa Z h0 a0 "com/example/rank60/rank60/FusedList$Explanations") (F_starts_a0 : Fld Z h0 a0 "com/example/rank60/rank60/FusedList$Explanations" "starts" "[I" (.ref az)) (V_az : Arv Z h0 az kt .int (3 : Int32) [(.int x0), (.int x1), (.int x2)] (.int (0 : Int32))) :
    MetFree l (⟨"com/example/rank60/rank60/FusedList$Explanations", "of", "(I)Ljava/util/List;"⟩ : MethodName) (head1 (Jvm.Cond.code (⟨"com/example/rank60/rank60/FusedList$Explanations", "of", "(I)Ljava/util/List;"⟩ : MethodName) prog_10_method_4_code 4 (some (.object "java/util/List")) :: ws) ({ frames := 4, cells := 1, slots := 4, locals := 52 } : Room)) (fun a U => a = #[(.ref a0), (.int (0 : Int32))] ∧ Z.Warmed39 U.vm ∧ U.heap = h0) (fun _ _ _ _ _ => True) (fun _ U o U' => ∃ v L, o = .returned v ∧ Q12_0 Z a0 az kt x0 x1 x2 h0 n0 v U'.heap L ∧ FrameEnd U o U' L ({ frames := 4, cells := 1, slots := 4, locals := 52 } : Room).cells ({ frames := 4, cells := 1, slots := 4, locals := 52 } : Room).slots) := by
  refine MetFree.of_bodySF (plainFor_of_name pn_3) hisR ?_
  intro p e s m args below meth c s₁ Bd hml0 hP hK
  obtain ⟨rfl, hZ, hh⟩ := hP
  have hx := Bd.exec
  have hby := Bd.bytes
  have hml : c.maxLocals = 4 := hml0
  have hown : s.vm.findClass "com/example/rank60/rank60/FusedList$Explanations" = some m.cls := findClass_of_methodNamed Bd.named
  have hnm := (name_of_methodNamed Bd.named Bd.method).1
  have X0 : Stand p l e ({ frames := 4, cells := 1, slots := 4, locals := 52 } : Room) s m #[(.ref a0), (.int (0 : Int32))] below meth c s₁ [] 0 0 := Stand.of_body Bd
  have e0 : s₁.heap = h0 := by rw [← hh, Bd.state]; rfl
  have N0 := Fr.nil n0
  have pre0 : ∀ t, Steps p.tables e below (s₁.setTop (mkF m 0 #[.val (.ref a0), .val (.int 0), .unset, .unset] [])) t → Steps p.tables e below (s₁.setTop (entryFrame m #[(.ref a0), (.int (0 : Int32))] 4)) t := fun t k => castTop (ef_12_v0 m a0) k
  obtain ⟨T723, X723, e723, st723⟩ := getF X0 hx hZ hown (host := "") (Or.inl (own_wk hw 10 rfl)) Via.refl e0 F_starts_a0 (g := (mkF m 1 #[.val (.ref a0), .val (.int 0), .unset, .unset] [(.ref a0)])) rfl rfl (hb hby d12_1)
  obtain ⟨cl724, Ar724, q724, S724, M724, H724, G724⟩ := id V_az
  have hin724 : ¬ ((0 : Int32) < 0 ∨ cl724.slots.size ≤ ((0 : Int32)).toNatClampNeg) := inb_of S724 ⟨(by decide : ¬ (0 : Int32) < 0), (by decide : (0 : Int32) < (3 : Int32))⟩
  have hat724 : cl724.slots[((0 : Int32)).toNatClampNeg]? = some (.int x0) := Has.at H724 hin724 rfl
  have ld724 := X723.iaload hx (j := (0 : Int32)) (v := (.int x0)) (by rw [e723]; exact Ar724.1) (State.isArrayOf_alike hZ.alike Ar724.2.1) Ar724.2.2 hin724 hat724 (g := (mkF m 5 #[.val (.ref a0), .val (.int 0), .unset, .unset] [.int 0, (.ref az)])) rfl rfl (hb hby d12_5)
  obtain ⟨T725, X725, e725, st725⟩ := getF X723 hx hZ hown (host := "") (Or.inl (own_wk hw 10 rfl)) Via.refl e723 F_starts_a0 (g := (mkF m 8 #[.val (.ref a0), .val (.int 0), .val (.int x0), .unset] [(.ref a0)])) rfl rfl (hb hby d12_8)
  obtain ⟨cl726, Ar726, q726, S726, M726, H726, G726⟩ := id V_az
  have hin726 : ¬ ((1 : Int32) < 0 ∨ cl726.slots.size ≤ ((1 : Int32)).toNatClampNeg) := inb_of S726 ⟨(by decide : ¬ (1 : Int32) < 0), (by decide : (1 : Int32) < (3 : Int32))⟩
  have hat726 : cl726.slots[((1 : Int32)).toNatClampNeg]? = some (.int x1) := Has.at H726 hin726 rfl
  have ld726 := X725.iaload hx (j := (1 : Int32)) (v := (.int x1)) (by rw [e725]; exact Ar726.1) (State.isArrayOf_alike hZ.alike Ar726.2.1) Ar726.2.2 hin726 hat726 (g := (mkF m 14 #[.val (.ref a0), .val (.int 0), .val (.int x0), .unset] [.int 1, (.ref az)])) rfl rfl (hb hby d12_14)
  obtain ⟨T727, h727, X727, e727, E727, A727, D727, -, st727⟩ := newO X725 hx hZ hown (own_wk hw 89 rfl) (own_wk hw 90 rfl) (own_wk hw 91 rfl) e725 (g := (mkF m 18 #[.val (.ref a0), .val (.int 0), .val (.int x0), .val (.int (x1 - x0))] [])) rfl (hb hby d12_18) (by decide) (by decide)
  obtain ⟨b727, g727⟩ : ∃ z, z = h0.size := ⟨_, rfl⟩
  have ne728 : a0 ≠ b727 := Nat.ne_of_lt (Nat.lt_of_lt_of_le E_a0.lt (Nat.le_of_eq g727.symm))
  have ne729 : az ≠ b727 := Nat.ne_of_lt (Nat.lt_of_lt_of_le V_az.lt (Nat.le_of_eq g727.symm))
  have ge_b727 : n0 ≤ b727 := Nat.le_trans Z0 (Nat.le_of_eq g727.symm)
  have gs_b727 : h0.size ≤ b727 := Nat.le_trans (Keep.refl h0 []).1 (Nat.le_of_eq g727.symm)
  rw [← g727] at A727 D727 st727
  have x730 := E_a0.ext E727
  have x731 := F_starts_a0.ext E727
  have x732 := V_az.ext E727
  have sz733 : n0 ≤ h727.size := Nat.le_trans Z0 E727.1
  have kp734 : Keep h0 h727 [] := (Keep.refl h0 []).ext E727
  have F727_this_0 : Fld Z h727 b727 "com/example/rank60/rank60/FusedList$Explanations$DocumentContributions" "this$0" "Lcom/example/rank60/rank60/FusedList$Explanations;" .null := D727 (Or.inr (own_wk hw 96 rfl)) (ty := (.object "com/example/rank60/rank60/FusedList$Explanations")) (by decide)
  have F727_modCount : Fld Z h727 b727 "java/util/AbstractList" "modCount" "I" (.int (0 : Int32)) := D727 (Or.inl (own_wk hw 99 rfl)) (ty := .int) (by decide)
  have F727_start : Fld Z h727 b727 "com/example/rank60/rank60/FusedList$Explanations$DocumentContributions" "start" "I" (.int (0 : Int32)) := D727 (Or.inr (own_wk hw 101 rfl)) (ty := .int) (by decide)
  have F727_size : Fld Z h727 b727 "com/example/rank60/rank60/FusedList$Explanations$DocumentContributions" "size" "I" (.int (0 : Int32)) := D727 (Or.inr (own_wk hw 103 rfl)) (ty := .int) (by decide)
  have cp735 : ∀ target, own_S p e below T727 (mkF m 25 #[.val (.ref a0), .val (.int 0), .val (.int x0), .val (.int (x1 - x0))] [(.int (x1 - x0)), (.int x0), (.ref a0), (.ref b727), (.ref b727)]) target → own_S p e below s₁ (mkF m 0 #[.val (.ref a0), .val (.int 0), .unset, .unset] []) target := by
    intro target kt
    show own_S p e below s₁ (mkF m 0 #[.val (.ref a0), .val (.int 0), .unset, .unset] []) _
    refine XS.aloadN X0.here hx rfl (hb hby d12_0) rfl rfl ?_
    show own_S p e below s₁ (mkF m 1 #[.val (.ref a0), .val (.int 0), .unset, .unset] [(.ref a0)]) _
    refine st723 _ ?_
    show own_S p e below T723 (mkF m 4 #[.val (.ref a0), .val (.int 0), .unset, .unset] [(.ref az)]) _
    refine XS.iloadN X723.here hx rfl (hb hby d12_4) rfl ?_
    show own_S p e below T723 (mkF m 5 #[.val (.ref a0), .val (.int 0), .unset, .unset] [.int 0, (.ref az)]) _
    refine ld724 _ ?_
    show own_S p e below T723 (mkF m 6 #[.val (.ref a0), .val (.int 0), .unset, .unset] [(.int x0)]) _
    refine XS.istoreN X723.here hx rfl (hb hby d12_6) rfl (l' := #[.val (.ref a0), .val (.int 0), .val (.int x0), .unset]) rfl ?_
    show own_S p e below T723 (mkF m 7 #[.val (.ref a0), .val (.int 0), .val (.int x0), .unset] []) _
    refine XS.aloadN X723.here hx rfl (hb hby d12_7) rfl rfl ?_
    show own_S p e below T723 (mkF m 8 #[.val (.ref a0), .val (.int 0), .val (.int x0), .unset] [(.ref a0)]) _
    refine st725 _ ?_
    show own_S p e below T725 (mkF m 11 #[.val (.ref a0), .val (.int 0), .val (.int x0), .unset] [(.ref az)]) _
    refine XS.iloadN X725.here hx rfl (hb hby d12_11) rfl ?_
    show own_S p e below T725 (mkF m 12 #[.val (.ref a0), .val (.int 0), .val (.int x0), .unset] [.int 0, (.ref az)]) _
    refine XS.iconst X725.here hx rfl (hb hby d12_12) ?_
    show own_S p e below T725 (mkF m 13 #[.val (.ref a0), .val (.int 0), .val (.int x0), .unset] [.int 1, .int 0, (.ref az)]) _
    refine XS.iadd X725.here hx rfl (hb hby d12_13) rfl ?_
    show own_S p e below T725 (mkF m 14 #[.val (.ref a0), .val (.int 0), .val (.int x0), .unset] [(.int ((0 : Int32) + (1 : Int32))), (.ref az)]) _
    rw [show ((0 : Int32) + (1 : Int32)) = (1 : Int32) from by decide]
    show own_S p e below T725 (mkF m 14 #[.val (.ref a0), .val (.int 0), .val (.int x0), .unset] [.int 1, (.ref az)]) _
    refine ld726 _ ?_
    show own_S p e below T725 (mkF m 15 #[.val (.ref a0), .val (.int 0), .val (.int x0), .unset] [(.int x1)]) _
    refine XS.iloadN X725.here hx rfl (hb hby d12_15) rfl ?_
    show own_S p e below T725 (mkF m 16 #[.val (.ref a0), .val (.int 0), .val (.int x0), .unset] [(.int x0), (.int x1)]) _
    refine XS.isub X725.here hx rfl (hb hby d12_16) rfl ?_
    show own_S p e below T725 (mkF m 17 #[.val (.ref a0), .val (.int 0), .val (.int x0), .unset] [(.int (x1 - x0))]) _
    refine XS.istoreN X725.here hx rfl (hb hby d12_17) rfl (l' := #[.val (.ref a0), .val (.int 0), .val (.int x0), .val (.int (x1 - x0))]) rfl ?_
    show own_S p e below T725 (mkF m 18 #[.val (.ref a0), .val (.int 0), .val (.int x0), .val (.int (x1 - x0))] []) _
    refine st727 _ ?_
    show own_S p e below T727 (mkF m 21 #[.val (.ref a0), .val (.int 0), .val (.int x0), .val (.int (x1 - x0))] [(.ref b727)]) _
    refine XS.dup X727.here hx rfl (hb hby d12_21) rfl rfl ?_
    show own_S p e below T727 (mkF m 22 #[.val (.ref a0), .val (.int 0), .val (.int x0), .val (.int (x1 - x0))] [(.ref b727), (.ref b727)]) _
    refine XS.aloadN X727.here hx rfl (hb hby d12_22) rfl rfl ?_
    show own_S p e below T727 (mkF m 23 #[.val (.ref a0), .val (.int 0), .val (.int x0), .val (.int (x1 - x0))] [(.ref a0), (.ref b727), (.ref b727)]) _
    refine XS.iloadN X727.here hx rfl (hb hby d12_23) rfl ?_
    show own_S p e below T727 (mkF m 24 #[.val (.ref a0), .val (.int 0), .val (.int x0), .val (.int (x1 - x0))] [(.int x0), (.ref a0), (.ref b727), (.ref b727)]) _
    refine XS.iloadN X727.here hx rfl (hb hby d12_24) rfl ?_
    exact kt
  obtain ⟨_, _, ⟨T736, L736, k736, n736⟩, -, X736, ⟨Lc736, hQ736, l736, y736, z736⟩, st736⟩ := X727.specialBackNest hx (y := (⟨"com/example/rank60/rank60/FusedList$Explanations$DocumentContributions", "<init>", "(Lcom/example/rank60/rank60/FusedList$Explanations;II)V"⟩ : MethodName)) rfl hown (Cond.methodLinkNest_wide hZ (own_wk hw 92 rfl) :) (mvT hZ (own_wk hw 93 rfl)) (mvT hZ (own_wk hw 94 rfl)) (by decide) (backOf (W := 1) (rm13 l Z ag hw [] b727 a0 x0 (x1 - x0)  h727 n0 sz733 A727 F727_modCount F727_this_0 F727_start F727_size ge_b727) hZ (own_wk hw 94 rfl) (own_wk hw 91 rfl) (by decide) (by decide)) (g := (mkF m 25 #[.val (.ref a0), .val (.int 0), .val (.int x0), .val (.int (x1 - x0))] [(.int (x1 - x0)), (.int x0), (.ref a0), (.ref b727), (.ref b727)])) rfl (by rw [hml]; rfl) (Steps.refl _) (a := b727) (argsL := [(.ref a0), (.int x0), (.int (x1 - x0))]) (rest := [(.ref b727)]) (lenOf pd_11 rfl) rfl (by show 2 * 0 + _ ≤ _; exact Nat.le_of_eq rfl) (hb hby d12_25) (fun _ _ => ⟨rfl, e727, (by decide : 1 + 0 ≤ _), (by decide : 4 + 0 ≤ _)⟩)
  dsimp only [Pt.U, Pt.locs, Pt.cells, Pt.slots] at X736 l736 y736 z736 st736 hQ736
  subst l736 y736 z736
  obtain ⟨rfl, N736q, K736, o736_0, o736_1, o736_2⟩ := hQ736
  have N736 := Fr.app N0 N736q
  have x737 := x730.keep K736
  have x738 := x731.keep K736 (ninS ne728 nin0)
  have x739 := x732.keep K736 (ninS ne729 nin0)
  have x740 := A727.keep K736
  have sz741 : n0 ≤ T736.heap.size := Nat.le_trans sz733 K736.1
  have kp742 : Keep h0 T736.heap [] := kp734.trans K736 (allS (Or.inr gs_b727) all0)
  obtain ⟨fs, hr, hrun, hended, hW, hsame⟩ := X736.leave (v := some (.ref b727)) (fun h => by rw [Bd.returns] at h; cases h)
  refine ⟨_, _, pre0 _ ?_, hrun, hended, _, _, rfl, ?_, ⟨_, rfl⟩, hW, hsame.mono (by decide) (by decide)⟩
  · show own_S p e below s₁ (mkF m 0 #[.val (.ref a0), .val (.int 0), .unset, .unset] []) _
    refine cp735 _ ?_
    show own_S p e below T727 (mkF m 25 #[.val (.ref a0), .val (.int 0), .val (.int x0), .val (.int (x1 - x0))] [(.int (x1 - x0)), (.int x0), (.ref a0), (.ref b727), (.ref b727)]) _
    refine st736.trans ?_
    show own_S p e below T736 (mkF m 28 #[.val (.ref a0), .val (.int 0), .val (.int x0), .val (.int (x1 - x0))] [(.ref b727)]) _
    exact Jvm.RoadKit.retOut X736 hx Bd.returns rfl (Or.inr (Or.inr (Or.inr (Or.inr ⟨rfl, rfl, rfl⟩)))) (hb hby d12_28) hr
  · show Q12_0 Z a0 az kt x0 x1 x2 h0 n0 _ T736.heap _
    exact ⟨b727, rfl, N736, kp742, ge_b727, gs_b727, x740, o736_0, o736_1, o736_2⟩
theorem ef_12_v1 (m : MethodId) (a0 : Addr) : entryFrame m #[(.ref a0), (.int (1 : Int32))] 4 = mkF m 0 #[.val (.ref a0), .val (.int 1), .unset, .unset] [] := by first | (simp [entryFrame, mkF, argsToLocals, Value.category]; done) | rfl
def Q12_1 (Z : State) (a0 : Addr) (az : Addr) (kt : ClassId) (x0 : Int32) (x1 : Int32) (x2 : Int32) (h0 : Heap) (n0 : Nat) (v : Option Value) (h : Heap) (L : List Loc) : Prop := ∃ r : Addr, v = some (.ref r) ∧ Fr n0 L ∧ Keep h0 h [] ∧ n0 ≤ r ∧ h0.size ≤ r ∧ Exa Z h r "com/example/rank60/rank60/FusedList$Explanations$DocumentContributions" ∧ Fld Z h r "com/example/rank60/rank60/FusedList$Explanations$DocumentContributions" "this$0" "Lcom/example/rank60/rank60/FusedList$Explanations;" (.ref a0) ∧ Fld Z h r "com/example/rank60/rank60/FusedList$Explanations$DocumentContributions" "start" "I" (.int x1) ∧ Fld Z h r "com/example/rank60/rank60/FusedList$Explanations$DocumentContributions" "size" "I" (.int (x2 - x1))
set_option maxRecDepth 65536 in
set_option maxHeartbeats 40000000 in
theorem rm12_1 (l : Launch) (Z : State) (ag : Array Value) (hw : ∀ d ∈ tables_1, d.before ag Z = true) (ws : List Jvm.Cond) (a0 : Addr) (az : Addr) (kt : ClassId) (x0 : Int32) (x1 : Int32) (x2 : Int32) (h0 : Heap) (n0 : Nat) (Z0 : n0 ≤ h0.size) (E_a0 : Exa Z h0 a0 "com/example/rank60/rank60/FusedList$Explanations") (F_starts_a0 : Fld Z h0 a0 "com/example/rank60/rank60/FusedList$Explanations" "starts" "[I" (.ref az)) (V_az : Arv Z h0 az kt .int (3 : Int32) [(.int x0), (.int x1), (.int x2)] (.int (0 : Int32))) :
    MetFree l (⟨"com/example/rank60/rank60/FusedList$Explanations", "of", "(I)Ljava/util/List;"⟩ : MethodName) (head1 (Jvm.Cond.code (⟨"com/example/rank60/rank60/FusedList$Explanations", "of", "(I)Ljava/util/List;"⟩ : MethodName) prog_10_method_4_code 4 (some (.object "java/util/List")) :: ws) ({ frames := 4, cells := 1, slots := 4, locals := 52 } : Room)) (fun a U => a = #[(.ref a0), (.int (1 : Int32))] ∧ Z.Warmed39 U.vm ∧ U.heap = h0) (fun _ _ _ _ _ => True) (fun _ U o U' => ∃ v L, o = .returned v ∧ Q12_1 Z a0 az kt x0 x1 x2 h0 n0 v U'.heap L ∧ FrameEnd U o U' L ({ frames := 4, cells := 1, slots := 4, locals := 52 } : Room).cells ({ frames := 4, cells := 1, slots := 4, locals := 52 } : Room).slots) := by
  refine MetFree.of_bodySF (plainFor_of_name pn_3) hisR ?_
  intro p e s m args below meth c s₁ Bd hml0 hP hK
  obtain ⟨rfl, hZ, hh⟩ := hP
  have hx := Bd.exec
  have hby := Bd.bytes
  have hml : c.maxLocals = 4 := hml0
  have hown : s.vm.findClass "com/example/rank60/rank60/FusedList$Explanations" = some m.cls := findClass_of_methodNamed Bd.named
  have hnm := (name_of_methodNamed Bd.named Bd.method).1
  have X0 : Stand p l e ({ frames := 4, cells := 1, slots := 4, locals := 52 } : Room) s m #[(.ref a0), (.int (1 : Int32))] below meth c s₁ [] 0 0 := Stand.of_body Bd
  have e0 : s₁.heap = h0 := by rw [← hh, Bd.state]; rfl
  have N0 := Fr.nil n0
  have pre0 : ∀ t, Steps p.tables e below (s₁.setTop (mkF m 0 #[.val (.ref a0), .val (.int 1), .unset, .unset] [])) t → Steps p.tables e below (s₁.setTop (entryFrame m #[(.ref a0), (.int (1 : Int32))] 4)) t := fun t k => castTop (ef_12_v1 m a0) k
  obtain ⟨T743, X743, e743, st743⟩ := getF X0 hx hZ hown (host := "") (Or.inl (own_wk hw 10 rfl)) Via.refl e0 F_starts_a0 (g := (mkF m 1 #[.val (.ref a0), .val (.int 1), .unset, .unset] [(.ref a0)])) rfl rfl (hb hby d12_1)
  obtain ⟨cl744, Ar744, q744, S744, M744, H744, G744⟩ := id V_az
  have hin744 : ¬ ((1 : Int32) < 0 ∨ cl744.slots.size ≤ ((1 : Int32)).toNatClampNeg) := inb_of S744 ⟨(by decide : ¬ (1 : Int32) < 0), (by decide : (1 : Int32) < (3 : Int32))⟩
  have hat744 : cl744.slots[((1 : Int32)).toNatClampNeg]? = some (.int x1) := Has.at H744 hin744 rfl
  have ld744 := X743.iaload hx (j := (1 : Int32)) (v := (.int x1)) (by rw [e743]; exact Ar744.1) (State.isArrayOf_alike hZ.alike Ar744.2.1) Ar744.2.2 hin744 hat744 (g := (mkF m 5 #[.val (.ref a0), .val (.int 1), .unset, .unset] [.int 1, (.ref az)])) rfl rfl (hb hby d12_5)
  obtain ⟨T745, X745, e745, st745⟩ := getF X743 hx hZ hown (host := "") (Or.inl (own_wk hw 10 rfl)) Via.refl e743 F_starts_a0 (g := (mkF m 8 #[.val (.ref a0), .val (.int 1), .val (.int x1), .unset] [(.ref a0)])) rfl rfl (hb hby d12_8)
  obtain ⟨cl746, Ar746, q746, S746, M746, H746, G746⟩ := id V_az
  have hin746 : ¬ ((2 : Int32) < 0 ∨ cl746.slots.size ≤ ((2 : Int32)).toNatClampNeg) := inb_of S746 ⟨(by decide : ¬ (2 : Int32) < 0), (by decide : (2 : Int32) < (3 : Int32))⟩
  have hat746 : cl746.slots[((2 : Int32)).toNatClampNeg]? = some (.int x2) := Has.at H746 hin746 rfl
  have ld746 := X745.iaload hx (j := (2 : Int32)) (v := (.int x2)) (by rw [e745]; exact Ar746.1) (State.isArrayOf_alike hZ.alike Ar746.2.1) Ar746.2.2 hin746 hat746 (g := (mkF m 14 #[.val (.ref a0), .val (.int 1), .val (.int x1), .unset] [.int 2, (.ref az)])) rfl rfl (hb hby d12_14)
  obtain ⟨T747, h747, X747, e747, E747, A747, D747, -, st747⟩ := newO X745 hx hZ hown (own_wk hw 89 rfl) (own_wk hw 90 rfl) (own_wk hw 91 rfl) e745 (g := (mkF m 18 #[.val (.ref a0), .val (.int 1), .val (.int x1), .val (.int (x2 - x1))] [])) rfl (hb hby d12_18) (by decide) (by decide)
  obtain ⟨b747, g747⟩ : ∃ z, z = h0.size := ⟨_, rfl⟩
  have ne748 : a0 ≠ b747 := Nat.ne_of_lt (Nat.lt_of_lt_of_le E_a0.lt (Nat.le_of_eq g747.symm))
  have ne749 : az ≠ b747 := Nat.ne_of_lt (Nat.lt_of_lt_of_le V_az.lt (Nat.le_of_eq g747.symm))
  have ge_b747 : n0 ≤ b747 := Nat.le_trans Z0 (Nat.le_of_eq g747.symm)
  have gs_b747 : h0.size ≤ b747 := Nat.le_trans (Keep.refl h0 []).1 (Nat.le_of_eq g747.symm)
  rw [← g747] at A747 D747 st747
  have x750 := E_a0.ext E747
  have x751 := F_starts_a0.ext E747
  have x752 := V_az.ext E747
  have sz753 : n0 ≤ h747.size := Nat.le_trans Z0 E747.1
  have kp754 : Keep h0 h747 [] := (Keep.refl h0 []).ext E747
  have F747_this_0 : Fld Z h747 b747 "com/example/rank60/rank60/FusedList$Explanations$DocumentContributions" "this$0" "Lcom/example/rank60/rank60/FusedList$Explanations;" .null := D747 (Or.inr (own_wk hw 96 rfl)) (ty := (.object "com/example/rank60/rank60/FusedList$Explanations")) (by decide)
  have F747_modCount : Fld Z h747 b747 "java/util/AbstractList" "modCount" "I" (.int (0 : Int32)) := D747 (Or.inl (own_wk hw 99 rfl)) (ty := .int) (by decide)
  have F747_start : Fld Z h747 b747 "com/example/rank60/rank60/FusedList$Explanations$DocumentContributions" "start" "I" (.int (0 : Int32)) := D747 (Or.inr (own_wk hw 101 rfl)) (ty := .int) (by decide)
  have F747_size : Fld Z h747 b747 "com/example/rank60/rank60/FusedList$Explanations$DocumentContributions" "size" "I" (.int (0 : Int32)) := D747 (Or.inr (own_wk hw 103 rfl)) (ty := .int) (by decide)
  have cp755 : ∀ target, own_S p e below T747 (mkF m 25 #[.val (.ref a0), .val (.int 1), .val (.int x1), .val (.int (x2 - x1))] [(.int (x2 - x1)), (.int x1), (.ref a0), (.ref b747), (.ref b747)]) target → own_S p e below s₁ (mkF m 0 #[.val (.ref a0), .val (.int 1), .unset, .unset] []) target := by
    intro target kt
    show own_S p e below s₁ (mkF m 0 #[.val (.ref a0), .val (.int 1), .unset, .unset] []) _
    refine XS.aloadN X0.here hx rfl (hb hby d12_0) rfl rfl ?_
    show own_S p e below s₁ (mkF m 1 #[.val (.ref a0), .val (.int 1), .unset, .unset] [(.ref a0)]) _
    refine st743 _ ?_
    show own_S p e below T743 (mkF m 4 #[.val (.ref a0), .val (.int 1), .unset, .unset] [(.ref az)]) _
    refine XS.iloadN X743.here hx rfl (hb hby d12_4) rfl ?_
    show own_S p e below T743 (mkF m 5 #[.val (.ref a0), .val (.int 1), .unset, .unset] [.int 1, (.ref az)]) _
    refine ld744 _ ?_
    show own_S p e below T743 (mkF m 6 #[.val (.ref a0), .val (.int 1), .unset, .unset] [(.int x1)]) _
    refine XS.istoreN X743.here hx rfl (hb hby d12_6) rfl (l' := #[.val (.ref a0), .val (.int 1), .val (.int x1), .unset]) rfl ?_
    show own_S p e below T743 (mkF m 7 #[.val (.ref a0), .val (.int 1), .val (.int x1), .unset] []) _
    refine XS.aloadN X743.here hx rfl (hb hby d12_7) rfl rfl ?_
    show own_S p e below T743 (mkF m 8 #[.val (.ref a0), .val (.int 1), .val (.int x1), .unset] [(.ref a0)]) _
    refine st745 _ ?_
    show own_S p e below T745 (mkF m 11 #[.val (.ref a0), .val (.int 1), .val (.int x1), .unset] [(.ref az)]) _
    refine XS.iloadN X745.here hx rfl (hb hby d12_11) rfl ?_
    show own_S p e below T745 (mkF m 12 #[.val (.ref a0), .val (.int 1), .val (.int x1), .unset] [.int 1, (.ref az)]) _
    refine XS.iconst X745.here hx rfl (hb hby d12_12) ?_
    show own_S p e below T745 (mkF m 13 #[.val (.ref a0), .val (.int 1), .val (.int x1), .unset] [.int 1, .int 1, (.ref az)]) _
    refine XS.iadd X745.here hx rfl (hb hby d12_13) rfl ?_
    show own_S p e below T745 (mkF m 14 #[.val (.ref a0), .val (.int 1), .val (.int x1), .unset] [(.int ((1 : Int32) + (1 : Int32))), (.ref az)]) _
    rw [show ((1 : Int32) + (1 : Int32)) = (2 : Int32) from by decide]
    show own_S p e below T745 (mkF m 14 #[.val (.ref a0), .val (.int 1), .val (.int x1), .unset] [.int 2, (.ref az)]) _
    refine ld746 _ ?_
    show own_S p e below T745 (mkF m 15 #[.val (.ref a0), .val (.int 1), .val (.int x1), .unset] [(.int x2)]) _
    refine XS.iloadN X745.here hx rfl (hb hby d12_15) rfl ?_
    show own_S p e below T745 (mkF m 16 #[.val (.ref a0), .val (.int 1), .val (.int x1), .unset] [(.int x1), (.int x2)]) _
    refine XS.isub X745.here hx rfl (hb hby d12_16) rfl ?_
    show own_S p e below T745 (mkF m 17 #[.val (.ref a0), .val (.int 1), .val (.int x1), .unset] [(.int (x2 - x1))]) _
    refine XS.istoreN X745.here hx rfl (hb hby d12_17) rfl (l' := #[.val (.ref a0), .val (.int 1), .val (.int x1), .val (.int (x2 - x1))]) rfl ?_
    show own_S p e below T745 (mkF m 18 #[.val (.ref a0), .val (.int 1), .val (.int x1), .val (.int (x2 - x1))] []) _
    refine st747 _ ?_
    show own_S p e below T747 (mkF m 21 #[.val (.ref a0), .val (.int 1), .val (.int x1), .val (.int (x2 - x1))] [(.ref b747)]) _
    refine XS.dup X747.here hx rfl (hb hby d12_21) rfl rfl ?_
    show own_S p e below T747 (mkF m 22 #[.val (.ref a0), .val (.int 1), .val (.int x1), .val (.int (x2 - x1))] [(.ref b747), (.ref b747)]) _
    refine XS.aloadN X747.here hx rfl (hb hby d12_22) rfl rfl ?_
    show own_S p e below T747 (mkF m 23 #[.val (.ref a0), .val (.int 1), .val (.int x1), .val (.int (x2 - x1))] [(.ref a0), (.ref b747), (.ref b747)]) _
    refine XS.iloadN X747.here hx rfl (hb hby d12_23) rfl ?_
    show own_S p e below T747 (mkF m 24 #[.val (.ref a0), .val (.int 1), .val (.int x1), .val (.int (x2 - x1))] [(.int x1), (.ref a0), (.ref b747), (.ref b747)]) _
    refine XS.iloadN X747.here hx rfl (hb hby d12_24) rfl ?_
    exact kt
  obtain ⟨_, _, ⟨T756, L756, k756, n756⟩, -, X756, ⟨Lc756, hQ756, l756, y756, z756⟩, st756⟩ := X747.specialBackNest hx (y := (⟨"com/example/rank60/rank60/FusedList$Explanations$DocumentContributions", "<init>", "(Lcom/example/rank60/rank60/FusedList$Explanations;II)V"⟩ : MethodName)) rfl hown (Cond.methodLinkNest_wide hZ (own_wk hw 92 rfl) :) (mvT hZ (own_wk hw 93 rfl)) (mvT hZ (own_wk hw 94 rfl)) (by decide) (backOf (W := 1) (rm13 l Z ag hw [] b747 a0 x1 (x2 - x1)  h747 n0 sz753 A747 F747_modCount F747_this_0 F747_start F747_size ge_b747) hZ (own_wk hw 94 rfl) (own_wk hw 91 rfl) (by decide) (by decide)) (g := (mkF m 25 #[.val (.ref a0), .val (.int 1), .val (.int x1), .val (.int (x2 - x1))] [(.int (x2 - x1)), (.int x1), (.ref a0), (.ref b747), (.ref b747)])) rfl (by rw [hml]; rfl) (Steps.refl _) (a := b747) (argsL := [(.ref a0), (.int x1), (.int (x2 - x1))]) (rest := [(.ref b747)]) (lenOf pd_11 rfl) rfl (by show 2 * 0 + _ ≤ _; exact Nat.le_of_eq rfl) (hb hby d12_25) (fun _ _ => ⟨rfl, e747, (by decide : 1 + 0 ≤ _), (by decide : 4 + 0 ≤ _)⟩)
  dsimp only [Pt.U, Pt.locs, Pt.cells, Pt.slots] at X756 l756 y756 z756 st756 hQ756
  subst l756 y756 z756
  obtain ⟨rfl, N756q, K756, o756_0, o756_1, o756_2⟩ := hQ756
  have N756 := Fr.app N0 N756q
  have x757 := x750.keep K756
  have x758 := x751.keep K756 (ninS ne748 nin0)
  have x759 := x752.keep K756 (ninS ne749 nin0)
  have x760 := A747.keep K756
  have sz761 : n0 ≤ T756.heap.size := Nat.le_trans sz753 K756.1
  have kp762 : Keep h0 T756.heap [] := kp754.trans K756 (allS (Or.inr gs_b747) all0)
  obtain ⟨fs, hr, hrun, hended, hW, hsame⟩ := X756.leave (v := some (.ref b747)) (fun h => by rw [Bd.returns] at h; cases h)
  refine ⟨_, _, pre0 _ ?_, hrun, hended, _, _, rfl, ?_, ⟨_, rfl⟩, hW, hsame.mono (by decide) (by decide)⟩
  · show own_S p e below s₁ (mkF m 0 #[.val (.ref a0), .val (.int 1), .unset, .unset] []) _
    refine cp755 _ ?_
    show own_S p e below T747 (mkF m 25 #[.val (.ref a0), .val (.int 1), .val (.int x1), .val (.int (x2 - x1))] [(.int (x2 - x1)), (.int x1), (.ref a0), (.ref b747), (.ref b747)]) _
    refine st756.trans ?_
    show own_S p e below T756 (mkF m 28 #[.val (.ref a0), .val (.int 1), .val (.int x1), .val (.int (x2 - x1))] [(.ref b747)]) _
    exact Jvm.RoadKit.retOut X756 hx Bd.returns rfl (Or.inr (Or.inr (Or.inr (Or.inr ⟨rfl, rfl, rfl⟩)))) (hb hby d12_28) hr
  · show Q12_1 Z a0 az kt x0 x1 x2 h0 n0 _ T756.heap _
    exact ⟨b747, rfl, N756, kp762, ge_b747, gs_b747, x760, o756_0, o756_1, o756_2⟩
theorem ef_9_v0 (m : MethodId) (a0 : Addr) : entryFrame m #[(.ref a0), (.int (0 : Int32))] 2 = mkF m 0 #[.val (.ref a0), .val (.int 0)] [] := by first | (simp [entryFrame, mkF, argsToLocals, Value.category]; done) | rfl
theorem d9_0 : decode prog_9_method_11_code 0 = .ok (.iload_n 1, 1) := by decide +kernel
theorem d9_1 : decode prog_9_method_11_code 1 = .ok (.aload_n 0, 1) := by decide +kernel
theorem d9_2 : decode prog_9_method_11_code 2 = .ok (.getfield 24, 3) := by decide +kernel
theorem d9_5 : decode prog_9_method_11_code 5 = .ok (.arraylength, 1) := by decide +kernel
theorem pd_6 : parseMethodDescriptor "(II)I" = some ⟨[.int, .int], some .int⟩ := by decide +kernel
theorem d9_6 : decode prog_9_method_11_code 6 = .ok (.invokestatic 67, 3) := by decide +kernel
theorem d9_9 : decode prog_9_method_11_code 9 = .ok (.pop, 1) := by decide +kernel
theorem d9_10 : decode prog_9_method_11_code 10 = .ok (.aload_n 0, 1) := by decide +kernel
theorem d9_11 : decode prog_9_method_11_code 11 = .ok (.getfield 32, 3) := by decide +kernel
theorem d9_14 : decode prog_9_method_11_code 14 = .ok (.ifnonnull 9, 3) := by decide +kernel
theorem d9_23 : decode prog_9_method_11_code 23 = .ok (.aload_n 0, 1) := by decide +kernel
theorem d9_24 : decode prog_9_method_11_code 24 = .ok (.getfield 32, 3) := by decide +kernel
theorem d9_27 : decode prog_9_method_11_code 27 = .ok (.iload_n 1, 1) := by decide +kernel
theorem pd_5 : parseMethodDescriptor "(I)Ljava/util/List;" = some ⟨[.int], some (.object "java/util/List")⟩ := by decide +kernel
theorem d9_28 : decode prog_9_method_11_code 28 = .ok (.invokevirtual 79, 3) := by decide +kernel
theorem d9_31 : decode prog_9_method_11_code 31 = .ok (.areturn, 1) := by decide +kernel
def Q9_0 (Z : State) (a0 : Addr) (ad : Addr) (kd : ClassId) (z0 : UInt64) (z1 : UInt64) (ae : Addr) (az : Addr) (kt : ClassId) (x0 : Int32) (x1 : Int32) (x2 : Int32) (h0 : Heap) (n0 : Nat) (v : Option Value) (h : Heap) (L : List Loc) : Prop := ∃ r : Addr, v = some (.ref r) ∧ Fr n0 L ∧ Keep h0 h [] ∧ n0 ≤ r ∧ h0.size ≤ r ∧ Exa Z h r "com/example/rank60/rank60/FusedList$Explanations$DocumentContributions" ∧ Fld Z h r "com/example/rank60/rank60/FusedList$Explanations$DocumentContributions" "this$0" "Lcom/example/rank60/rank60/FusedList$Explanations;" (.ref ae) ∧ Fld Z h r "com/example/rank60/rank60/FusedList$Explanations$DocumentContributions" "start" "I" (.int x0) ∧ Fld Z h r "com/example/rank60/rank60/FusedList$Explanations$DocumentContributions" "size" "I" (.int (x1 - x0))
set_option maxRecDepth 65536 in
set_option maxHeartbeats 40000000 in
theorem rm9_0 (l : Launch) (Z : State) (ag : Array Value) (hw : ∀ d ∈ tables_1, d.before ag Z = true) (ws : List Jvm.Cond) (a0 : Addr) (ad : Addr) (kd : ClassId) (z0 : UInt64) (z1 : UInt64) (ae : Addr) (az : Addr) (kt : ClassId) (x0 : Int32) (x1 : Int32) (x2 : Int32) (h0 : Heap) (n0 : Nat) (Z0 : n0 ≤ h0.size) (E_a0 : Exa Z h0 a0 "com/example/rank60/rank60/FusedList") (F_scores_a0 : Fld Z h0 a0 "com/example/rank60/rank60/FusedList" "scores" "[D" (.ref ad)) (V_ad : Arv Z h0 ad kd .double (2 : Int32) [(.double z0), (.double z1)] (.double (FP.l2d 0))) (F_explanations_a0 : Fld Z h0 a0 "com/example/rank60/rank60/FusedList" "explanations" "Lcom/example/rank60/rank60/FusedList$Explanations;" (.ref ae)) (E_ae : Exa Z h0 ae "com/example/rank60/rank60/FusedList$Explanations") (F_starts_ae : Fld Z h0 ae "com/example/rank60/rank60/FusedList$Explanations" "starts" "[I" (.ref az)) (V_az : Arv Z h0 az kt .int (3 : Int32) [(.int x0), (.int x1), (.int x2)] (.int (0 : Int32))) :
    MetFree l (⟨"com/example/rank60/rank60/FusedList", "contributions", "(I)Ljava/util/List;"⟩ : MethodName) (head1 (Jvm.Cond.code (⟨"com/example/rank60/rank60/FusedList", "contributions", "(I)Ljava/util/List;"⟩ : MethodName) prog_9_method_11_code 2 (some (.object "java/util/List")) :: ws) ({ frames := 5, cells := 1, slots := 4, locals := 67 } : Room)) (fun a U => a = #[(.ref a0), (.int (0 : Int32))] ∧ Z.Warmed39 U.vm ∧ U.heap = h0) (fun _ _ _ _ _ => True) (fun _ U o U' => ∃ v L, o = .returned v ∧ Q9_0 Z a0 ad kd z0 z1 ae az kt x0 x1 x2 h0 n0 v U'.heap L ∧ FrameEnd U o U' L ({ frames := 5, cells := 1, slots := 4, locals := 67 } : Room).cells ({ frames := 5, cells := 1, slots := 4, locals := 67 } : Room).slots) := by
  refine MetFree.of_bodySF (plainFor_of_name pn_2) hisR ?_
  intro p e s m args below meth c s₁ Bd hml0 hP hK
  obtain ⟨rfl, hZ, hh⟩ := hP
  have hx := Bd.exec
  have hby := Bd.bytes
  have hml : c.maxLocals = 2 := hml0
  have hown : s.vm.findClass "com/example/rank60/rank60/FusedList" = some m.cls := findClass_of_methodNamed Bd.named
  have hnm := (name_of_methodNamed Bd.named Bd.method).1
  have X0 : Stand p l e ({ frames := 5, cells := 1, slots := 4, locals := 67 } : Room) s m #[(.ref a0), (.int (0 : Int32))] below meth c s₁ [] 0 0 := Stand.of_body Bd
  have e0 : s₁.heap = h0 := by rw [← hh, Bd.state]; rfl
  have N0 := Fr.nil n0
  have pre0 : ∀ t, Steps p.tables e below (s₁.setTop (mkF m 0 #[.val (.ref a0), .val (.int 0)] [])) t → Steps p.tables e below (s₁.setTop (entryFrame m #[(.ref a0), (.int (0 : Int32))] 2)) t := fun t k => castTop (ef_9_v0 m a0) k
  obtain ⟨T763, X763, e763, st763⟩ := getF X0 hx hZ hown (host := "") (Or.inl (own_wk hw 66 rfl)) Via.refl e0 F_scores_a0 (g := (mkF m 2 #[.val (.ref a0), .val (.int 0)] [(.ref a0), .int 0])) rfl rfl (hb hby d9_2)
  obtain ⟨cl764, Ar764, -, S764, M764, -, -⟩ := id V_ad
  have ld764 := X763.arraylength hx (by rw [e763]; exact Ar764.1) (State.isArrayOf_alike hZ.alike Ar764.2.1) (g := (mkF m 5 #[.val (.ref a0), .val (.int 0)] [(.ref ad), .int 0])) rfl rfl (hb hby d9_5)
  obtain ⟨_, _, ⟨T765, L765, k765, n765⟩, -, X765, ⟨Lc765, hQ765, l765, y765, z765⟩, st765⟩ := Jvm.LawKit.callS X763 hx (y := (⟨"java/util/Objects", "checkIndex", "(II)I"⟩ : MethodName)) hown (mvT hZ (own_wk hw 77 rfl)) (mvT hZ (own_wk hw 78 rfl)) (mvT hZ (own_wk hw 79 rfl)) (mvT hZ (own_wk hw 80 rfl)) (by decide) (backOf (W := 0) (rm10 l Z ag hw [] (0 : Int32) (2 : Int32)  h0 n0 Z0 (by decide) (by decide)) hZ (own_wk hw 80 rfl) (own_wk hw 79 rfl) (by decide) (by decide)) (g := (mkF m 6 #[.val (.ref a0), .val (.int 0)] [.int 2, .int 0])) rfl (by rw [hml]; rfl) (argsL := [(.int (0 : Int32)), (.int (2 : Int32))]) (rest := []) (lenOf pd_6 rfl) rfl (by show 2 * 0 + _ ≤ _; exact Nat.le_of_eq rfl) (hb hby d9_6) (fun _ _ => ⟨rfl, e763, (by decide : 0 + 0 ≤ _), (by decide : 0 + 0 ≤ _)⟩)
  dsimp only [Pt.U, Pt.locs, Pt.cells, Pt.slots] at X765 l765 y765 z765 st765 hQ765
  subst l765 y765 z765
  obtain ⟨rfl, N765q, e765⟩ := hQ765
  have N765 := Fr.app N0 N765q
  obtain ⟨T766, X766, e766, st766⟩ := getF X765 hx hZ hown (host := "") (Or.inl (own_wk hw 70 rfl)) Via.refl e765 F_explanations_a0 (g := (mkF m 11 #[.val (.ref a0), .val (.int 0)] [(.ref a0)])) rfl rfl (hb hby d9_11)
  obtain ⟨T767, X767, e767, st767⟩ := getF X766 hx hZ hown (host := "") (Or.inl (own_wk hw 70 rfl)) Via.refl e766 F_explanations_a0 (g := (mkF m 24 #[.val (.ref a0), .val (.int 0)] [(.ref a0)])) rfl rfl (hb hby d9_24)
  have cp768 : ∀ target, own_S p e below T767 (mkF m 28 #[.val (.ref a0), .val (.int 0)] [.int 0, (.ref ae)]) target → own_S p e below s₁ (mkF m 0 #[.val (.ref a0), .val (.int 0)] []) target := by
    intro target kt
    show own_S p e below s₁ (mkF m 0 #[.val (.ref a0), .val (.int 0)] []) _
    refine XS.iloadN X0.here hx rfl (hb hby d9_0) rfl ?_
    show own_S p e below s₁ (mkF m 1 #[.val (.ref a0), .val (.int 0)] [.int 0]) _
    refine XS.aloadN X0.here hx rfl (hb hby d9_1) rfl rfl ?_
    show own_S p e below s₁ (mkF m 2 #[.val (.ref a0), .val (.int 0)] [(.ref a0), .int 0]) _
    refine st763 _ ?_
    show own_S p e below T763 (mkF m 5 #[.val (.ref a0), .val (.int 0)] [(.ref ad), .int 0]) _
    refine ld764 _ ?_
    rw [len_of S764 M764]
    show own_S p e below T763 (mkF m 6 #[.val (.ref a0), .val (.int 0)] [.int 2, .int 0]) _
    refine st765 _ ?_
    show own_S p e below T765 (mkF m 9 #[.val (.ref a0), .val (.int 0)] [.int 0]) _
    refine XS.pop X765.here hx rfl (hb hby d9_9) rfl rfl ?_
    show own_S p e below T765 (mkF m 10 #[.val (.ref a0), .val (.int 0)] []) _
    refine XS.aloadN X765.here hx rfl (hb hby d9_10) rfl rfl ?_
    show own_S p e below T765 (mkF m 11 #[.val (.ref a0), .val (.int 0)] [(.ref a0)]) _
    refine st766 _ ?_
    show own_S p e below T766 (mkF m 14 #[.val (.ref a0), .val (.int 0)] [(.ref ae)]) _
    refine XS.ifnonnullYes X766.here hx rfl (pc0 := 14) (pc' := 23) rfl (hb hby d9_14) rfl (by decide) (by decide) ?_
    show own_S p e below T766 (mkF m 23 #[.val (.ref a0), .val (.int 0)] []) _
    refine XS.aloadN X766.here hx rfl (hb hby d9_23) rfl rfl ?_
    show own_S p e below T766 (mkF m 24 #[.val (.ref a0), .val (.int 0)] [(.ref a0)]) _
    refine st767 _ ?_
    show own_S p e below T767 (mkF m 27 #[.val (.ref a0), .val (.int 0)] [(.ref ae)]) _
    refine XS.iloadN X767.here hx rfl (hb hby d9_27) rfl ?_
    exact kt
  obtain ⟨cq769, q769, q769'⟩ := E_ae.cell
  obtain ⟨_, _, ⟨T769, L769, k769, n769⟩, -, X769, ⟨Lc769, hQ769, l769, y769, z769⟩, st769⟩ := own_prb X767 hx (y := (⟨"com/example/rank60/rank60/FusedList$Explanations", "of", "(I)Ljava/util/List;"⟩ : MethodName)) (ym := (⟨"com/example/rank60/rank60/FusedList$Explanations", "add", "(IIDD)V"⟩ : MethodName)) hown (own_refZ hZ (by decide) (own_wk hw 86 rfl) (own_wk hw 85 rfl)) (mvT hZ (own_wk hw 86 rfl)) (mvT hZ (own_wk hw 26 rfl)) (Cond.privateMethod_at (mvP hZ (own_wk hw 87 rfl) (args := #[]))) (mvT hZ (own_wk hw 88 rfl)) rfl (by decide) (backOf (W := 0) (rm12_0 l Z ag hw [] ae az kt x0 x1 x2 h0 n0 Z0 E_ae F_starts_ae V_az) hZ (own_wk hw 88 rfl) (own_wk hw 2 rfl) (by decide) (by decide)) (g := (mkF m 28 #[.val (.ref a0), .val (.int 0)] [.int 0, (.ref ae)])) rfl (by rw [hml]; rfl) (Steps.refl _) (a := ae) (by rw [e767]; exact q769) q769' (argsL := [(.int (0 : Int32))]) (rest := []) (lenOf pd_5 rfl) rfl (by show 2 * 0 + _ ≤ _; exact Nat.le_of_eq rfl) (hb hby d9_28) (fun _ _ => ⟨rfl, e767, (by decide : 0 + 1 ≤ _), (by decide : 0 + 4 ≤ _)⟩)
  dsimp only [Pt.U, Pt.locs, Pt.cells, Pt.slots] at X769 l769 y769 z769 st769 hQ769
  subst l769 y769 z769
  obtain ⟨r769, rfl, N769q, K769, ge_r769, gq_r769, o769_0, o769_1, o769_2, o769_3⟩ := hQ769
  have N769 := Fr.app N765 N769q
  have gs_r769 : h0.size ≤ r769 := Nat.le_trans (Keep.refl h0 []).1 gq_r769
  have x770 := E_a0.keep K769
  have x771 := F_scores_a0.keep K769 nin0
  have x772 := V_ad.keep K769 nin0
  have x773 := F_explanations_a0.keep K769 nin0
  have x774 := E_ae.keep K769
  have x775 := F_starts_ae.keep K769 nin0
  have x776 := V_az.keep K769 nin0
  have sz777 : n0 ≤ T769.heap.size := Nat.le_trans Z0 K769.1
  have kp778 : Keep h0 T769.heap [] := (Keep.refl h0 []).trans K769 all0
  obtain ⟨fs, hr, hrun, hended, hW, hsame⟩ := X769.leave (v := some (.ref r769)) (fun h => by rw [Bd.returns] at h; cases h)
  refine ⟨_, _, pre0 _ ?_, hrun, hended, _, _, rfl, ?_, ⟨_, rfl⟩, hW, hsame.mono (by decide) (by decide)⟩
  · show own_S p e below s₁ (mkF m 0 #[.val (.ref a0), .val (.int 0)] []) _
    refine cp768 _ ?_
    show own_S p e below T767 (mkF m 28 #[.val (.ref a0), .val (.int 0)] [.int 0, (.ref ae)]) _
    refine st769.trans ?_
    show own_S p e below T769 (mkF m 31 #[.val (.ref a0), .val (.int 0)] [(.ref r769)]) _
    exact Jvm.RoadKit.retOut X769 hx Bd.returns rfl (Or.inr (Or.inr (Or.inr (Or.inr ⟨rfl, rfl, rfl⟩)))) (hb hby d9_31) hr
  · show Q9_0 Z a0 ad kd z0 z1 ae az kt x0 x1 x2 h0 n0 _ T769.heap _
    exact ⟨r769, rfl, N769, kp778, ge_r769, gs_r769, o769_0, o769_1, o769_2, o769_3⟩
theorem ef_9_v1 (m : MethodId) (a0 : Addr) : entryFrame m #[(.ref a0), (.int (1 : Int32))] 2 = mkF m 0 #[.val (.ref a0), .val (.int 1)] [] := by first | (simp [entryFrame, mkF, argsToLocals, Value.category]; done) | rfl
def Q9_1 (Z : State) (a0 : Addr) (ad : Addr) (kd : ClassId) (z0 : UInt64) (z1 : UInt64) (ae : Addr) (az : Addr) (kt : ClassId) (x0 : Int32) (x1 : Int32) (x2 : Int32) (h0 : Heap) (n0 : Nat) (v : Option Value) (h : Heap) (L : List Loc) : Prop := ∃ r : Addr, v = some (.ref r) ∧ Fr n0 L ∧ Keep h0 h [] ∧ n0 ≤ r ∧ h0.size ≤ r ∧ Exa Z h r "com/example/rank60/rank60/FusedList$Explanations$DocumentContributions" ∧ Fld Z h r "com/example/rank60/rank60/FusedList$Explanations$DocumentContributions" "this$0" "Lcom/example/rank60/rank60/FusedList$Explanations;" (.ref ae) ∧ Fld Z h r "com/example/rank60/rank60/FusedList$Explanations$DocumentContributions" "start" "I" (.int x1) ∧ Fld Z h r "com/example/rank60/rank60/FusedList$Explanations$DocumentContributions" "size" "I" (.int (x2 - x1))
set_option maxRecDepth 65536 in
set_option maxHeartbeats 40000000 in
theorem rm9_1 (l : Launch) (Z : State) (ag : Array Value) (hw : ∀ d ∈ tables_1, d.before ag Z = true) (ws : List Jvm.Cond) (a0 : Addr) (ad : Addr) (kd : ClassId) (z0 : UInt64) (z1 : UInt64) (ae : Addr) (az : Addr) (kt : ClassId) (x0 : Int32) (x1 : Int32) (x2 : Int32) (h0 : Heap) (n0 : Nat) (Z0 : n0 ≤ h0.size) (E_a0 : Exa Z h0 a0 "com/example/rank60/rank60/FusedList") (F_scores_a0 : Fld Z h0 a0 "com/example/rank60/rank60/FusedList" "scores" "[D" (.ref ad)) (V_ad : Arv Z h0 ad kd .double (2 : Int32) [(.double z0), (.double z1)] (.double (FP.l2d 0))) (F_explanations_a0 : Fld Z h0 a0 "com/example/rank60/rank60/FusedList" "explanations" "Lcom/example/rank60/rank60/FusedList$Explanations;" (.ref ae)) (E_ae : Exa Z h0 ae "com/example/rank60/rank60/FusedList$Explanations") (F_starts_ae : Fld Z h0 ae "com/example/rank60/rank60/FusedList$Explanations" "starts" "[I" (.ref az)) (V_az : Arv Z h0 az kt .int (3 : Int32) [(.int x0), (.int x1), (.int x2)] (.int (0 : Int32))) :
    MetFree l (⟨"com/example/rank60/rank60/FusedList", "contributions", "(I)Ljava/util/List;"⟩ : MethodName) (head1 (Jvm.Cond.code (⟨"com/example/rank60/rank60/FusedList", "contributions", "(I)Ljava/util/List;"⟩ : MethodName) prog_9_method_11_code 2 (some (.object "java/util/List")) :: ws) ({ frames := 5, cells := 1, slots := 4, locals := 67 } : Room)) (fun a U => a = #[(.ref a0), (.int (1 : Int32))] ∧ Z.Warmed39 U.vm ∧ U.heap = h0) (fun _ _ _ _ _ => True) (fun _ U o U' => ∃ v L, o = .returned v ∧ Q9_1 Z a0 ad kd z0 z1 ae az kt x0 x1 x2 h0 n0 v U'.heap L ∧ FrameEnd U o U' L ({ frames := 5, cells := 1, slots := 4, locals := 67 } : Room).cells ({ frames := 5, cells := 1, slots := 4, locals := 67 } : Room).slots) := by
  refine MetFree.of_bodySF (plainFor_of_name pn_2) hisR ?_
  intro p e s m args below meth c s₁ Bd hml0 hP hK
  obtain ⟨rfl, hZ, hh⟩ := hP
  have hx := Bd.exec
  have hby := Bd.bytes
  have hml : c.maxLocals = 2 := hml0
  have hown : s.vm.findClass "com/example/rank60/rank60/FusedList" = some m.cls := findClass_of_methodNamed Bd.named
  have hnm := (name_of_methodNamed Bd.named Bd.method).1
  have X0 : Stand p l e ({ frames := 5, cells := 1, slots := 4, locals := 67 } : Room) s m #[(.ref a0), (.int (1 : Int32))] below meth c s₁ [] 0 0 := Stand.of_body Bd
  have e0 : s₁.heap = h0 := by rw [← hh, Bd.state]; rfl
  have N0 := Fr.nil n0
  have pre0 : ∀ t, Steps p.tables e below (s₁.setTop (mkF m 0 #[.val (.ref a0), .val (.int 1)] [])) t → Steps p.tables e below (s₁.setTop (entryFrame m #[(.ref a0), (.int (1 : Int32))] 2)) t := fun t k => castTop (ef_9_v1 m a0) k
  obtain ⟨T779, X779, e779, st779⟩ := getF X0 hx hZ hown (host := "") (Or.inl (own_wk hw 66 rfl)) Via.refl e0 F_scores_a0 (g := (mkF m 2 #[.val (.ref a0), .val (.int 1)] [(.ref a0), .int 1])) rfl rfl (hb hby d9_2)
  obtain ⟨cl780, Ar780, -, S780, M780, -, -⟩ := id V_ad
  have ld780 := X779.arraylength hx (by rw [e779]; exact Ar780.1) (State.isArrayOf_alike hZ.alike Ar780.2.1) (g := (mkF m 5 #[.val (.ref a0), .val (.int 1)] [(.ref ad), .int 1])) rfl rfl (hb hby d9_5)
  obtain ⟨_, _, ⟨T781, L781, k781, n781⟩, -, X781, ⟨Lc781, hQ781, l781, y781, z781⟩, st781⟩ := Jvm.LawKit.callS X779 hx (y := (⟨"java/util/Objects", "checkIndex", "(II)I"⟩ : MethodName)) hown (mvT hZ (own_wk hw 77 rfl)) (mvT hZ (own_wk hw 78 rfl)) (mvT hZ (own_wk hw 79 rfl)) (mvT hZ (own_wk hw 80 rfl)) (by decide) (backOf (W := 0) (rm10 l Z ag hw [] (1 : Int32) (2 : Int32)  h0 n0 Z0 (by decide) (by decide)) hZ (own_wk hw 80 rfl) (own_wk hw 79 rfl) (by decide) (by decide)) (g := (mkF m 6 #[.val (.ref a0), .val (.int 1)] [.int 2, .int 1])) rfl (by rw [hml]; rfl) (argsL := [(.int (1 : Int32)), (.int (2 : Int32))]) (rest := []) (lenOf pd_6 rfl) rfl (by show 2 * 0 + _ ≤ _; exact Nat.le_of_eq rfl) (hb hby d9_6) (fun _ _ => ⟨rfl, e779, (by decide : 0 + 0 ≤ _), (by decide : 0 + 0 ≤ _)⟩)
  dsimp only [Pt.U, Pt.locs, Pt.cells, Pt.slots] at X781 l781 y781 z781 st781 hQ781
  subst l781 y781 z781
  obtain ⟨rfl, N781q, e781⟩ := hQ781
  have N781 := Fr.app N0 N781q
  obtain ⟨T782, X782, e782, st782⟩ := getF X781 hx hZ hown (host := "") (Or.inl (own_wk hw 70 rfl)) Via.refl e781 F_explanations_a0 (g := (mkF m 11 #[.val (.ref a0), .val (.int 1)] [(.ref a0)])) rfl rfl (hb hby d9_11)
  obtain ⟨T783, X783, e783, st783⟩ := getF X782 hx hZ hown (host := "") (Or.inl (own_wk hw 70 rfl)) Via.refl e782 F_explanations_a0 (g := (mkF m 24 #[.val (.ref a0), .val (.int 1)] [(.ref a0)])) rfl rfl (hb hby d9_24)
  have cp784 : ∀ target, own_S p e below T783 (mkF m 28 #[.val (.ref a0), .val (.int 1)] [.int 1, (.ref ae)]) target → own_S p e below s₁ (mkF m 0 #[.val (.ref a0), .val (.int 1)] []) target := by
    intro target kt
    show own_S p e below s₁ (mkF m 0 #[.val (.ref a0), .val (.int 1)] []) _
    refine XS.iloadN X0.here hx rfl (hb hby d9_0) rfl ?_
    show own_S p e below s₁ (mkF m 1 #[.val (.ref a0), .val (.int 1)] [.int 1]) _
    refine XS.aloadN X0.here hx rfl (hb hby d9_1) rfl rfl ?_
    show own_S p e below s₁ (mkF m 2 #[.val (.ref a0), .val (.int 1)] [(.ref a0), .int 1]) _
    refine st779 _ ?_
    show own_S p e below T779 (mkF m 5 #[.val (.ref a0), .val (.int 1)] [(.ref ad), .int 1]) _
    refine ld780 _ ?_
    rw [len_of S780 M780]
    show own_S p e below T779 (mkF m 6 #[.val (.ref a0), .val (.int 1)] [.int 2, .int 1]) _
    refine st781 _ ?_
    show own_S p e below T781 (mkF m 9 #[.val (.ref a0), .val (.int 1)] [.int 1]) _
    refine XS.pop X781.here hx rfl (hb hby d9_9) rfl rfl ?_
    show own_S p e below T781 (mkF m 10 #[.val (.ref a0), .val (.int 1)] []) _
    refine XS.aloadN X781.here hx rfl (hb hby d9_10) rfl rfl ?_
    show own_S p e below T781 (mkF m 11 #[.val (.ref a0), .val (.int 1)] [(.ref a0)]) _
    refine st782 _ ?_
    show own_S p e below T782 (mkF m 14 #[.val (.ref a0), .val (.int 1)] [(.ref ae)]) _
    refine XS.ifnonnullYes X782.here hx rfl (pc0 := 14) (pc' := 23) rfl (hb hby d9_14) rfl (by decide) (by decide) ?_
    show own_S p e below T782 (mkF m 23 #[.val (.ref a0), .val (.int 1)] []) _
    refine XS.aloadN X782.here hx rfl (hb hby d9_23) rfl rfl ?_
    show own_S p e below T782 (mkF m 24 #[.val (.ref a0), .val (.int 1)] [(.ref a0)]) _
    refine st783 _ ?_
    show own_S p e below T783 (mkF m 27 #[.val (.ref a0), .val (.int 1)] [(.ref ae)]) _
    refine XS.iloadN X783.here hx rfl (hb hby d9_27) rfl ?_
    exact kt
  obtain ⟨cq785, q785, q785'⟩ := E_ae.cell
  obtain ⟨_, _, ⟨T785, L785, k785, n785⟩, -, X785, ⟨Lc785, hQ785, l785, y785, z785⟩, st785⟩ := own_prb X783 hx (y := (⟨"com/example/rank60/rank60/FusedList$Explanations", "of", "(I)Ljava/util/List;"⟩ : MethodName)) (ym := (⟨"com/example/rank60/rank60/FusedList$Explanations", "add", "(IIDD)V"⟩ : MethodName)) hown (own_refZ hZ (by decide) (own_wk hw 86 rfl) (own_wk hw 85 rfl)) (mvT hZ (own_wk hw 86 rfl)) (mvT hZ (own_wk hw 26 rfl)) (Cond.privateMethod_at (mvP hZ (own_wk hw 87 rfl) (args := #[]))) (mvT hZ (own_wk hw 88 rfl)) rfl (by decide) (backOf (W := 0) (rm12_1 l Z ag hw [] ae az kt x0 x1 x2 h0 n0 Z0 E_ae F_starts_ae V_az) hZ (own_wk hw 88 rfl) (own_wk hw 2 rfl) (by decide) (by decide)) (g := (mkF m 28 #[.val (.ref a0), .val (.int 1)] [.int 1, (.ref ae)])) rfl (by rw [hml]; rfl) (Steps.refl _) (a := ae) (by rw [e783]; exact q785) q785' (argsL := [(.int (1 : Int32))]) (rest := []) (lenOf pd_5 rfl) rfl (by show 2 * 0 + _ ≤ _; exact Nat.le_of_eq rfl) (hb hby d9_28) (fun _ _ => ⟨rfl, e783, (by decide : 0 + 1 ≤ _), (by decide : 0 + 4 ≤ _)⟩)
  dsimp only [Pt.U, Pt.locs, Pt.cells, Pt.slots] at X785 l785 y785 z785 st785 hQ785
  subst l785 y785 z785
  obtain ⟨r785, rfl, N785q, K785, ge_r785, gq_r785, o785_0, o785_1, o785_2, o785_3⟩ := hQ785
  have N785 := Fr.app N781 N785q
  have gs_r785 : h0.size ≤ r785 := Nat.le_trans (Keep.refl h0 []).1 gq_r785
  have x786 := E_a0.keep K785
  have x787 := F_scores_a0.keep K785 nin0
  have x788 := V_ad.keep K785 nin0
  have x789 := F_explanations_a0.keep K785 nin0
  have x790 := E_ae.keep K785
  have x791 := F_starts_ae.keep K785 nin0
  have x792 := V_az.keep K785 nin0
  have sz793 : n0 ≤ T785.heap.size := Nat.le_trans Z0 K785.1
  have kp794 : Keep h0 T785.heap [] := (Keep.refl h0 []).trans K785 all0
  obtain ⟨fs, hr, hrun, hended, hW, hsame⟩ := X785.leave (v := some (.ref r785)) (fun h => by rw [Bd.returns] at h; cases h)
  refine ⟨_, _, pre0 _ ?_, hrun, hended, _, _, rfl, ?_, ⟨_, rfl⟩, hW, hsame.mono (by decide) (by decide)⟩
  · show own_S p e below s₁ (mkF m 0 #[.val (.ref a0), .val (.int 1)] []) _
    refine cp784 _ ?_
    show own_S p e below T783 (mkF m 28 #[.val (.ref a0), .val (.int 1)] [.int 1, (.ref ae)]) _
    refine st785.trans ?_
    show own_S p e below T785 (mkF m 31 #[.val (.ref a0), .val (.int 1)] [(.ref r785)]) _
    exact Jvm.RoadKit.retOut X785 hx Bd.returns rfl (Or.inr (Or.inr (Or.inr (Or.inr ⟨rfl, rfl, rfl⟩)))) (hb hby d9_31) hr
  · show Q9_1 Z a0 ad kd z0 z1 ae az kt x0 x1 x2 h0 n0 _ T785.heap _
    exact ⟨r785, rfl, N785, kp794, ge_r785, gs_r785, o785_0, o785_1, o785_2, o785_3⟩
theorem ef_17 (m : MethodId) (a0 : Addr) (p1 : Int32) (p2 : Int32) (r3 : UInt64) (r4 : UInt64) : entryFrame m #[(.ref a0), (.int p1), (.int p2), (.double r3), (.double r4)] 7 = mkF m 0 #[.val (.ref a0), .val (.int p1), .val (.int p2), .val (.double r3), .second, .val (.double r4), .second] [] := by first | (simp [entryFrame, mkF, argsToLocals, Value.category]; done) | rfl
theorem d17_0 : decode prog_8_method_1_code 0 = .ok (.aload_n 0, 1) := by decide +kernel
theorem d17_1 : decode prog_8_method_1_code 1 = .ok (.invokespecial 1, 3) := by decide +kernel
theorem d17_4 : decode prog_8_method_1_code 4 = .ok (.aload_n 0, 1) := by decide +kernel
theorem d17_5 : decode prog_8_method_1_code 5 = .ok (.iload_n 1, 1) := by decide +kernel
theorem d17_6 : decode prog_8_method_1_code 6 = .ok (.putfield 7, 3) := by decide +kernel
theorem d17_9 : decode prog_8_method_1_code 9 = .ok (.aload_n 0, 1) := by decide +kernel
theorem d17_10 : decode prog_8_method_1_code 10 = .ok (.iload_n 2, 1) := by decide +kernel
theorem d17_11 : decode prog_8_method_1_code 11 = .ok (.putfield 13, 3) := by decide +kernel
theorem d17_14 : decode prog_8_method_1_code 14 = .ok (.aload_n 0, 1) := by decide +kernel
theorem d17_15 : decode prog_8_method_1_code 15 = .ok (.dload_n 3, 1) := by decide +kernel
theorem d17_16 : decode prog_8_method_1_code 16 = .ok (.putfield 16, 3) := by decide +kernel
theorem d17_19 : decode prog_8_method_1_code 19 = .ok (.aload_n 0, 1) := by decide +kernel
theorem d17_20 : decode prog_8_method_1_code 20 = .ok (.dload 5, 2) := by decide +kernel
theorem d17_22 : decode prog_8_method_1_code 22 = .ok (.putfield 20, 3) := by decide +kernel
theorem d17_25 : decode prog_8_method_1_code 25 = .ok (.return_, 1) := by decide +kernel
def Q17 (Z : State) (a0 : Addr) (p1 : Int32) (p2 : Int32) (r3 : UInt64) (r4 : UInt64) (h0 : Heap) (n0 : Nat) (v : Option Value) (h : Heap) (L : List Loc) : Prop := v = none ∧ Fr n0 L ∧ Keep h0 h [a0] ∧ Fld Z h a0 "com/example/rank60/rank60/FusedHit$Contribution" "input" "I" (.int p1) ∧ Fld Z h a0 "com/example/rank60/rank60/FusedHit$Contribution" "rank" "I" (.int p2) ∧ Fld Z h a0 "com/example/rank60/rank60/FusedHit$Contribution" "score" "D" (.double r3) ∧ Fld Z h a0 "com/example/rank60/rank60/FusedHit$Contribution" "value" "D" (.double r4)
set_option maxRecDepth 65536 in
set_option maxHeartbeats 40000000 in
theorem rm17 (l : Launch) (Z : State) (ag : Array Value) (hw : ∀ d ∈ tables_1, d.before ag Z = true) (ws : List Jvm.Cond) (a0 : Addr) (p1 : Int32) (p2 : Int32) (r3 : UInt64) (r4 : UInt64) (h0 : Heap) (n0 : Nat) (Z0 : n0 ≤ h0.size) (E_a0 : Exa Z h0 a0 "com/example/rank60/rank60/FusedHit$Contribution") (F_input_a0 : Fld Z h0 a0 "com/example/rank60/rank60/FusedHit$Contribution" "input" "I" (.int (0 : Int32))) (F_rank_a0 : Fld Z h0 a0 "com/example/rank60/rank60/FusedHit$Contribution" "rank" "I" (.int (0 : Int32))) (F_score_a0 : Fld Z h0 a0 "com/example/rank60/rank60/FusedHit$Contribution" "score" "D" (.double (0 : UInt64))) (F_value_a0 : Fld Z h0 a0 "com/example/rank60/rank60/FusedHit$Contribution" "value" "D" (.double (0 : UInt64))) (ge_a0 : n0 ≤ a0) :
    MetFree l (⟨"com/example/rank60/rank60/FusedHit$Contribution", "<init>", "(IIDD)V"⟩ : MethodName) (head1 (Jvm.Cond.code (⟨"com/example/rank60/rank60/FusedHit$Contribution", "<init>", "(IIDD)V"⟩ : MethodName) prog_8_method_1_code 7 none :: ws) ({ frames := 2, cells := 0, slots := 0, locals := 24 } : Room)) (fun a U => a = #[(.ref a0), (.int p1), (.int p2), (.double r3), (.double r4)] ∧ Z.Warmed39 U.vm ∧ U.heap = h0) (fun _ _ _ _ _ => True) (fun _ U o U' => ∃ v L, o = .returned v ∧ Q17 Z a0 p1 p2 r3 r4 h0 n0 v U'.heap L ∧ FrameEnd U o U' L ({ frames := 2, cells := 0, slots := 0, locals := 24 } : Room).cells ({ frames := 2, cells := 0, slots := 0, locals := 24 } : Room).slots) := by
  refine MetFree.of_bodySF (plainFor_of_name pn_1) hisR ?_
  intro p e s m args below meth c s₁ Bd hml0 hP hK
  obtain ⟨rfl, hZ, hh⟩ := hP
  have hx := Bd.exec
  have hby := Bd.bytes
  have hml : c.maxLocals = 7 := hml0
  have hown : s.vm.findClass "com/example/rank60/rank60/FusedHit$Contribution" = some m.cls := findClass_of_methodNamed Bd.named
  have hnm := (name_of_methodNamed Bd.named Bd.method).1
  have X0 : Stand p l e ({ frames := 2, cells := 0, slots := 0, locals := 24 } : Room) s m #[(.ref a0), (.int p1), (.int p2), (.double r3), (.double r4)] below meth c s₁ [] 0 0 := Stand.of_body Bd
  have e0 : s₁.heap = h0 := by rw [← hh, Bd.state]; rfl
  have N0 := Fr.nil n0
  have pre0 : ∀ t, Steps p.tables e below (s₁.setTop (mkF m 0 #[.val (.ref a0), .val (.int p1), .val (.int p2), .val (.double r3), .second, .val (.double r4), .second] [])) t → Steps p.tables e below (s₁.setTop (entryFrame m #[(.ref a0), (.int p1), (.int p2), (.double r3), (.double r4)] 7)) t := fun t k => castTop (ef_17 m a0 p1 p2 r3 r4) k
  obtain ⟨_, _, ⟨T795, L795, k795, n795⟩, -, X795, ⟨Lc795, hQ795, l795, y795, z795⟩, st795⟩ := X0.specialBack hx (y := (⟨"java/lang/Record", "<init>", "()V"⟩ : MethodName)) rfl hown (mvT hZ (own_wk hw 137 rfl)) (mvT hZ (own_wk hw 138 rfl)) (mvT hZ (own_wk hw 141 rfl)) (by decide) (backOf (W := 0) (rm18 l Z ag hw [] a0  h0 n0 Z0 ) hZ (own_wk hw 141 rfl) (own_wk hw 140 rfl) (by decide) (by decide)) (g := (mkF m 1 (own_loc1 a0 p1 p2 r3 r4) [(.ref a0)])) rfl (by rw [hml]; rfl) (Steps.refl _) (a := a0) (argsL := []) (rest := []) (lenOf pd_2 rfl) rfl (by show 2 * 0 + _ ≤ _; exact Nat.le_of_eq rfl) (hb hby d17_1) (fun _ _ => ⟨rfl, e0, (by decide : 0 + 0 ≤ _), (by decide : 0 + 0 ≤ _)⟩)
  dsimp only [Pt.U, Pt.locs, Pt.cells, Pt.slots] at X795 l795 y795 z795 st795 hQ795
  subst l795 y795 z795
  obtain ⟨rfl, N795q, e795⟩ := hQ795
  have N795 := Fr.app N0 N795q
  obtain ⟨T796, h796, X796, e796, W796, st796⟩ := putF X795 hx hZ hown (host := "") (Or.inl (own_wk hw 143 rfl)) Via.refl e795 F_input_a0 E_a0 (Or.inr ⟨(own_wk hw 144 rfl), rfl, hnm⟩) (own_wk hw 128 rfl) (ty := .int) (by decide) rfl rfl (g := (mkF m 6 (own_loc1 a0 p1 p2 r3 r4) [(.int p1), (.ref a0)])) rfl rfl (hb hby d17_6)
  have Fw796 := F_input_a0.same W796
  have x797 := E_a0.wr W796
  have x798 := F_rank_a0.other W796 (Or.inr (slot_ne (Or.inr (own_wk hw 146 rfl)) (Or.inr (own_wk hw 144 rfl)) (by decide) (t := .int) (t' := .int) (by decide) (by decide)))
  have x799 := F_score_a0.other W796 (Or.inr (slot_ne (Or.inr (own_wk hw 148 rfl)) (Or.inr (own_wk hw 144 rfl)) (by decide) (t := .double) (t' := .int) (by decide) (by decide)))
  have x800 := F_value_a0.other W796 (Or.inr (slot_ne (Or.inr (own_wk hw 150 rfl)) (Or.inr (own_wk hw 144 rfl)) (by decide) (t := .double) (t' := .int) (by decide) (by decide)))
  have sz801 : n0 ≤ h796.size := Nat.le_trans Z0 (Keep.of_wr W796).1
  have kp802 : Keep h0 h796 [a0] := (Keep.refl h0 [a0]).wr W796 (Or.inl (List.mem_of_getElem? (i := 0) rfl))
  have N796 := Fr.snoc X796 N795 ge_a0
  obtain ⟨T803, h803, X803, e803, W803, st803⟩ := putF X796 hx hZ hown (host := "") (Or.inl (own_wk hw 145 rfl)) Via.refl e796 x798 x797 (Or.inr ⟨(own_wk hw 146 rfl), rfl, hnm⟩) (own_wk hw 128 rfl) (ty := .int) (by decide) rfl rfl (g := (mkF m 11 (own_loc1 a0 p1 p2 r3 r4) [(.int p2), (.ref a0)])) rfl rfl (hb hby d17_11)
  have Fw803 := x798.same W803
  have x804 := x797.wr W803
  have x805 := x799.other W803 (Or.inr (slot_ne (Or.inr (own_wk hw 148 rfl)) (Or.inr (own_wk hw 146 rfl)) (by decide) (t := .double) (t' := .int) (by decide) (by decide)))
  have x806 := x800.other W803 (Or.inr (slot_ne (Or.inr (own_wk hw 150 rfl)) (Or.inr (own_wk hw 146 rfl)) (by decide) (t := .double) (t' := .int) (by decide) (by decide)))
  have x807 := Fw796.other W803 (Or.inr (slot_ne (Or.inr (own_wk hw 144 rfl)) (Or.inr (own_wk hw 146 rfl)) (by decide) (t := .int) (t' := .int) (by decide) (by decide)))
  have sz808 : n0 ≤ h803.size := Nat.le_trans sz801 (Keep.of_wr W803).1
  have kp809 : Keep h0 h803 [a0] := kp802.wr W803 (Or.inl (List.mem_of_getElem? (i := 0) rfl))
  have N803 := Fr.snoc X803 N796 ge_a0
  obtain ⟨T810, h810, X810, e810, W810, st810⟩ := putF X803 hx hZ hown (host := "") (Or.inl (own_wk hw 147 rfl)) Via.refl e803 x805 x804 (Or.inr ⟨(own_wk hw 148 rfl), rfl, hnm⟩) (own_wk hw 128 rfl) (ty := .double) (by decide) rfl rfl (g := (mkF m 16 (own_loc1 a0 p1 p2 r3 r4) [(.double r3), (.ref a0)])) rfl rfl (hb hby d17_16)
  have Fw810 := x805.same W810
  have x811 := x804.wr W810
  have x812 := x806.other W810 (Or.inr (slot_ne (Or.inr (own_wk hw 150 rfl)) (Or.inr (own_wk hw 148 rfl)) (by decide) (t := .double) (t' := .double) (by decide) (by decide)))
  have x813 := x807.other W810 (Or.inr (slot_ne (Or.inr (own_wk hw 144 rfl)) (Or.inr (own_wk hw 148 rfl)) (by decide) (t := .int) (t' := .double) (by decide) (by decide)))
  have x814 := Fw803.other W810 (Or.inr (slot_ne (Or.inr (own_wk hw 146 rfl)) (Or.inr (own_wk hw 148 rfl)) (by decide) (t := .int) (t' := .double) (by decide) (by decide)))
  have sz815 : n0 ≤ h810.size := Nat.le_trans sz808 (Keep.of_wr W810).1
  have kp816 : Keep h0 h810 [a0] := kp809.wr W810 (Or.inl (List.mem_of_getElem? (i := 0) rfl))
  have N810 := Fr.snoc X810 N803 ge_a0
  obtain ⟨T817, h817, X817, e817, W817, st817⟩ := putF X810 hx hZ hown (host := "") (Or.inl (own_wk hw 149 rfl)) Via.refl e810 x812 x811 (Or.inr ⟨(own_wk hw 150 rfl), rfl, hnm⟩) (own_wk hw 128 rfl) (ty := .double) (by decide) rfl rfl (g := (mkF m 22 (own_loc1 a0 p1 p2 r3 r4) [(.double r4), (.ref a0)])) rfl rfl (hb hby d17_22)
  have Fw817 := x812.same W817
  have x818 := x811.wr W817
  have x819 := x813.other W817 (Or.inr (slot_ne (Or.inr (own_wk hw 144 rfl)) (Or.inr (own_wk hw 150 rfl)) (by decide) (t := .int) (t' := .double) (by decide) (by decide)))
  have x820 := x814.other W817 (Or.inr (slot_ne (Or.inr (own_wk hw 146 rfl)) (Or.inr (own_wk hw 150 rfl)) (by decide) (t := .int) (t' := .double) (by decide) (by decide)))
  have x821 := Fw810.other W817 (Or.inr (slot_ne (Or.inr (own_wk hw 148 rfl)) (Or.inr (own_wk hw 150 rfl)) (by decide) (t := .double) (t' := .double) (by decide) (by decide)))
  have sz822 : n0 ≤ h817.size := Nat.le_trans sz815 (Keep.of_wr W817).1
  have kp823 : Keep h0 h817 [a0] := kp816.wr W817 (Or.inl (List.mem_of_getElem? (i := 0) rfl))
  have N817 := Fr.snoc X817 N810 ge_a0
  obtain ⟨fs, hr, hrun, hended, hW, hsame⟩ := X817.leave (v := none) (fun _ => rfl)
  refine ⟨_, _, pre0 _ ?_, hrun, hended, _, _, rfl, ?_, ⟨_, rfl⟩, hW, hsame.mono (by decide) (by decide)⟩
  · show own_S p e below s₁ (mkF m 0 (own_loc1 a0 p1 p2 r3 r4) []) _
    refine XS.aloadN X0.here hx rfl (hb hby d17_0) rfl rfl ?_
    show own_S p e below s₁ (mkF m 1 (own_loc1 a0 p1 p2 r3 r4) [(.ref a0)]) _
    refine st795.trans ?_
    show own_S p e below T795 (mkF m 4 (own_loc1 a0 p1 p2 r3 r4) []) _
    refine XS.aloadN X795.here hx rfl (hb hby d17_4) rfl rfl ?_
    show own_S p e below T795 (mkF m 5 (own_loc1 a0 p1 p2 r3 r4) [(.ref a0)]) _
    refine XS.iloadN X795.here hx rfl (hb hby d17_5) rfl ?_
    show own_S p e below T795 (mkF m 6 (own_loc1 a0 p1 p2 r3 r4) [(.int p1), (.ref a0)]) _
    refine st796 _ ?_
    show own_S p e below T796 (mkF m 9 (own_loc1 a0 p1 p2 r3 r4) []) _
    refine XS.aloadN X796.here hx rfl (hb hby d17_9) rfl rfl ?_
    show own_S p e below T796 (mkF m 10 (own_loc1 a0 p1 p2 r3 r4) [(.ref a0)]) _
    refine XS.iloadN X796.here hx rfl (hb hby d17_10) rfl ?_
    show own_S p e below T796 (mkF m 11 (own_loc1 a0 p1 p2 r3 r4) [(.int p2), (.ref a0)]) _
    refine st803 _ ?_
    show own_S p e below T803 (mkF m 14 (own_loc1 a0 p1 p2 r3 r4) []) _
    refine XS.aloadN X803.here hx rfl (hb hby d17_14) rfl rfl ?_
    show own_S p e below T803 (mkF m 15 (own_loc1 a0 p1 p2 r3 r4) [(.ref a0)]) _
    refine XS.dloadN X803.here hx rfl (hb hby d17_15) rfl ?_
    show own_S p e below T803 (mkF m 16 (own_loc1 a0 p1 p2 r3 r4) [(.double r3), (.ref a0)]) _
    refine st810 _ ?_
    show own_S p e below T810 (mkF m 19 (own_loc1 a0 p1 p2 r3 r4) []) _
    refine XS.aloadN X810.here hx rfl (hb hby d17_19) rfl rfl ?_
    show own_S p e below T810 (mkF m 20 (own_loc1 a0 p1 p2 r3 r4) [(.ref a0)]) _
    refine XS.dload X810.here hx rfl (hb hby d17_20) rfl ?_
    show own_S p e below T810 (mkF m 22 (own_loc1 a0 p1 p2 r3 r4) [(.double r4), (.ref a0)]) _
    refine st817 _ ?_
    show own_S p e below T817 (mkF m 25 (own_loc1 a0 p1 p2 r3 r4) []) _
    exact X817.returnOut hx Bd.returns (hb hby d17_25) hr
  · show Q17 Z a0 p1 p2 r3 r4 h0 n0 _ T817.heap _
    rw [e817]
    exact ⟨rfl, N817, kp823, x819, x820, x821, Fw817⟩
theorem ef_16_v0 (m : MethodId) (a0 : Addr) : entryFrame m #[(.ref a0), (.int (0 : Int32))] 3 = mkF m 0 #[.val (.ref a0), .val (.int 0), .unset] [] := by first | (simp [entryFrame, mkF, argsToLocals, Value.category]; done) | rfl
theorem d16_0 : decode prog_11_method_2_code 0 = .ok (.aload_n 0, 1) := by decide +kernel
theorem d16_1 : decode prog_11_method_2_code 1 = .ok (.getfield 13, 3) := by decide +kernel
theorem d16_4 : decode prog_11_method_2_code 4 = .ok (.iload_n 1, 1) := by decide +kernel
theorem d16_5 : decode prog_11_method_2_code 5 = .ok (.aload_n 0, 1) := by decide +kernel
theorem d16_6 : decode prog_11_method_2_code 6 = .ok (.getfield 17, 3) := by decide +kernel
theorem d16_9 : decode prog_11_method_2_code 9 = .ok (.invokestatic 20, 3) := by decide +kernel
theorem d16_12 : decode prog_11_method_2_code 12 = .ok (.iadd, 1) := by decide +kernel
theorem d16_13 : decode prog_11_method_2_code 13 = .ok (.istore_n 2, 1) := by decide +kernel
theorem d16_14 : decode prog_11_method_2_code 14 = .ok (.new 26, 3) := by decide +kernel
theorem d16_17 : decode prog_11_method_2_code 17 = .ok (.dup, 1) := by decide +kernel
theorem d16_18 : decode prog_11_method_2_code 18 = .ok (.aload_n 0, 1) := by decide +kernel
theorem d16_19 : decode prog_11_method_2_code 19 = .ok (.getfield 1, 3) := by decide +kernel
theorem d16_22 : decode prog_11_method_2_code 22 = .ok (.getfield 28, 3) := by decide +kernel
theorem d16_25 : decode prog_11_method_2_code 25 = .ok (.iload_n 2, 1) := by decide +kernel
theorem d16_26 : decode prog_11_method_2_code 26 = .ok (.iaload, 1) := by decide +kernel
theorem d16_27 : decode prog_11_method_2_code 27 = .ok (.aload_n 0, 1) := by decide +kernel
theorem d16_28 : decode prog_11_method_2_code 28 = .ok (.getfield 1, 3) := by decide +kernel
theorem d16_31 : decode prog_11_method_2_code 31 = .ok (.getfield 34, 3) := by decide +kernel
theorem d16_34 : decode prog_11_method_2_code 34 = .ok (.iload_n 2, 1) := by decide +kernel
theorem d16_35 : decode prog_11_method_2_code 35 = .ok (.iaload, 1) := by decide +kernel
theorem d16_36 : decode prog_11_method_2_code 36 = .ok (.aload_n 0, 1) := by decide +kernel
theorem d16_37 : decode prog_11_method_2_code 37 = .ok (.getfield 1, 3) := by decide +kernel
theorem d16_40 : decode prog_11_method_2_code 40 = .ok (.getfield 37, 3) := by decide +kernel
theorem d16_43 : decode prog_11_method_2_code 43 = .ok (.ifnonnull 9, 3) := by decide +kernel
theorem d16_46 : decode prog_11_method_2_code 46 = .ok (.ldc2_w 43, 3) := by decide +kernel
theorem d16_49 : decode prog_11_method_2_code 49 = .ok (.goto 12, 3) := by decide +kernel
theorem d16_61 : decode prog_11_method_2_code 61 = .ok (.aload_n 0, 1) := by decide +kernel
theorem d16_62 : decode prog_11_method_2_code 62 = .ok (.getfield 1, 3) := by decide +kernel
theorem d16_65 : decode prog_11_method_2_code 65 = .ok (.getfield 45, 3) := by decide +kernel
theorem d16_68 : decode prog_11_method_2_code 68 = .ok (.iload_n 2, 1) := by decide +kernel
theorem d16_69 : decode prog_11_method_2_code 69 = .ok (.daload, 1) := by decide +kernel
theorem pd_7 : parseMethodDescriptor "(IIDD)V" = some ⟨[.int, .int, .double, .double], none⟩ := by decide +kernel
theorem d16_70 : decode prog_11_method_2_code 70 = .ok (.invokespecial 48, 3) := by decide +kernel
theorem d16_73 : decode prog_11_method_2_code 73 = .ok (.areturn, 1) := by decide +kernel
def Q16_000 (Z : State) (a0 : Addr) (sz : Int32) (ae : Addr) (ai : Addr) (ak : Addr) (av : Addr) (ki : ClassId) (xi0 : Int32) (xi1 : Int32) (kk : ClassId) (xk0 : Int32) (xk1 : Int32) (kv : ClassId) (xv0 : UInt64) (xv1 : UInt64) (h0 : Heap) (n0 : Nat) (v : Option Value) (h : Heap) (L : List Loc) : Prop := ∃ r : Addr, v = some (.ref r) ∧ Fr n0 L ∧ Keep h0 h [] ∧ n0 ≤ r ∧ h0.size ≤ r ∧ Exa Z h r "com/example/rank60/rank60/FusedHit$Contribution" ∧ Fld Z h r "com/example/rank60/rank60/FusedHit$Contribution" "input" "I" (.int xi0) ∧ Fld Z h r "com/example/rank60/rank60/FusedHit$Contribution" "rank" "I" (.int xk0) ∧ Fld Z h r "com/example/rank60/rank60/FusedHit$Contribution" "score" "D" (.double (9221120237041090560 : UInt64)) ∧ Fld Z h r "com/example/rank60/rank60/FusedHit$Contribution" "value" "D" (.double xv0)
set_option maxRecDepth 65536 in
set_option maxHeartbeats 40000000 in
theorem rm16_000 (l : Launch) (Z : State) (ag : Array Value) (hw : ∀ d ∈ tables_1, d.before ag Z = true) (ws : List Jvm.Cond) (a0 : Addr) (sz : Int32) (ae : Addr) (ai : Addr) (ak : Addr) (av : Addr) (ki : ClassId) (xi0 : Int32) (xi1 : Int32) (kk : ClassId) (xk0 : Int32) (xk1 : Int32) (kv : ClassId) (xv0 : UInt64) (xv1 : UInt64) (h0 : Heap) (n0 : Nat) (Z0 : n0 ≤ h0.size) (E_a0 : Exa Z h0 a0 "com/example/rank60/rank60/FusedList$Explanations$DocumentContributions") (F_start_a0 : Fld Z h0 a0 "com/example/rank60/rank60/FusedList$Explanations$DocumentContributions" "start" "I" (.int (0 : Int32))) (F_size_a0 : Fld Z h0 a0 "com/example/rank60/rank60/FusedList$Explanations$DocumentContributions" "size" "I" (.int sz)) (F_this_0_a0 : Fld Z h0 a0 "com/example/rank60/rank60/FusedList$Explanations$DocumentContributions" "this$0" "Lcom/example/rank60/rank60/FusedList$Explanations;" (.ref ae)) (E_ae : Exa Z h0 ae "com/example/rank60/rank60/FusedList$Explanations") (F_inputs_ae : Fld Z h0 ae "com/example/rank60/rank60/FusedList$Explanations" "inputs" "[I" (.ref ai)) (F_ranks_ae : Fld Z h0 ae "com/example/rank60/rank60/FusedList$Explanations" "ranks" "[I" (.ref ak)) (F_scores_ae : Fld Z h0 ae "com/example/rank60/rank60/FusedList$Explanations" "scores" "[D" .null) (F_values_ae : Fld Z h0 ae "com/example/rank60/rank60/FusedList$Explanations" "values" "[D" (.ref av)) (V_ai : Arv Z h0 ai ki .int (2 : Int32) [(.int xi0), (.int xi1)] (.int (0 : Int32))) (V_ak : Arv Z h0 ak kk .int (2 : Int32) [(.int xk0), (.int xk1)] (.int (0 : Int32))) (V_av : Arv Z h0 av kv .double (2 : Int32) [(.double xv0), (.double xv1)] (.double (FP.l2d 0))) (hsz : (0 : Int32) < sz) :
    MetFree l (⟨"com/example/rank60/rank60/FusedList$Explanations$DocumentContributions", "get", "(I)Lcom/example/rank60/rank60/FusedHit$Contribution;"⟩ : MethodName) (head1 (Jvm.Cond.code (⟨"com/example/rank60/rank60/FusedList$Explanations$DocumentContributions", "get", "(I)Lcom/example/rank60/rank60/FusedHit$Contribution;"⟩ : MethodName) prog_11_method_2_code 3 (some (.object "com/example/rank60/rank60/FusedHit$Contribution")) :: ws) ({ frames := 3, cells := 1, slots := 4, locals := 43 } : Room)) (fun a U => a = #[(.ref a0), (.int (0 : Int32))] ∧ Z.Warmed39 U.vm ∧ U.heap = h0) (fun _ _ _ _ _ => True) (fun _ U o U' => ∃ v L, o = .returned v ∧ Q16_000 Z a0 sz ae ai ak av ki xi0 xi1 kk xk0 xk1 kv xv0 xv1 h0 n0 v U'.heap L ∧ FrameEnd U o U' L ({ frames := 3, cells := 1, slots := 4, locals := 43 } : Room).cells ({ frames := 3, cells := 1, slots := 4, locals := 43 } : Room).slots) := by
  refine MetFree.of_bodySF (plainFor_of_name pn_4) hisR ?_
  intro p e s m args below meth c s₁ Bd hml0 hP hK
  obtain ⟨rfl, hZ, hh⟩ := hP
  have hx := Bd.exec
  have hby := Bd.bytes
  have hml : c.maxLocals = 3 := hml0
  have hown : s.vm.findClass "com/example/rank60/rank60/FusedList$Explanations$DocumentContributions" = some m.cls := findClass_of_methodNamed Bd.named
  have hnm := (name_of_methodNamed Bd.named Bd.method).1
  have X0 : Stand p l e ({ frames := 3, cells := 1, slots := 4, locals := 43 } : Room) s m #[(.ref a0), (.int (0 : Int32))] below meth c s₁ [] 0 0 := Stand.of_body Bd
  have e0 : s₁.heap = h0 := by rw [← hh, Bd.state]; rfl
  have N0 := Fr.nil n0
  have pre0 : ∀ t, Steps p.tables e below (s₁.setTop (mkF m 0 #[.val (.ref a0), .val (.int 0), .unset] [])) t → Steps p.tables e below (s₁.setTop (entryFrame m #[(.ref a0), (.int (0 : Int32))] 3)) t := fun t k => castTop (ef_16_v0 m a0) k
  obtain ⟨T824, X824, e824, st824⟩ := getF X0 hx hZ hown (host := "") (Or.inl (own_wk hw 100 rfl)) Via.refl e0 F_start_a0 (g := (mkF m 1 #[.val (.ref a0), .val (.int 0), .unset] [(.ref a0)])) rfl rfl (hb hby d16_1)
  obtain ⟨T825, X825, e825, st825⟩ := getF X824 hx hZ hown (host := "") (Or.inl (own_wk hw 102 rfl)) Via.refl e824 F_size_a0 (g := (mkF m 6 #[.val (.ref a0), .val (.int 0), .unset] [(.ref a0), .int 0, .int 0])) rfl rfl (hb hby d16_6)
  obtain ⟨_, _, ⟨T826, L826, k826, n826⟩, -, X826, ⟨Lc826, hQ826, l826, y826, z826⟩, st826⟩ := Jvm.LawKit.callS X825 hx (y := (⟨"java/util/Objects", "checkIndex", "(II)I"⟩ : MethodName)) hown (mvT hZ (own_wk hw 126 rfl)) (mvT hZ (own_wk hw 78 rfl)) (mvT hZ (own_wk hw 79 rfl)) (mvT hZ (own_wk hw 80 rfl)) (by decide) (backOf (W := 1) (rm10 l Z ag hw [] (0 : Int32) sz  h0 n0 Z0 (by decide) hsz) hZ (own_wk hw 80 rfl) (own_wk hw 79 rfl) (by decide) (by decide)) (g := (mkF m 9 #[.val (.ref a0), .val (.int 0), .unset] [(.int sz), .int 0, .int 0])) rfl (by rw [hml]; rfl) (argsL := [(.int (0 : Int32)), (.int sz)]) (rest := [(.int (0 : Int32))]) (lenOf pd_6 rfl) rfl (by show 2 * 0 + _ ≤ _; exact Nat.le_of_eq rfl) (hb hby d16_9) (fun _ _ => ⟨rfl, e825, (by decide : 0 + 0 ≤ _), (by decide : 0 + 0 ≤ _)⟩)
  dsimp only [Pt.U, Pt.locs, Pt.cells, Pt.slots] at X826 l826 y826 z826 st826 hQ826
  subst l826 y826 z826
  obtain ⟨rfl, N826q, e826⟩ := hQ826
  have N826 := Fr.app N0 N826q
  obtain ⟨T827, h827, X827, e827, E827, A827, D827, -, st827⟩ := newO X826 hx hZ hown (own_wk hw 127 rfl) (own_wk hw 128 rfl) (own_wk hw 129 rfl) e826 (g := (mkF m 14 #[.val (.ref a0), .val (.int 0), .val (.int 0)] [])) rfl (hb hby d16_14) (by decide) (by decide)
  obtain ⟨b827, g827⟩ : ∃ z, z = h0.size := ⟨_, rfl⟩
  have ne828 : a0 ≠ b827 := Nat.ne_of_lt (Nat.lt_of_lt_of_le E_a0.lt (Nat.le_of_eq g827.symm))
  have ne829 : ae ≠ b827 := Nat.ne_of_lt (Nat.lt_of_lt_of_le E_ae.lt (Nat.le_of_eq g827.symm))
  have ne830 : ai ≠ b827 := Nat.ne_of_lt (Nat.lt_of_lt_of_le V_ai.lt (Nat.le_of_eq g827.symm))
  have ne831 : ak ≠ b827 := Nat.ne_of_lt (Nat.lt_of_lt_of_le V_ak.lt (Nat.le_of_eq g827.symm))
  have ne832 : av ≠ b827 := Nat.ne_of_lt (Nat.lt_of_lt_of_le V_av.lt (Nat.le_of_eq g827.symm))
  have ge_b827 : n0 ≤ b827 := Nat.le_trans Z0 (Nat.le_of_eq g827.symm)
  have gs_b827 : h0.size ≤ b827 := Nat.le_trans (Keep.refl h0 []).1 (Nat.le_of_eq g827.symm)
  rw [← g827] at A827 D827 st827
  have x833 := E_a0.ext E827
  have x834 := F_start_a0.ext E827
  have x835 := F_size_a0.ext E827
  have x836 := F_this_0_a0.ext E827
  have x837 := E_ae.ext E827
  have x838 := F_inputs_ae.ext E827
  have x839 := F_ranks_ae.ext E827
  have x840 := F_scores_ae.ext E827
  have x841 := F_values_ae.ext E827
  have x842 := V_ai.ext E827
  have x843 := V_ak.ext E827
  have x844 := V_av.ext E827
  have sz845 : n0 ≤ h827.size := Nat.le_trans Z0 E827.1
  have kp846 : Keep h0 h827 [] := (Keep.refl h0 []).ext E827
  have F827_input : Fld Z h827 b827 "com/example/rank60/rank60/FusedHit$Contribution" "input" "I" (.int (0 : Int32)) := D827 (Or.inr (own_wk hw 144 rfl)) (ty := .int) (by decide)
  have F827_rank : Fld Z h827 b827 "com/example/rank60/rank60/FusedHit$Contribution" "rank" "I" (.int (0 : Int32)) := D827 (Or.inr (own_wk hw 146 rfl)) (ty := .int) (by decide)
  have F827_score : Fld Z h827 b827 "com/example/rank60/rank60/FusedHit$Contribution" "score" "D" (.double (0 : UInt64)) := D827 (Or.inr (own_wk hw 148 rfl)) (ty := .double) (by decide)
  have F827_value : Fld Z h827 b827 "com/example/rank60/rank60/FusedHit$Contribution" "value" "D" (.double (0 : UInt64)) := D827 (Or.inr (own_wk hw 150 rfl)) (ty := .double) (by decide)
  obtain ⟨T847, X847, e847, st847⟩ := getF X827 hx hZ hown (host := "") (Or.inl (own_wk hw 95 rfl)) Via.refl e827 x836 (g := (mkF m 19 #[.val (.ref a0), .val (.int 0), .val (.int 0)] [(.ref a0), (.ref b827), (.ref b827)])) rfl rfl (hb hby d16_19)
  obtain ⟨T848, X848, e848, st848⟩ := getF X847 hx hZ hown (Or.inr (own_wk hw 130 rfl)) Via.refl e847 x838 (g := (mkF m 22 #[.val (.ref a0), .val (.int 0), .val (.int 0)] [(.ref ae), (.ref b827), (.ref b827)])) rfl rfl (hb hby d16_22)
  obtain ⟨cl849, Ar849, q849, S849, M849, H849, G849⟩ := id x842
  have hin849 : ¬ ((0 : Int32) < 0 ∨ cl849.slots.size ≤ ((0 : Int32)).toNatClampNeg) := inb_of S849 ⟨(by decide : ¬ (0 : Int32) < 0), (by decide : (0 : Int32) < (2 : Int32))⟩
  have hat849 : cl849.slots[((0 : Int32)).toNatClampNeg]? = some (.int xi0) := Has.at H849 hin849 rfl
  have ld849 := X848.iaload hx (j := (0 : Int32)) (v := (.int xi0)) (by rw [e848]; exact Ar849.1) (State.isArrayOf_alike hZ.alike Ar849.2.1) Ar849.2.2 hin849 hat849 (g := (mkF m 26 #[.val (.ref a0), .val (.int 0), .val (.int 0)] [.int 0, (.ref ai), (.ref b827), (.ref b827)])) rfl rfl (hb hby d16_26)
  obtain ⟨T850, X850, e850, st850⟩ := getF X848 hx hZ hown (host := "") (Or.inl (own_wk hw 95 rfl)) Via.refl e848 x836 (g := (mkF m 28 #[.val (.ref a0), .val (.int 0), .val (.int 0)] [(.ref a0), (.int xi0), (.ref b827), (.ref b827)])) rfl rfl (hb hby d16_28)
  obtain ⟨T851, X851, e851, st851⟩ := getF X850 hx hZ hown (Or.inr (own_wk hw 131 rfl)) Via.refl e850 x839 (g := (mkF m 31 #[.val (.ref a0), .val (.int 0), .val (.int 0)] [(.ref ae), (.int xi0), (.ref b827), (.ref b827)])) rfl rfl (hb hby d16_31)
  obtain ⟨cl852, Ar852, q852, S852, M852, H852, G852⟩ := id x843
  have hin852 : ¬ ((0 : Int32) < 0 ∨ cl852.slots.size ≤ ((0 : Int32)).toNatClampNeg) := inb_of S852 ⟨(by decide : ¬ (0 : Int32) < 0), (by decide : (0 : Int32) < (2 : Int32))⟩
  have hat852 : cl852.slots[((0 : Int32)).toNatClampNeg]? = some (.int xk0) := Has.at H852 hin852 rfl
  have ld852 := X851.iaload hx (j := (0 : Int32)) (v := (.int xk0)) (by rw [e851]; exact Ar852.1) (State.isArrayOf_alike hZ.alike Ar852.2.1) Ar852.2.2 hin852 hat852 (g := (mkF m 35 #[.val (.ref a0), .val (.int 0), .val (.int 0)] [.int 0, (.ref ak), (.int xi0), (.ref b827), (.ref b827)])) rfl rfl (hb hby d16_35)
  obtain ⟨T853, X853, e853, st853⟩ := getF X851 hx hZ hown (host := "") (Or.inl (own_wk hw 95 rfl)) Via.refl e851 x836 (g := (mkF m 37 #[.val (.ref a0), .val (.int 0), .val (.int 0)] [(.ref a0), (.int xk0), (.int xi0), (.ref b827), (.ref b827)])) rfl rfl (hb hby d16_37)
  obtain ⟨T854, X854, e854, st854⟩ := getF X853 hx hZ hown (Or.inr (own_wk hw 132 rfl)) Via.refl e853 x840 (g := (mkF m 40 #[.val (.ref a0), .val (.int 0), .val (.int 0)] [(.ref ae), (.int xk0), (.int xi0), (.ref b827), (.ref b827)])) rfl rfl (hb hby d16_40)
  obtain ⟨T855, X855, e855, st855⟩ := getF X854 hx hZ hown (host := "") (Or.inl (own_wk hw 95 rfl)) Via.refl e854 x836 (g := (mkF m 62 #[.val (.ref a0), .val (.int 0), .val (.int 0)] [(.ref a0), (.double (9221120237041090560 : UInt64)), (.int xk0), (.int xi0), (.ref b827), (.ref b827)])) rfl rfl (hb hby d16_62)
  obtain ⟨T856, X856, e856, st856⟩ := getF X855 hx hZ hown (Or.inr (own_wk hw 133 rfl)) Via.refl e855 x841 (g := (mkF m 65 #[.val (.ref a0), .val (.int 0), .val (.int 0)] [(.ref ae), (.double (9221120237041090560 : UInt64)), (.int xk0), (.int xi0), (.ref b827), (.ref b827)])) rfl rfl (hb hby d16_65)
  obtain ⟨cl857, Ar857, q857, S857, M857, H857, G857⟩ := id x844
  have hin857 : ¬ ((0 : Int32) < 0 ∨ cl857.slots.size ≤ ((0 : Int32)).toNatClampNeg) := inb_of S857 ⟨(by decide : ¬ (0 : Int32) < 0), (by decide : (0 : Int32) < (2 : Int32))⟩
  have hat857 : cl857.slots[((0 : Int32)).toNatClampNeg]? = some (.double xv0) := Has.at H857 hin857 rfl
  have ld857 := X856.daload hx (j := (0 : Int32)) (v := (.double xv0)) (by rw [e856]; exact Ar857.1) (State.isArrayOf_alike hZ.alike Ar857.2.1) Ar857.2.2 hin857 hat857 (g := (mkF m 69 #[.val (.ref a0), .val (.int 0), .val (.int 0)] [.int 0, (.ref av), (.double (9221120237041090560 : UInt64)), (.int xk0), (.int xi0), (.ref b827), (.ref b827)])) rfl rfl (hb hby d16_69)
  have cp858 : ∀ target, own_S p e below T856 (mkF m 70 #[.val (.ref a0), .val (.int 0), .val (.int 0)] [(.double xv0), (.double (9221120237041090560 : UInt64)), (.int xk0), (.int xi0), (.ref b827), (.ref b827)]) target → own_S p e below s₁ (mkF m 0 #[.val (.ref a0), .val (.int 0), .unset] []) target := by
    intro target kt
    show own_S p e below s₁ (mkF m 0 #[.val (.ref a0), .val (.int 0), .unset] []) _
    refine XS.aloadN X0.here hx rfl (hb hby d16_0) rfl rfl ?_
    show own_S p e below s₁ (mkF m 1 #[.val (.ref a0), .val (.int 0), .unset] [(.ref a0)]) _
    refine st824 _ ?_
    show own_S p e below T824 (mkF m 4 #[.val (.ref a0), .val (.int 0), .unset] [.int 0]) _
    refine XS.iloadN X824.here hx rfl (hb hby d16_4) rfl ?_
    show own_S p e below T824 (mkF m 5 #[.val (.ref a0), .val (.int 0), .unset] [.int 0, .int 0]) _
    refine XS.aloadN X824.here hx rfl (hb hby d16_5) rfl rfl ?_
    show own_S p e below T824 (mkF m 6 #[.val (.ref a0), .val (.int 0), .unset] [(.ref a0), .int 0, .int 0]) _
    refine st825 _ ?_
    show own_S p e below T825 (mkF m 9 #[.val (.ref a0), .val (.int 0), .unset] [(.int sz), .int 0, .int 0]) _
    refine st826 _ ?_
    show own_S p e below T826 (mkF m 12 #[.val (.ref a0), .val (.int 0), .unset] [.int 0, .int 0]) _
    refine XS.iadd X826.here hx rfl (hb hby d16_12) rfl ?_
    show own_S p e below T826 (mkF m 13 #[.val (.ref a0), .val (.int 0), .unset] [(.int ((0 : Int32) + (0 : Int32)))]) _
    rw [show ((0 : Int32) + (0 : Int32)) = (0 : Int32) from by decide]
    show own_S p e below T826 (mkF m 13 #[.val (.ref a0), .val (.int 0), .unset] [.int 0]) _
    refine XS.istoreN X826.here hx rfl (hb hby d16_13) rfl (l' := #[.val (.ref a0), .val (.int 0), .val (.int 0)]) rfl ?_
    show own_S p e below T826 (mkF m 14 #[.val (.ref a0), .val (.int 0), .val (.int 0)] []) _
    refine st827 _ ?_
    show own_S p e below T827 (mkF m 17 #[.val (.ref a0), .val (.int 0), .val (.int 0)] [(.ref b827)]) _
    refine XS.dup X827.here hx rfl (hb hby d16_17) rfl rfl ?_
    show own_S p e below T827 (mkF m 18 #[.val (.ref a0), .val (.int 0), .val (.int 0)] [(.ref b827), (.ref b827)]) _
    refine XS.aloadN X827.here hx rfl (hb hby d16_18) rfl rfl ?_
    show own_S p e below T827 (mkF m 19 #[.val (.ref a0), .val (.int 0), .val (.int 0)] [(.ref a0), (.ref b827), (.ref b827)]) _
    refine st847 _ ?_
    show own_S p e below T847 (mkF m 22 #[.val (.ref a0), .val (.int 0), .val (.int 0)] [(.ref ae), (.ref b827), (.ref b827)]) _
    refine st848 _ ?_
    show own_S p e below T848 (mkF m 25 #[.val (.ref a0), .val (.int 0), .val (.int 0)] [(.ref ai), (.ref b827), (.ref b827)]) _
    refine XS.iloadN X848.here hx rfl (hb hby d16_25) rfl ?_
    show own_S p e below T848 (mkF m 26 #[.val (.ref a0), .val (.int 0), .val (.int 0)] [.int 0, (.ref ai), (.ref b827), (.ref b827)]) _
    refine ld849 _ ?_
    show own_S p e below T848 (mkF m 27 #[.val (.ref a0), .val (.int 0), .val (.int 0)] [(.int xi0), (.ref b827), (.ref b827)]) _
    refine XS.aloadN X848.here hx rfl (hb hby d16_27) rfl rfl ?_
    show own_S p e below T848 (mkF m 28 #[.val (.ref a0), .val (.int 0), .val (.int 0)] [(.ref a0), (.int xi0), (.ref b827), (.ref b827)]) _
    refine st850 _ ?_
    show own_S p e below T850 (mkF m 31 #[.val (.ref a0), .val (.int 0), .val (.int 0)] [(.ref ae), (.int xi0), (.ref b827), (.ref b827)]) _
    refine st851 _ ?_
    show own_S p e below T851 (mkF m 34 #[.val (.ref a0), .val (.int 0), .val (.int 0)] [(.ref ak), (.int xi0), (.ref b827), (.ref b827)]) _
    refine XS.iloadN X851.here hx rfl (hb hby d16_34) rfl ?_
    show own_S p e below T851 (mkF m 35 #[.val (.ref a0), .val (.int 0), .val (.int 0)] [.int 0, (.ref ak), (.int xi0), (.ref b827), (.ref b827)]) _
    refine ld852 _ ?_
    show own_S p e below T851 (mkF m 36 #[.val (.ref a0), .val (.int 0), .val (.int 0)] [(.int xk0), (.int xi0), (.ref b827), (.ref b827)]) _
    refine XS.aloadN X851.here hx rfl (hb hby d16_36) rfl rfl ?_
    show own_S p e below T851 (mkF m 37 #[.val (.ref a0), .val (.int 0), .val (.int 0)] [(.ref a0), (.int xk0), (.int xi0), (.ref b827), (.ref b827)]) _
    refine st853 _ ?_
    show own_S p e below T853 (mkF m 40 #[.val (.ref a0), .val (.int 0), .val (.int 0)] [(.ref ae), (.int xk0), (.int xi0), (.ref b827), (.ref b827)]) _
    refine st854 _ ?_
    show own_S p e below T854 (mkF m 43 #[.val (.ref a0), .val (.int 0), .val (.int 0)] [.null, (.int xk0), (.int xi0), (.ref b827), (.ref b827)]) _
    refine XS.ifnonnullNo X854.here hx rfl (hb hby d16_43) rfl ?_
    show own_S p e below T854 (mkF m 46 #[.val (.ref a0), .val (.int 0), .val (.int 0)] [(.int xk0), (.int xi0), (.ref b827), (.ref b827)]) _
    refine X854.ldc2DoubleC hx hown (mvT hZ (own_wk hw 177 rfl)) (g := (mkF m 46 #[.val (.ref a0), .val (.int 0), .val (.int 0)] [(.int xk0), (.int xi0), (.ref b827), (.ref b827)])) rfl (hb hby d16_46) _ ?_
    show own_S p e below T854 (mkF m 49 #[.val (.ref a0), .val (.int 0), .val (.int 0)] [(.double (9221120237041090560 : UInt64)), (.int xk0), (.int xi0), (.ref b827), (.ref b827)]) _
    refine XS.goto X854.here hx rfl (pc0 := 49) (pc' := 61) rfl (hb hby d16_49) (by decide) (by decide) ?_
    show own_S p e below T854 (mkF m 61 #[.val (.ref a0), .val (.int 0), .val (.int 0)] [(.double (9221120237041090560 : UInt64)), (.int xk0), (.int xi0), (.ref b827), (.ref b827)]) _
    refine XS.aloadN X854.here hx rfl (hb hby d16_61) rfl rfl ?_
    show own_S p e below T854 (mkF m 62 #[.val (.ref a0), .val (.int 0), .val (.int 0)] [(.ref a0), (.double (9221120237041090560 : UInt64)), (.int xk0), (.int xi0), (.ref b827), (.ref b827)]) _
    refine st855 _ ?_
    show own_S p e below T855 (mkF m 65 #[.val (.ref a0), .val (.int 0), .val (.int 0)] [(.ref ae), (.double (9221120237041090560 : UInt64)), (.int xk0), (.int xi0), (.ref b827), (.ref b827)]) _
    refine st856 _ ?_
    show own_S p e below T856 (mkF m 68 #[.val (.ref a0), .val (.int 0), .val (.int 0)] [(.ref av), (.double (9221120237041090560 : UInt64)), (.int xk0), (.int xi0), (.ref b827), (.ref b827)]) _
    refine XS.iloadN X856.here hx rfl (hb hby d16_68) rfl ?_
    show own_S p e below T856 (mkF m 69 #[.val (.ref a0), .val (.int 0), .val (.int 0)] [.int 0, (.ref av), (.double (9221120237041090560 : UInt64)), (.int xk0), (.int xi0), (.ref b827), (.ref b827)]) _
    refine ld857 _ ?_
    exact kt
  obtain ⟨_, _, ⟨T859, L859, k859, n859⟩, -, X859, ⟨Lc859, hQ859, l859, y859, z859⟩, st859⟩ := X856.specialBack hx (y := (⟨"com/example/rank60/rank60/FusedHit$Contribution", "<init>", "(IIDD)V"⟩ : MethodName)) rfl hown (mvT hZ (own_wk hw 134 rfl)) (mvT hZ (own_wk hw 135 rfl)) (mvT hZ (own_wk hw 136 rfl)) (by decide) (backOf (W := 1) (rm17 l Z ag hw [] b827 xi0 xk0 (9221120237041090560 : UInt64) xv0  h827 n0 sz845 A827 F827_input F827_rank F827_score F827_value ge_b827) hZ (own_wk hw 136 rfl) (own_wk hw 129 rfl) (by decide) (by decide)) (g := (mkF m 70 #[.val (.ref a0), .val (.int 0), .val (.int 0)] [(.double xv0), (.double (9221120237041090560 : UInt64)), (.int xk0), (.int xi0), (.ref b827), (.ref b827)])) rfl (by rw [hml]; rfl) (Steps.refl _) (a := b827) (argsL := [(.int xi0), (.int xk0), (.double (9221120237041090560 : UInt64)), (.double xv0)]) (rest := [(.ref b827)]) (lenOf pd_7 rfl) rfl (by show 2 * 0 + _ ≤ _; exact Nat.le_of_eq rfl) (hb hby d16_70) (fun _ _ => ⟨rfl, e856, (by decide : 1 + 0 ≤ _), (by decide : 4 + 0 ≤ _)⟩)
  dsimp only [Pt.U, Pt.locs, Pt.cells, Pt.slots] at X859 l859 y859 z859 st859 hQ859
  subst l859 y859 z859
  obtain ⟨rfl, N859q, K859, o859_0, o859_1, o859_2, o859_3⟩ := hQ859
  have N859 := Fr.app N826 N859q
  have x860 := x833.keep K859
  have x861 := x834.keep K859 (ninS ne828 nin0)
  have x862 := x835.keep K859 (ninS ne828 nin0)
  have x863 := x836.keep K859 (ninS ne828 nin0)
  have x864 := x837.keep K859
  have x865 := x838.keep K859 (ninS ne829 nin0)
  have x866 := x839.keep K859 (ninS ne829 nin0)
  have x867 := x840.keep K859 (ninS ne829 nin0)
  have x868 := x841.keep K859 (ninS ne829 nin0)
  have x869 := x842.keep K859 (ninS ne830 nin0)
  have x870 := x843.keep K859 (ninS ne831 nin0)
  have x871 := x844.keep K859 (ninS ne832 nin0)
  have x872 := A827.keep K859
  have sz873 : n0 ≤ T859.heap.size := Nat.le_trans sz845 K859.1
  have kp874 : Keep h0 T859.heap [] := kp846.trans K859 (allS (Or.inr gs_b827) all0)
  obtain ⟨fs, hr, hrun, hended, hW, hsame⟩ := X859.leave (v := some (.ref b827)) (fun h => by rw [Bd.returns] at h; cases h)
  refine ⟨_, _, pre0 _ ?_, hrun, hended, _, _, rfl, ?_, ⟨_, rfl⟩, hW, hsame.mono (by decide) (by decide)⟩
  · show own_S p e below s₁ (mkF m 0 #[.val (.ref a0), .val (.int 0), .unset] []) _
    refine cp858 _ ?_
    show own_S p e below T856 (mkF m 70 #[.val (.ref a0), .val (.int 0), .val (.int 0)] [(.double xv0), (.double (9221120237041090560 : UInt64)), (.int xk0), (.int xi0), (.ref b827), (.ref b827)]) _
    refine st859.trans ?_
    show own_S p e below T859 (mkF m 73 #[.val (.ref a0), .val (.int 0), .val (.int 0)] [(.ref b827)]) _
    exact Jvm.RoadKit.retOut X859 hx Bd.returns rfl (Or.inr (Or.inr (Or.inr (Or.inr ⟨rfl, rfl, rfl⟩)))) (hb hby d16_73) hr
  · show Q16_000 Z a0 sz ae ai ak av ki xi0 xi1 kk xk0 xk1 kv xv0 xv1 h0 n0 _ T859.heap _
    exact ⟨b827, rfl, N859, kp874, ge_b827, gs_b827, x872, o859_0, o859_1, o859_2, o859_3⟩
theorem d16_52 : decode prog_11_method_2_code 52 = .ok (.aload_n 0, 1) := by decide +kernel
theorem d16_53 : decode prog_11_method_2_code 53 = .ok (.getfield 1, 3) := by decide +kernel
theorem d16_56 : decode prog_11_method_2_code 56 = .ok (.getfield 37, 3) := by decide +kernel
theorem d16_59 : decode prog_11_method_2_code 59 = .ok (.iload_n 2, 1) := by decide +kernel
theorem d16_60 : decode prog_11_method_2_code 60 = .ok (.daload, 1) := by decide +kernel
def Q16_001 (Z : State) (a0 : Addr) (sz : Int32) (ae : Addr) (ai : Addr) (ak : Addr) (asx : Addr) (av : Addr) (ki : ClassId) (xi0 : Int32) (xi1 : Int32) (kk : ClassId) (xk0 : Int32) (xk1 : Int32) (ks : ClassId) (xs0 : UInt64) (xs1 : UInt64) (kv : ClassId) (xv0 : UInt64) (xv1 : UInt64) (h0 : Heap) (n0 : Nat) (v : Option Value) (h : Heap) (L : List Loc) : Prop := ∃ r : Addr, v = some (.ref r) ∧ Fr n0 L ∧ Keep h0 h [] ∧ n0 ≤ r ∧ h0.size ≤ r ∧ Exa Z h r "com/example/rank60/rank60/FusedHit$Contribution" ∧ Fld Z h r "com/example/rank60/rank60/FusedHit$Contribution" "input" "I" (.int xi0) ∧ Fld Z h r "com/example/rank60/rank60/FusedHit$Contribution" "rank" "I" (.int xk0) ∧ Fld Z h r "com/example/rank60/rank60/FusedHit$Contribution" "score" "D" (.double xs0) ∧ Fld Z h r "com/example/rank60/rank60/FusedHit$Contribution" "value" "D" (.double xv0)
set_option maxRecDepth 65536 in
set_option maxHeartbeats 40000000 in
theorem rm16_001 (l : Launch) (Z : State) (ag : Array Value) (hw : ∀ d ∈ tables_1, d.before ag Z = true) (ws : List Jvm.Cond) (a0 : Addr) (sz : Int32) (ae : Addr) (ai : Addr) (ak : Addr) (asx : Addr) (av : Addr) (ki : ClassId) (xi0 : Int32) (xi1 : Int32) (kk : ClassId) (xk0 : Int32) (xk1 : Int32) (ks : ClassId) (xs0 : UInt64) (xs1 : UInt64) (kv : ClassId) (xv0 : UInt64) (xv1 : UInt64) (h0 : Heap) (n0 : Nat) (Z0 : n0 ≤ h0.size) (E_a0 : Exa Z h0 a0 "com/example/rank60/rank60/FusedList$Explanations$DocumentContributions") (F_start_a0 : Fld Z h0 a0 "com/example/rank60/rank60/FusedList$Explanations$DocumentContributions" "start" "I" (.int (0 : Int32))) (F_size_a0 : Fld Z h0 a0 "com/example/rank60/rank60/FusedList$Explanations$DocumentContributions" "size" "I" (.int sz)) (F_this_0_a0 : Fld Z h0 a0 "com/example/rank60/rank60/FusedList$Explanations$DocumentContributions" "this$0" "Lcom/example/rank60/rank60/FusedList$Explanations;" (.ref ae)) (E_ae : Exa Z h0 ae "com/example/rank60/rank60/FusedList$Explanations") (F_inputs_ae : Fld Z h0 ae "com/example/rank60/rank60/FusedList$Explanations" "inputs" "[I" (.ref ai)) (F_ranks_ae : Fld Z h0 ae "com/example/rank60/rank60/FusedList$Explanations" "ranks" "[I" (.ref ak)) (F_scores_ae : Fld Z h0 ae "com/example/rank60/rank60/FusedList$Explanations" "scores" "[D" (.ref asx)) (F_values_ae : Fld Z h0 ae "com/example/rank60/rank60/FusedList$Explanations" "values" "[D" (.ref av)) (V_ai : Arv Z h0 ai ki .int (2 : Int32) [(.int xi0), (.int xi1)] (.int (0 : Int32))) (V_ak : Arv Z h0 ak kk .int (2 : Int32) [(.int xk0), (.int xk1)] (.int (0 : Int32))) (V_asx : Arv Z h0 asx ks .double (2 : Int32) [(.double xs0), (.double xs1)] (.double (FP.l2d 0))) (V_av : Arv Z h0 av kv .double (2 : Int32) [(.double xv0), (.double xv1)] (.double (FP.l2d 0))) (hsz : (0 : Int32) < sz) :
    MetFree l (⟨"com/example/rank60/rank60/FusedList$Explanations$DocumentContributions", "get", "(I)Lcom/example/rank60/rank60/FusedHit$Contribution;"⟩ : MethodName) (head1 (Jvm.Cond.code (⟨"com/example/rank60/rank60/FusedList$Explanations$DocumentContributions", "get", "(I)Lcom/example/rank60/rank60/FusedHit$Contribution;"⟩ : MethodName) prog_11_method_2_code 3 (some (.object "com/example/rank60/rank60/FusedHit$Contribution")) :: ws) ({ frames := 3, cells := 1, slots := 4, locals := 43 } : Room)) (fun a U => a = #[(.ref a0), (.int (0 : Int32))] ∧ Z.Warmed39 U.vm ∧ U.heap = h0) (fun _ _ _ _ _ => True) (fun _ U o U' => ∃ v L, o = .returned v ∧ Q16_001 Z a0 sz ae ai ak asx av ki xi0 xi1 kk xk0 xk1 ks xs0 xs1 kv xv0 xv1 h0 n0 v U'.heap L ∧ FrameEnd U o U' L ({ frames := 3, cells := 1, slots := 4, locals := 43 } : Room).cells ({ frames := 3, cells := 1, slots := 4, locals := 43 } : Room).slots) := by
  refine MetFree.of_bodySF (plainFor_of_name pn_4) hisR ?_
  intro p e s m args below meth c s₁ Bd hml0 hP hK
  obtain ⟨rfl, hZ, hh⟩ := hP
  have hx := Bd.exec
  have hby := Bd.bytes
  have hml : c.maxLocals = 3 := hml0
  have hown : s.vm.findClass "com/example/rank60/rank60/FusedList$Explanations$DocumentContributions" = some m.cls := findClass_of_methodNamed Bd.named
  have hnm := (name_of_methodNamed Bd.named Bd.method).1
  have X0 : Stand p l e ({ frames := 3, cells := 1, slots := 4, locals := 43 } : Room) s m #[(.ref a0), (.int (0 : Int32))] below meth c s₁ [] 0 0 := Stand.of_body Bd
  have e0 : s₁.heap = h0 := by rw [← hh, Bd.state]; rfl
  have N0 := Fr.nil n0
  have pre0 : ∀ t, Steps p.tables e below (s₁.setTop (mkF m 0 #[.val (.ref a0), .val (.int 0), .unset] [])) t → Steps p.tables e below (s₁.setTop (entryFrame m #[(.ref a0), (.int (0 : Int32))] 3)) t := fun t k => castTop (ef_16_v0 m a0) k
  obtain ⟨T875, X875, e875, st875⟩ := getF X0 hx hZ hown (host := "") (Or.inl (own_wk hw 100 rfl)) Via.refl e0 F_start_a0 (g := (mkF m 1 #[.val (.ref a0), .val (.int 0), .unset] [(.ref a0)])) rfl rfl (hb hby d16_1)
  obtain ⟨T876, X876, e876, st876⟩ := getF X875 hx hZ hown (host := "") (Or.inl (own_wk hw 102 rfl)) Via.refl e875 F_size_a0 (g := (mkF m 6 #[.val (.ref a0), .val (.int 0), .unset] [(.ref a0), .int 0, .int 0])) rfl rfl (hb hby d16_6)
  obtain ⟨_, _, ⟨T877, L877, k877, n877⟩, -, X877, ⟨Lc877, hQ877, l877, y877, z877⟩, st877⟩ := Jvm.LawKit.callS X876 hx (y := (⟨"java/util/Objects", "checkIndex", "(II)I"⟩ : MethodName)) hown (mvT hZ (own_wk hw 126 rfl)) (mvT hZ (own_wk hw 78 rfl)) (mvT hZ (own_wk hw 79 rfl)) (mvT hZ (own_wk hw 80 rfl)) (by decide) (backOf (W := 1) (rm10 l Z ag hw [] (0 : Int32) sz  h0 n0 Z0 (by decide) hsz) hZ (own_wk hw 80 rfl) (own_wk hw 79 rfl) (by decide) (by decide)) (g := (mkF m 9 #[.val (.ref a0), .val (.int 0), .unset] [(.int sz), .int 0, .int 0])) rfl (by rw [hml]; rfl) (argsL := [(.int (0 : Int32)), (.int sz)]) (rest := [(.int (0 : Int32))]) (lenOf pd_6 rfl) rfl (by show 2 * 0 + _ ≤ _; exact Nat.le_of_eq rfl) (hb hby d16_9) (fun _ _ => ⟨rfl, e876, (by decide : 0 + 0 ≤ _), (by decide : 0 + 0 ≤ _)⟩)
  dsimp only [Pt.U, Pt.locs, Pt.cells, Pt.slots] at X877 l877 y877 z877 st877 hQ877
  subst l877 y877 z877
  obtain ⟨rfl, N877q, e877⟩ := hQ877
  have N877 := Fr.app N0 N877q
  obtain ⟨T878, h878, X878, e878, E878, A878, D878, -, st878⟩ := newO X877 hx hZ hown (own_wk hw 127 rfl) (own_wk hw 128 rfl) (own_wk hw 129 rfl) e877 (g := (mkF m 14 #[.val (.ref a0), .val (.int 0), .val (.int 0)] [])) rfl (hb hby d16_14) (by decide) (by decide)
  obtain ⟨b878, g878⟩ : ∃ z, z = h0.size := ⟨_, rfl⟩
  have ne879 : a0 ≠ b878 := Nat.ne_of_lt (Nat.lt_of_lt_of_le E_a0.lt (Nat.le_of_eq g878.symm))
  have ne880 : ae ≠ b878 := Nat.ne_of_lt (Nat.lt_of_lt_of_le E_ae.lt (Nat.le_of_eq g878.symm))
  have ne881 : ai ≠ b878 := Nat.ne_of_lt (Nat.lt_of_lt_of_le V_ai.lt (Nat.le_of_eq g878.symm))
  have ne882 : ak ≠ b878 := Nat.ne_of_lt (Nat.lt_of_lt_of_le V_ak.lt (Nat.le_of_eq g878.symm))
  have ne883 : asx ≠ b878 := Nat.ne_of_lt (Nat.lt_of_lt_of_le V_asx.lt (Nat.le_of_eq g878.symm))
  have ne884 : av ≠ b878 := Nat.ne_of_lt (Nat.lt_of_lt_of_le V_av.lt (Nat.le_of_eq g878.symm))
  have ge_b878 : n0 ≤ b878 := Nat.le_trans Z0 (Nat.le_of_eq g878.symm)
  have gs_b878 : h0.size ≤ b878 := Nat.le_trans (Keep.refl h0 []).1 (Nat.le_of_eq g878.symm)
  rw [← g878] at A878 D878 st878
  have x885 := E_a0.ext E878
  have x886 := F_start_a0.ext E878
  have x887 := F_size_a0.ext E878
  have x888 := F_this_0_a0.ext E878
  have x889 := E_ae.ext E878
  have x890 := F_inputs_ae.ext E878
  have x891 := F_ranks_ae.ext E878
  have x892 := F_scores_ae.ext E878
  have x893 := F_values_ae.ext E878
  have x894 := V_ai.ext E878
  have x895 := V_ak.ext E878
  have x896 := V_asx.ext E878
  have x897 := V_av.ext E878
  have sz898 : n0 ≤ h878.size := Nat.le_trans Z0 E878.1
  have kp899 : Keep h0 h878 [] := (Keep.refl h0 []).ext E878
  have F878_input : Fld Z h878 b878 "com/example/rank60/rank60/FusedHit$Contribution" "input" "I" (.int (0 : Int32)) := D878 (Or.inr (own_wk hw 144 rfl)) (ty := .int) (by decide)
  have F878_rank : Fld Z h878 b878 "com/example/rank60/rank60/FusedHit$Contribution" "rank" "I" (.int (0 : Int32)) := D878 (Or.inr (own_wk hw 146 rfl)) (ty := .int) (by decide)
  have F878_score : Fld Z h878 b878 "com/example/rank60/rank60/FusedHit$Contribution" "score" "D" (.double (0 : UInt64)) := D878 (Or.inr (own_wk hw 148 rfl)) (ty := .double) (by decide)
  have F878_value : Fld Z h878 b878 "com/example/rank60/rank60/FusedHit$Contribution" "value" "D" (.double (0 : UInt64)) := D878 (Or.inr (own_wk hw 150 rfl)) (ty := .double) (by decide)
  obtain ⟨T900, X900, e900, st900⟩ := getF X878 hx hZ hown (host := "") (Or.inl (own_wk hw 95 rfl)) Via.refl e878 x888 (g := (mkF m 19 #[.val (.ref a0), .val (.int 0), .val (.int 0)] [(.ref a0), (.ref b878), (.ref b878)])) rfl rfl (hb hby d16_19)
  obtain ⟨T901, X901, e901, st901⟩ := getF X900 hx hZ hown (Or.inr (own_wk hw 130 rfl)) Via.refl e900 x890 (g := (mkF m 22 #[.val (.ref a0), .val (.int 0), .val (.int 0)] [(.ref ae), (.ref b878), (.ref b878)])) rfl rfl (hb hby d16_22)
  obtain ⟨cl902, Ar902, q902, S902, M902, H902, G902⟩ := id x894
  have hin902 : ¬ ((0 : Int32) < 0 ∨ cl902.slots.size ≤ ((0 : Int32)).toNatClampNeg) := inb_of S902 ⟨(by decide : ¬ (0 : Int32) < 0), (by decide : (0 : Int32) < (2 : Int32))⟩
  have hat902 : cl902.slots[((0 : Int32)).toNatClampNeg]? = some (.int xi0) := Has.at H902 hin902 rfl
  have ld902 := X901.iaload hx (j := (0 : Int32)) (v := (.int xi0)) (by rw [e901]; exact Ar902.1) (State.isArrayOf_alike hZ.alike Ar902.2.1) Ar902.2.2 hin902 hat902 (g := (mkF m 26 #[.val (.ref a0), .val (.int 0), .val (.int 0)] [.int 0, (.ref ai), (.ref b878), (.ref b878)])) rfl rfl (hb hby d16_26)
  obtain ⟨T903, X903, e903, st903⟩ := getF X901 hx hZ hown (host := "") (Or.inl (own_wk hw 95 rfl)) Via.refl e901 x888 (g := (mkF m 28 #[.val (.ref a0), .val (.int 0), .val (.int 0)] [(.ref a0), (.int xi0), (.ref b878), (.ref b878)])) rfl rfl (hb hby d16_28)
  obtain ⟨T904, X904, e904, st904⟩ := getF X903 hx hZ hown (Or.inr (own_wk hw 131 rfl)) Via.refl e903 x891 (g := (mkF m 31 #[.val (.ref a0), .val (.int 0), .val (.int 0)] [(.ref ae), (.int xi0), (.ref b878), (.ref b878)])) rfl rfl (hb hby d16_31)
  obtain ⟨cl905, Ar905, q905, S905, M905, H905, G905⟩ := id x895
  have hin905 : ¬ ((0 : Int32) < 0 ∨ cl905.slots.size ≤ ((0 : Int32)).toNatClampNeg) := inb_of S905 ⟨(by decide : ¬ (0 : Int32) < 0), (by decide : (0 : Int32) < (2 : Int32))⟩
  have hat905 : cl905.slots[((0 : Int32)).toNatClampNeg]? = some (.int xk0) := Has.at H905 hin905 rfl
  have ld905 := X904.iaload hx (j := (0 : Int32)) (v := (.int xk0)) (by rw [e904]; exact Ar905.1) (State.isArrayOf_alike hZ.alike Ar905.2.1) Ar905.2.2 hin905 hat905 (g := (mkF m 35 #[.val (.ref a0), .val (.int 0), .val (.int 0)] [.int 0, (.ref ak), (.int xi0), (.ref b878), (.ref b878)])) rfl rfl (hb hby d16_35)
  obtain ⟨T906, X906, e906, st906⟩ := getF X904 hx hZ hown (host := "") (Or.inl (own_wk hw 95 rfl)) Via.refl e904 x888 (g := (mkF m 37 #[.val (.ref a0), .val (.int 0), .val (.int 0)] [(.ref a0), (.int xk0), (.int xi0), (.ref b878), (.ref b878)])) rfl rfl (hb hby d16_37)
  obtain ⟨T907, X907, e907, st907⟩ := getF X906 hx hZ hown (Or.inr (own_wk hw 132 rfl)) Via.refl e906 x892 (g := (mkF m 40 #[.val (.ref a0), .val (.int 0), .val (.int 0)] [(.ref ae), (.int xk0), (.int xi0), (.ref b878), (.ref b878)])) rfl rfl (hb hby d16_40)
  obtain ⟨T908, X908, e908, st908⟩ := getF X907 hx hZ hown (host := "") (Or.inl (own_wk hw 95 rfl)) Via.refl e907 x888 (g := (mkF m 53 #[.val (.ref a0), .val (.int 0), .val (.int 0)] [(.ref a0), (.int xk0), (.int xi0), (.ref b878), (.ref b878)])) rfl rfl (hb hby d16_53)
  obtain ⟨T909, X909, e909, st909⟩ := getF X908 hx hZ hown (Or.inr (own_wk hw 132 rfl)) Via.refl e908 x892 (g := (mkF m 56 #[.val (.ref a0), .val (.int 0), .val (.int 0)] [(.ref ae), (.int xk0), (.int xi0), (.ref b878), (.ref b878)])) rfl rfl (hb hby d16_56)
  obtain ⟨cl910, Ar910, q910, S910, M910, H910, G910⟩ := id x896
  have hin910 : ¬ ((0 : Int32) < 0 ∨ cl910.slots.size ≤ ((0 : Int32)).toNatClampNeg) := inb_of S910 ⟨(by decide : ¬ (0 : Int32) < 0), (by decide : (0 : Int32) < (2 : Int32))⟩
  have hat910 : cl910.slots[((0 : Int32)).toNatClampNeg]? = some (.double xs0) := Has.at H910 hin910 rfl
  have ld910 := X909.daload hx (j := (0 : Int32)) (v := (.double xs0)) (by rw [e909]; exact Ar910.1) (State.isArrayOf_alike hZ.alike Ar910.2.1) Ar910.2.2 hin910 hat910 (g := (mkF m 60 #[.val (.ref a0), .val (.int 0), .val (.int 0)] [.int 0, (.ref asx), (.int xk0), (.int xi0), (.ref b878), (.ref b878)])) rfl rfl (hb hby d16_60)
  obtain ⟨T911, X911, e911, st911⟩ := getF X909 hx hZ hown (host := "") (Or.inl (own_wk hw 95 rfl)) Via.refl e909 x888 (g := (mkF m 62 #[.val (.ref a0), .val (.int 0), .val (.int 0)] [(.ref a0), (.double xs0), (.int xk0), (.int xi0), (.ref b878), (.ref b878)])) rfl rfl (hb hby d16_62)
  obtain ⟨T912, X912, e912, st912⟩ := getF X911 hx hZ hown (Or.inr (own_wk hw 133 rfl)) Via.refl e911 x893 (g := (mkF m 65 #[.val (.ref a0), .val (.int 0), .val (.int 0)] [(.ref ae), (.double xs0), (.int xk0), (.int xi0), (.ref b878), (.ref b878)])) rfl rfl (hb hby d16_65)
  obtain ⟨cl913, Ar913, q913, S913, M913, H913, G913⟩ := id x897
  have hin913 : ¬ ((0 : Int32) < 0 ∨ cl913.slots.size ≤ ((0 : Int32)).toNatClampNeg) := inb_of S913 ⟨(by decide : ¬ (0 : Int32) < 0), (by decide : (0 : Int32) < (2 : Int32))⟩
  have hat913 : cl913.slots[((0 : Int32)).toNatClampNeg]? = some (.double xv0) := Has.at H913 hin913 rfl
  have ld913 := X912.daload hx (j := (0 : Int32)) (v := (.double xv0)) (by rw [e912]; exact Ar913.1) (State.isArrayOf_alike hZ.alike Ar913.2.1) Ar913.2.2 hin913 hat913 (g := (mkF m 69 #[.val (.ref a0), .val (.int 0), .val (.int 0)] [.int 0, (.ref av), (.double xs0), (.int xk0), (.int xi0), (.ref b878), (.ref b878)])) rfl rfl (hb hby d16_69)
  have cp914 : ∀ target, own_S p e below T912 (mkF m 70 #[.val (.ref a0), .val (.int 0), .val (.int 0)] [(.double xv0), (.double xs0), (.int xk0), (.int xi0), (.ref b878), (.ref b878)]) target → own_S p e below s₁ (mkF m 0 #[.val (.ref a0), .val (.int 0), .unset] []) target := by
    intro target kt
    show own_S p e below s₁ (mkF m 0 #[.val (.ref a0), .val (.int 0), .unset] []) _
    refine XS.aloadN X0.here hx rfl (hb hby d16_0) rfl rfl ?_
    show own_S p e below s₁ (mkF m 1 #[.val (.ref a0), .val (.int 0), .unset] [(.ref a0)]) _
    refine st875 _ ?_
    show own_S p e below T875 (mkF m 4 #[.val (.ref a0), .val (.int 0), .unset] [.int 0]) _
    refine XS.iloadN X875.here hx rfl (hb hby d16_4) rfl ?_
    show own_S p e below T875 (mkF m 5 #[.val (.ref a0), .val (.int 0), .unset] [.int 0, .int 0]) _
    refine XS.aloadN X875.here hx rfl (hb hby d16_5) rfl rfl ?_
    show own_S p e below T875 (mkF m 6 #[.val (.ref a0), .val (.int 0), .unset] [(.ref a0), .int 0, .int 0]) _
    refine st876 _ ?_
    show own_S p e below T876 (mkF m 9 #[.val (.ref a0), .val (.int 0), .unset] [(.int sz), .int 0, .int 0]) _
    refine st877 _ ?_
    show own_S p e below T877 (mkF m 12 #[.val (.ref a0), .val (.int 0), .unset] [.int 0, .int 0]) _
    refine XS.iadd X877.here hx rfl (hb hby d16_12) rfl ?_
    show own_S p e below T877 (mkF m 13 #[.val (.ref a0), .val (.int 0), .unset] [(.int ((0 : Int32) + (0 : Int32)))]) _
    rw [show ((0 : Int32) + (0 : Int32)) = (0 : Int32) from by decide]
    show own_S p e below T877 (mkF m 13 #[.val (.ref a0), .val (.int 0), .unset] [.int 0]) _
    refine XS.istoreN X877.here hx rfl (hb hby d16_13) rfl (l' := #[.val (.ref a0), .val (.int 0), .val (.int 0)]) rfl ?_
    show own_S p e below T877 (mkF m 14 #[.val (.ref a0), .val (.int 0), .val (.int 0)] []) _
    refine st878 _ ?_
    show own_S p e below T878 (mkF m 17 #[.val (.ref a0), .val (.int 0), .val (.int 0)] [(.ref b878)]) _
    refine XS.dup X878.here hx rfl (hb hby d16_17) rfl rfl ?_
    show own_S p e below T878 (mkF m 18 #[.val (.ref a0), .val (.int 0), .val (.int 0)] [(.ref b878), (.ref b878)]) _
    refine XS.aloadN X878.here hx rfl (hb hby d16_18) rfl rfl ?_
    show own_S p e below T878 (mkF m 19 #[.val (.ref a0), .val (.int 0), .val (.int 0)] [(.ref a0), (.ref b878), (.ref b878)]) _
    refine st900 _ ?_
    show own_S p e below T900 (mkF m 22 #[.val (.ref a0), .val (.int 0), .val (.int 0)] [(.ref ae), (.ref b878), (.ref b878)]) _
    refine st901 _ ?_
    show own_S p e below T901 (mkF m 25 #[.val (.ref a0), .val (.int 0), .val (.int 0)] [(.ref ai), (.ref b878), (.ref b878)]) _
    refine XS.iloadN X901.here hx rfl (hb hby d16_25) rfl ?_
    show own_S p e below T901 (mkF m 26 #[.val (.ref a0), .val (.int 0), .val (.int 0)] [.int 0, (.ref ai), (.ref b878), (.ref b878)]) _
    refine ld902 _ ?_
    show own_S p e below T901 (mkF m 27 #[.val (.ref a0), .val (.int 0), .val (.int 0)] [(.int xi0), (.ref b878), (.ref b878)]) _
    refine XS.aloadN X901.here hx rfl (hb hby d16_27) rfl rfl ?_
    show own_S p e below T901 (mkF m 28 #[.val (.ref a0), .val (.int 0), .val (.int 0)] [(.ref a0), (.int xi0), (.ref b878), (.ref b878)]) _
    refine st903 _ ?_
    show own_S p e below T903 (mkF m 31 #[.val (.ref a0), .val (.int 0), .val (.int 0)] [(.ref ae), (.int xi0), (.ref b878), (.ref b878)]) _
    refine st904 _ ?_
    show own_S p e below T904 (mkF m 34 #[.val (.ref a0), .val (.int 0), .val (.int 0)] [(.ref ak), (.int xi0), (.ref b878), (.ref b878)]) _
    refine XS.iloadN X904.here hx rfl (hb hby d16_34) rfl ?_
    show own_S p e below T904 (mkF m 35 #[.val (.ref a0), .val (.int 0), .val (.int 0)] [.int 0, (.ref ak), (.int xi0), (.ref b878), (.ref b878)]) _
    refine ld905 _ ?_
    show own_S p e below T904 (mkF m 36 #[.val (.ref a0), .val (.int 0), .val (.int 0)] [(.int xk0), (.int xi0), (.ref b878), (.ref b878)]) _
    refine XS.aloadN X904.here hx rfl (hb hby d16_36) rfl rfl ?_
    show own_S p e below T904 (mkF m 37 #[.val (.ref a0), .val (.int 0), .val (.int 0)] [(.ref a0), (.int xk0), (.int xi0), (.ref b878), (.ref b878)]) _
    refine st906 _ ?_
    show own_S p e below T906 (mkF m 40 #[.val (.ref a0), .val (.int 0), .val (.int 0)] [(.ref ae), (.int xk0), (.int xi0), (.ref b878), (.ref b878)]) _
    refine st907 _ ?_
    show own_S p e below T907 (mkF m 43 #[.val (.ref a0), .val (.int 0), .val (.int 0)] [(.ref asx), (.int xk0), (.int xi0), (.ref b878), (.ref b878)]) _
    refine XS.ifnonnullYes X907.here hx rfl (pc0 := 43) (pc' := 52) rfl (hb hby d16_43) rfl (by decide) (by decide) ?_
    show own_S p e below T907 (mkF m 52 #[.val (.ref a0), .val (.int 0), .val (.int 0)] [(.int xk0), (.int xi0), (.ref b878), (.ref b878)]) _
    refine XS.aloadN X907.here hx rfl (hb hby d16_52) rfl rfl ?_
    show own_S p e below T907 (mkF m 53 #[.val (.ref a0), .val (.int 0), .val (.int 0)] [(.ref a0), (.int xk0), (.int xi0), (.ref b878), (.ref b878)]) _
    refine st908 _ ?_
    show own_S p e below T908 (mkF m 56 #[.val (.ref a0), .val (.int 0), .val (.int 0)] [(.ref ae), (.int xk0), (.int xi0), (.ref b878), (.ref b878)]) _
    refine st909 _ ?_
    show own_S p e below T909 (mkF m 59 #[.val (.ref a0), .val (.int 0), .val (.int 0)] [(.ref asx), (.int xk0), (.int xi0), (.ref b878), (.ref b878)]) _
    refine XS.iloadN X909.here hx rfl (hb hby d16_59) rfl ?_
    show own_S p e below T909 (mkF m 60 #[.val (.ref a0), .val (.int 0), .val (.int 0)] [.int 0, (.ref asx), (.int xk0), (.int xi0), (.ref b878), (.ref b878)]) _
    refine ld910 _ ?_
    show own_S p e below T909 (mkF m 61 #[.val (.ref a0), .val (.int 0), .val (.int 0)] [(.double xs0), (.int xk0), (.int xi0), (.ref b878), (.ref b878)]) _
    refine XS.aloadN X909.here hx rfl (hb hby d16_61) rfl rfl ?_
    show own_S p e below T909 (mkF m 62 #[.val (.ref a0), .val (.int 0), .val (.int 0)] [(.ref a0), (.double xs0), (.int xk0), (.int xi0), (.ref b878), (.ref b878)]) _
    refine st911 _ ?_
    show own_S p e below T911 (mkF m 65 #[.val (.ref a0), .val (.int 0), .val (.int 0)] [(.ref ae), (.double xs0), (.int xk0), (.int xi0), (.ref b878), (.ref b878)]) _
    refine st912 _ ?_
    show own_S p e below T912 (mkF m 68 #[.val (.ref a0), .val (.int 0), .val (.int 0)] [(.ref av), (.double xs0), (.int xk0), (.int xi0), (.ref b878), (.ref b878)]) _
    refine XS.iloadN X912.here hx rfl (hb hby d16_68) rfl ?_
    show own_S p e below T912 (mkF m 69 #[.val (.ref a0), .val (.int 0), .val (.int 0)] [.int 0, (.ref av), (.double xs0), (.int xk0), (.int xi0), (.ref b878), (.ref b878)]) _
    refine ld913 _ ?_
    exact kt
  obtain ⟨_, _, ⟨T915, L915, k915, n915⟩, -, X915, ⟨Lc915, hQ915, l915, y915, z915⟩, st915⟩ := X912.specialBack hx (y := (⟨"com/example/rank60/rank60/FusedHit$Contribution", "<init>", "(IIDD)V"⟩ : MethodName)) rfl hown (mvT hZ (own_wk hw 134 rfl)) (mvT hZ (own_wk hw 135 rfl)) (mvT hZ (own_wk hw 136 rfl)) (by decide) (backOf (W := 1) (rm17 l Z ag hw [] b878 xi0 xk0 xs0 xv0  h878 n0 sz898 A878 F878_input F878_rank F878_score F878_value ge_b878) hZ (own_wk hw 136 rfl) (own_wk hw 129 rfl) (by decide) (by decide)) (g := (mkF m 70 #[.val (.ref a0), .val (.int 0), .val (.int 0)] [(.double xv0), (.double xs0), (.int xk0), (.int xi0), (.ref b878), (.ref b878)])) rfl (by rw [hml]; rfl) (Steps.refl _) (a := b878) (argsL := [(.int xi0), (.int xk0), (.double xs0), (.double xv0)]) (rest := [(.ref b878)]) (lenOf pd_7 rfl) rfl (by show 2 * 0 + _ ≤ _; exact Nat.le_of_eq rfl) (hb hby d16_70) (fun _ _ => ⟨rfl, e912, (by decide : 1 + 0 ≤ _), (by decide : 4 + 0 ≤ _)⟩)
  dsimp only [Pt.U, Pt.locs, Pt.cells, Pt.slots] at X915 l915 y915 z915 st915 hQ915
  subst l915 y915 z915
  obtain ⟨rfl, N915q, K915, o915_0, o915_1, o915_2, o915_3⟩ := hQ915
  have N915 := Fr.app N877 N915q
  have x916 := x885.keep K915
  have x917 := x886.keep K915 (ninS ne879 nin0)
  have x918 := x887.keep K915 (ninS ne879 nin0)
  have x919 := x888.keep K915 (ninS ne879 nin0)
  have x920 := x889.keep K915
  have x921 := x890.keep K915 (ninS ne880 nin0)
  have x922 := x891.keep K915 (ninS ne880 nin0)
  have x923 := x892.keep K915 (ninS ne880 nin0)
  have x924 := x893.keep K915 (ninS ne880 nin0)
  have x925 := x894.keep K915 (ninS ne881 nin0)
  have x926 := x895.keep K915 (ninS ne882 nin0)
  have x927 := x896.keep K915 (ninS ne883 nin0)
  have x928 := x897.keep K915 (ninS ne884 nin0)
  have x929 := A878.keep K915
  have sz930 : n0 ≤ T915.heap.size := Nat.le_trans sz898 K915.1
  have kp931 : Keep h0 T915.heap [] := kp899.trans K915 (allS (Or.inr gs_b878) all0)
  obtain ⟨fs, hr, hrun, hended, hW, hsame⟩ := X915.leave (v := some (.ref b878)) (fun h => by rw [Bd.returns] at h; cases h)
  refine ⟨_, _, pre0 _ ?_, hrun, hended, _, _, rfl, ?_, ⟨_, rfl⟩, hW, hsame.mono (by decide) (by decide)⟩
  · show own_S p e below s₁ (mkF m 0 #[.val (.ref a0), .val (.int 0), .unset] []) _
    refine cp914 _ ?_
    show own_S p e below T912 (mkF m 70 #[.val (.ref a0), .val (.int 0), .val (.int 0)] [(.double xv0), (.double xs0), (.int xk0), (.int xi0), (.ref b878), (.ref b878)]) _
    refine st915.trans ?_
    show own_S p e below T915 (mkF m 73 #[.val (.ref a0), .val (.int 0), .val (.int 0)] [(.ref b878)]) _
    exact Jvm.RoadKit.retOut X915 hx Bd.returns rfl (Or.inr (Or.inr (Or.inr (Or.inr ⟨rfl, rfl, rfl⟩)))) (hb hby d16_73) hr
  · show Q16_001 Z a0 sz ae ai ak asx av ki xi0 xi1 kk xk0 xk1 ks xs0 xs1 kv xv0 xv1 h0 n0 _ T915.heap _
    exact ⟨b878, rfl, N915, kp931, ge_b878, gs_b878, x929, o915_0, o915_1, o915_2, o915_3⟩
theorem ef_16_v1 (m : MethodId) (a0 : Addr) : entryFrame m #[(.ref a0), (.int (1 : Int32))] 3 = mkF m 0 #[.val (.ref a0), .val (.int 1), .unset] [] := by first | (simp [entryFrame, mkF, argsToLocals, Value.category]; done) | rfl
def Q16_100 (Z : State) (a0 : Addr) (sz : Int32) (ae : Addr) (ai : Addr) (ak : Addr) (av : Addr) (ki : ClassId) (xi0 : Int32) (xi1 : Int32) (kk : ClassId) (xk0 : Int32) (xk1 : Int32) (kv : ClassId) (xv0 : UInt64) (xv1 : UInt64) (h0 : Heap) (n0 : Nat) (v : Option Value) (h : Heap) (L : List Loc) : Prop := ∃ r : Addr, v = some (.ref r) ∧ Fr n0 L ∧ Keep h0 h [] ∧ n0 ≤ r ∧ h0.size ≤ r ∧ Exa Z h r "com/example/rank60/rank60/FusedHit$Contribution" ∧ Fld Z h r "com/example/rank60/rank60/FusedHit$Contribution" "input" "I" (.int xi1) ∧ Fld Z h r "com/example/rank60/rank60/FusedHit$Contribution" "rank" "I" (.int xk1) ∧ Fld Z h r "com/example/rank60/rank60/FusedHit$Contribution" "score" "D" (.double (9221120237041090560 : UInt64)) ∧ Fld Z h r "com/example/rank60/rank60/FusedHit$Contribution" "value" "D" (.double xv1)
set_option maxRecDepth 65536 in
set_option maxHeartbeats 40000000 in
theorem rm16_100 (l : Launch) (Z : State) (ag : Array Value) (hw : ∀ d ∈ tables_1, d.before ag Z = true) (ws : List Jvm.Cond) (a0 : Addr) (sz : Int32) (ae : Addr) (ai : Addr) (ak : Addr) (av : Addr) (ki : ClassId) (xi0 : Int32) (xi1 : Int32) (kk : ClassId) (xk0 : Int32) (xk1 : Int32) (kv : ClassId) (xv0 : UInt64) (xv1 : UInt64) (h0 : Heap) (n0 : Nat) (Z0 : n0 ≤ h0.size) (E_a0 : Exa Z h0 a0 "com/example/rank60/rank60/FusedList$Explanations$DocumentContributions") (F_start_a0 : Fld Z h0 a0 "com/example/rank60/rank60/FusedList$Explanations$DocumentContributions" "start" "I" (.int (0 : Int32))) (F_size_a0 : Fld Z h0 a0 "com/example/rank60/rank60/FusedList$Explanations$DocumentContributions" "size" "I" (.int sz)) (F_this_0_a0 : Fld Z h0 a0 "com/example/rank60/rank60/FusedList$Explanations$DocumentContributions" "this$0" "Lcom/example/rank60/rank60/FusedList$Explanations;" (.ref ae)) (E_ae : Exa Z h0 ae "com/example/rank60/rank60/FusedList$Explanations") (F_inputs_ae : Fld Z h0 ae "com/example/rank60/rank60/FusedList$Explanations" "inputs" "[I" (.ref ai)) (F_ranks_ae : Fld Z h0 ae "com/example/rank60/rank60/FusedList$Explanations" "ranks" "[I" (.ref ak)) (F_scores_ae : Fld Z h0 ae "com/example/rank60/rank60/FusedList$Explanations" "scores" "[D" .null) (F_values_ae : Fld Z h0 ae "com/example/rank60/rank60/FusedList$Explanations" "values" "[D" (.ref av)) (V_ai : Arv Z h0 ai ki .int (2 : Int32) [(.int xi0), (.int xi1)] (.int (0 : Int32))) (V_ak : Arv Z h0 ak kk .int (2 : Int32) [(.int xk0), (.int xk1)] (.int (0 : Int32))) (V_av : Arv Z h0 av kv .double (2 : Int32) [(.double xv0), (.double xv1)] (.double (FP.l2d 0))) (hsz : (1 : Int32) < sz) :
    MetFree l (⟨"com/example/rank60/rank60/FusedList$Explanations$DocumentContributions", "get", "(I)Lcom/example/rank60/rank60/FusedHit$Contribution;"⟩ : MethodName) (head1 (Jvm.Cond.code (⟨"com/example/rank60/rank60/FusedList$Explanations$DocumentContributions", "get", "(I)Lcom/example/rank60/rank60/FusedHit$Contribution;"⟩ : MethodName) prog_11_method_2_code 3 (some (.object "com/example/rank60/rank60/FusedHit$Contribution")) :: ws) ({ frames := 3, cells := 1, slots := 4, locals := 43 } : Room)) (fun a U => a = #[(.ref a0), (.int (1 : Int32))] ∧ Z.Warmed39 U.vm ∧ U.heap = h0) (fun _ _ _ _ _ => True) (fun _ U o U' => ∃ v L, o = .returned v ∧ Q16_100 Z a0 sz ae ai ak av ki xi0 xi1 kk xk0 xk1 kv xv0 xv1 h0 n0 v U'.heap L ∧ FrameEnd U o U' L ({ frames := 3, cells := 1, slots := 4, locals := 43 } : Room).cells ({ frames := 3, cells := 1, slots := 4, locals := 43 } : Room).slots) := by
  refine MetFree.of_bodySF (plainFor_of_name pn_4) hisR ?_
  intro p e s m args below meth c s₁ Bd hml0 hP hK
  obtain ⟨rfl, hZ, hh⟩ := hP
  have hx := Bd.exec
  have hby := Bd.bytes
  have hml : c.maxLocals = 3 := hml0
  have hown : s.vm.findClass "com/example/rank60/rank60/FusedList$Explanations$DocumentContributions" = some m.cls := findClass_of_methodNamed Bd.named
  have hnm := (name_of_methodNamed Bd.named Bd.method).1
  have X0 : Stand p l e ({ frames := 3, cells := 1, slots := 4, locals := 43 } : Room) s m #[(.ref a0), (.int (1 : Int32))] below meth c s₁ [] 0 0 := Stand.of_body Bd
  have e0 : s₁.heap = h0 := by rw [← hh, Bd.state]; rfl
  have N0 := Fr.nil n0
  have pre0 : ∀ t, Steps p.tables e below (s₁.setTop (mkF m 0 #[.val (.ref a0), .val (.int 1), .unset] [])) t → Steps p.tables e below (s₁.setTop (entryFrame m #[(.ref a0), (.int (1 : Int32))] 3)) t := fun t k => castTop (ef_16_v1 m a0) k
  obtain ⟨T932, X932, e932, st932⟩ := getF X0 hx hZ hown (host := "") (Or.inl (own_wk hw 100 rfl)) Via.refl e0 F_start_a0 (g := (mkF m 1 #[.val (.ref a0), .val (.int 1), .unset] [(.ref a0)])) rfl rfl (hb hby d16_1)
  obtain ⟨T933, X933, e933, st933⟩ := getF X932 hx hZ hown (host := "") (Or.inl (own_wk hw 102 rfl)) Via.refl e932 F_size_a0 (g := (mkF m 6 #[.val (.ref a0), .val (.int 1), .unset] [(.ref a0), .int 1, .int 0])) rfl rfl (hb hby d16_6)
  obtain ⟨_, _, ⟨T934, L934, k934, n934⟩, -, X934, ⟨Lc934, hQ934, l934, y934, z934⟩, st934⟩ := Jvm.LawKit.callS X933 hx (y := (⟨"java/util/Objects", "checkIndex", "(II)I"⟩ : MethodName)) hown (mvT hZ (own_wk hw 126 rfl)) (mvT hZ (own_wk hw 78 rfl)) (mvT hZ (own_wk hw 79 rfl)) (mvT hZ (own_wk hw 80 rfl)) (by decide) (backOf (W := 1) (rm10 l Z ag hw [] (1 : Int32) sz  h0 n0 Z0 (by decide) hsz) hZ (own_wk hw 80 rfl) (own_wk hw 79 rfl) (by decide) (by decide)) (g := (mkF m 9 #[.val (.ref a0), .val (.int 1), .unset] [(.int sz), .int 1, .int 0])) rfl (by rw [hml]; rfl) (argsL := [(.int (1 : Int32)), (.int sz)]) (rest := [(.int (0 : Int32))]) (lenOf pd_6 rfl) rfl (by show 2 * 0 + _ ≤ _; exact Nat.le_of_eq rfl) (hb hby d16_9) (fun _ _ => ⟨rfl, e933, (by decide : 0 + 0 ≤ _), (by decide : 0 + 0 ≤ _)⟩)
  dsimp only [Pt.U, Pt.locs, Pt.cells, Pt.slots] at X934 l934 y934 z934 st934 hQ934
  subst l934 y934 z934
  obtain ⟨rfl, N934q, e934⟩ := hQ934
  have N934 := Fr.app N0 N934q
  obtain ⟨T935, h935, X935, e935, E935, A935, D935, -, st935⟩ := newO X934 hx hZ hown (own_wk hw 127 rfl) (own_wk hw 128 rfl) (own_wk hw 129 rfl) e934 (g := (mkF m 14 #[.val (.ref a0), .val (.int 1), .val (.int 1)] [])) rfl (hb hby d16_14) (by decide) (by decide)
  obtain ⟨b935, g935⟩ : ∃ z, z = h0.size := ⟨_, rfl⟩
  have ne936 : a0 ≠ b935 := Nat.ne_of_lt (Nat.lt_of_lt_of_le E_a0.lt (Nat.le_of_eq g935.symm))
  have ne937 : ae ≠ b935 := Nat.ne_of_lt (Nat.lt_of_lt_of_le E_ae.lt (Nat.le_of_eq g935.symm))
  have ne938 : ai ≠ b935 := Nat.ne_of_lt (Nat.lt_of_lt_of_le V_ai.lt (Nat.le_of_eq g935.symm))
  have ne939 : ak ≠ b935 := Nat.ne_of_lt (Nat.lt_of_lt_of_le V_ak.lt (Nat.le_of_eq g935.symm))
  have ne940 : av ≠ b935 := Nat.ne_of_lt (Nat.lt_of_lt_of_le V_av.lt (Nat.le_of_eq g935.symm))
  have ge_b935 : n0 ≤ b935 := Nat.le_trans Z0 (Nat.le_of_eq g935.symm)
  have gs_b935 : h0.size ≤ b935 := Nat.le_trans (Keep.refl h0 []).1 (Nat.le_of_eq g935.symm)
  rw [← g935] at A935 D935 st935
  have x941 := E_a0.ext E935
  have x942 := F_start_a0.ext E935
  have x943 := F_size_a0.ext E935
  have x944 := F_this_0_a0.ext E935
  have x945 := E_ae.ext E935
  have x946 := F_inputs_ae.ext E935
  have x947 := F_ranks_ae.ext E935
  have x948 := F_scores_ae.ext E935
  have x949 := F_values_ae.ext E935
  have x950 := V_ai.ext E935
  have x951 := V_ak.ext E935
  have x952 := V_av.ext E935
  have sz953 : n0 ≤ h935.size := Nat.le_trans Z0 E935.1
  have kp954 : Keep h0 h935 [] := (Keep.refl h0 []).ext E935
  have F935_input : Fld Z h935 b935 "com/example/rank60/rank60/FusedHit$Contribution" "input" "I" (.int (0 : Int32)) := D935 (Or.inr (own_wk hw 144 rfl)) (ty := .int) (by decide)
  have F935_rank : Fld Z h935 b935 "com/example/rank60/rank60/FusedHit$Contribution" "rank" "I" (.int (0 : Int32)) := D935 (Or.inr (own_wk hw 146 rfl)) (ty := .int) (by decide)
  have F935_score : Fld Z h935 b935 "com/example/rank60/rank60/FusedHit$Contribution" "score" "D" (.double (0 : UInt64)) := D935 (Or.inr (own_wk hw 148 rfl)) (ty := .double) (by decide)
  have F935_value : Fld Z h935 b935 "com/example/rank60/rank60/FusedHit$Contribution" "value" "D" (.double (0 : UInt64)) := D935 (Or.inr (own_wk hw 150 rfl)) (ty := .double) (by decide)
  obtain ⟨T955, X955, e955, st955⟩ := getF X935 hx hZ hown (host := "") (Or.inl (own_wk hw 95 rfl)) Via.refl e935 x944 (g := (mkF m 19 #[.val (.ref a0), .val (.int 1), .val (.int 1)] [(.ref a0), (.ref b935), (.ref b935)])) rfl rfl (hb hby d16_19)
  obtain ⟨T956, X956, e956, st956⟩ := getF X955 hx hZ hown (Or.inr (own_wk hw 130 rfl)) Via.refl e955 x946 (g := (mkF m 22 #[.val (.ref a0), .val (.int 1), .val (.int 1)] [(.ref ae), (.ref b935), (.ref b935)])) rfl rfl (hb hby d16_22)
  obtain ⟨cl957, Ar957, q957, S957, M957, H957, G957⟩ := id x950
  have hin957 : ¬ ((1 : Int32) < 0 ∨ cl957.slots.size ≤ ((1 : Int32)).toNatClampNeg) := inb_of S957 ⟨(by decide : ¬ (1 : Int32) < 0), (by decide : (1 : Int32) < (2 : Int32))⟩
  have hat957 : cl957.slots[((1 : Int32)).toNatClampNeg]? = some (.int xi1) := Has.at H957 hin957 rfl
  have ld957 := X956.iaload hx (j := (1 : Int32)) (v := (.int xi1)) (by rw [e956]; exact Ar957.1) (State.isArrayOf_alike hZ.alike Ar957.2.1) Ar957.2.2 hin957 hat957 (g := (mkF m 26 #[.val (.ref a0), .val (.int 1), .val (.int 1)] [.int 1, (.ref ai), (.ref b935), (.ref b935)])) rfl rfl (hb hby d16_26)
  obtain ⟨T958, X958, e958, st958⟩ := getF X956 hx hZ hown (host := "") (Or.inl (own_wk hw 95 rfl)) Via.refl e956 x944 (g := (mkF m 28 #[.val (.ref a0), .val (.int 1), .val (.int 1)] [(.ref a0), (.int xi1), (.ref b935), (.ref b935)])) rfl rfl (hb hby d16_28)
  obtain ⟨T959, X959, e959, st959⟩ := getF X958 hx hZ hown (Or.inr (own_wk hw 131 rfl)) Via.refl e958 x947 (g := (mkF m 31 #[.val (.ref a0), .val (.int 1), .val (.int 1)] [(.ref ae), (.int xi1), (.ref b935), (.ref b935)])) rfl rfl (hb hby d16_31)
  obtain ⟨cl960, Ar960, q960, S960, M960, H960, G960⟩ := id x951
  have hin960 : ¬ ((1 : Int32) < 0 ∨ cl960.slots.size ≤ ((1 : Int32)).toNatClampNeg) := inb_of S960 ⟨(by decide : ¬ (1 : Int32) < 0), (by decide : (1 : Int32) < (2 : Int32))⟩
  have hat960 : cl960.slots[((1 : Int32)).toNatClampNeg]? = some (.int xk1) := Has.at H960 hin960 rfl
  have ld960 := X959.iaload hx (j := (1 : Int32)) (v := (.int xk1)) (by rw [e959]; exact Ar960.1) (State.isArrayOf_alike hZ.alike Ar960.2.1) Ar960.2.2 hin960 hat960 (g := (mkF m 35 #[.val (.ref a0), .val (.int 1), .val (.int 1)] [.int 1, (.ref ak), (.int xi1), (.ref b935), (.ref b935)])) rfl rfl (hb hby d16_35)
  obtain ⟨T961, X961, e961, st961⟩ := getF X959 hx hZ hown (host := "") (Or.inl (own_wk hw 95 rfl)) Via.refl e959 x944 (g := (mkF m 37 #[.val (.ref a0), .val (.int 1), .val (.int 1)] [(.ref a0), (.int xk1), (.int xi1), (.ref b935), (.ref b935)])) rfl rfl (hb hby d16_37)
  obtain ⟨T962, X962, e962, st962⟩ := getF X961 hx hZ hown (Or.inr (own_wk hw 132 rfl)) Via.refl e961 x948 (g := (mkF m 40 #[.val (.ref a0), .val (.int 1), .val (.int 1)] [(.ref ae), (.int xk1), (.int xi1), (.ref b935), (.ref b935)])) rfl rfl (hb hby d16_40)
  obtain ⟨T963, X963, e963, st963⟩ := getF X962 hx hZ hown (host := "") (Or.inl (own_wk hw 95 rfl)) Via.refl e962 x944 (g := (mkF m 62 #[.val (.ref a0), .val (.int 1), .val (.int 1)] [(.ref a0), (.double (9221120237041090560 : UInt64)), (.int xk1), (.int xi1), (.ref b935), (.ref b935)])) rfl rfl (hb hby d16_62)
  obtain ⟨T964, X964, e964, st964⟩ := getF X963 hx hZ hown (Or.inr (own_wk hw 133 rfl)) Via.refl e963 x949 (g := (mkF m 65 #[.val (.ref a0), .val (.int 1), .val (.int 1)] [(.ref ae), (.double (9221120237041090560 : UInt64)), (.int xk1), (.int xi1), (.ref b935), (.ref b935)])) rfl rfl (hb hby d16_65)
  obtain ⟨cl965, Ar965, q965, S965, M965, H965, G965⟩ := id x952
  have hin965 : ¬ ((1 : Int32) < 0 ∨ cl965.slots.size ≤ ((1 : Int32)).toNatClampNeg) := inb_of S965 ⟨(by decide : ¬ (1 : Int32) < 0), (by decide : (1 : Int32) < (2 : Int32))⟩
  have hat965 : cl965.slots[((1 : Int32)).toNatClampNeg]? = some (.double xv1) := Has.at H965 hin965 rfl
  have ld965 := X964.daload hx (j := (1 : Int32)) (v := (.double xv1)) (by rw [e964]; exact Ar965.1) (State.isArrayOf_alike hZ.alike Ar965.2.1) Ar965.2.2 hin965 hat965 (g := (mkF m 69 #[.val (.ref a0), .val (.int 1), .val (.int 1)] [.int 1, (.ref av), (.double (9221120237041090560 : UInt64)), (.int xk1), (.int xi1), (.ref b935), (.ref b935)])) rfl rfl (hb hby d16_69)
  have cp966 : ∀ target, own_S p e below T964 (mkF m 70 #[.val (.ref a0), .val (.int 1), .val (.int 1)] [(.double xv1), (.double (9221120237041090560 : UInt64)), (.int xk1), (.int xi1), (.ref b935), (.ref b935)]) target → own_S p e below s₁ (mkF m 0 #[.val (.ref a0), .val (.int 1), .unset] []) target := by
    intro target kt
    show own_S p e below s₁ (mkF m 0 #[.val (.ref a0), .val (.int 1), .unset] []) _
    refine XS.aloadN X0.here hx rfl (hb hby d16_0) rfl rfl ?_
    show own_S p e below s₁ (mkF m 1 #[.val (.ref a0), .val (.int 1), .unset] [(.ref a0)]) _
    refine st932 _ ?_
    show own_S p e below T932 (mkF m 4 #[.val (.ref a0), .val (.int 1), .unset] [.int 0]) _
    refine XS.iloadN X932.here hx rfl (hb hby d16_4) rfl ?_
    show own_S p e below T932 (mkF m 5 #[.val (.ref a0), .val (.int 1), .unset] [.int 1, .int 0]) _
    refine XS.aloadN X932.here hx rfl (hb hby d16_5) rfl rfl ?_
    show own_S p e below T932 (mkF m 6 #[.val (.ref a0), .val (.int 1), .unset] [(.ref a0), .int 1, .int 0]) _
    refine st933 _ ?_
    show own_S p e below T933 (mkF m 9 #[.val (.ref a0), .val (.int 1), .unset] [(.int sz), .int 1, .int 0]) _
    refine st934 _ ?_
    show own_S p e below T934 (mkF m 12 #[.val (.ref a0), .val (.int 1), .unset] [.int 1, .int 0]) _
    refine XS.iadd X934.here hx rfl (hb hby d16_12) rfl ?_
    show own_S p e below T934 (mkF m 13 #[.val (.ref a0), .val (.int 1), .unset] [(.int ((0 : Int32) + (1 : Int32)))]) _
    rw [show ((0 : Int32) + (1 : Int32)) = (1 : Int32) from by decide]
    show own_S p e below T934 (mkF m 13 #[.val (.ref a0), .val (.int 1), .unset] [.int 1]) _
    refine XS.istoreN X934.here hx rfl (hb hby d16_13) rfl (l' := #[.val (.ref a0), .val (.int 1), .val (.int 1)]) rfl ?_
    show own_S p e below T934 (mkF m 14 #[.val (.ref a0), .val (.int 1), .val (.int 1)] []) _
    refine st935 _ ?_
    show own_S p e below T935 (mkF m 17 #[.val (.ref a0), .val (.int 1), .val (.int 1)] [(.ref b935)]) _
    refine XS.dup X935.here hx rfl (hb hby d16_17) rfl rfl ?_
    show own_S p e below T935 (mkF m 18 #[.val (.ref a0), .val (.int 1), .val (.int 1)] [(.ref b935), (.ref b935)]) _
    refine XS.aloadN X935.here hx rfl (hb hby d16_18) rfl rfl ?_
    show own_S p e below T935 (mkF m 19 #[.val (.ref a0), .val (.int 1), .val (.int 1)] [(.ref a0), (.ref b935), (.ref b935)]) _
    refine st955 _ ?_
    show own_S p e below T955 (mkF m 22 #[.val (.ref a0), .val (.int 1), .val (.int 1)] [(.ref ae), (.ref b935), (.ref b935)]) _
    refine st956 _ ?_
    show own_S p e below T956 (mkF m 25 #[.val (.ref a0), .val (.int 1), .val (.int 1)] [(.ref ai), (.ref b935), (.ref b935)]) _
    refine XS.iloadN X956.here hx rfl (hb hby d16_25) rfl ?_
    show own_S p e below T956 (mkF m 26 #[.val (.ref a0), .val (.int 1), .val (.int 1)] [.int 1, (.ref ai), (.ref b935), (.ref b935)]) _
    refine ld957 _ ?_
    show own_S p e below T956 (mkF m 27 #[.val (.ref a0), .val (.int 1), .val (.int 1)] [(.int xi1), (.ref b935), (.ref b935)]) _
    refine XS.aloadN X956.here hx rfl (hb hby d16_27) rfl rfl ?_
    show own_S p e below T956 (mkF m 28 #[.val (.ref a0), .val (.int 1), .val (.int 1)] [(.ref a0), (.int xi1), (.ref b935), (.ref b935)]) _
    refine st958 _ ?_
    show own_S p e below T958 (mkF m 31 #[.val (.ref a0), .val (.int 1), .val (.int 1)] [(.ref ae), (.int xi1), (.ref b935), (.ref b935)]) _
    refine st959 _ ?_
    show own_S p e below T959 (mkF m 34 #[.val (.ref a0), .val (.int 1), .val (.int 1)] [(.ref ak), (.int xi1), (.ref b935), (.ref b935)]) _
    refine XS.iloadN X959.here hx rfl (hb hby d16_34) rfl ?_
    show own_S p e below T959 (mkF m 35 #[.val (.ref a0), .val (.int 1), .val (.int 1)] [.int 1, (.ref ak), (.int xi1), (.ref b935), (.ref b935)]) _
    refine ld960 _ ?_
    show own_S p e below T959 (mkF m 36 #[.val (.ref a0), .val (.int 1), .val (.int 1)] [(.int xk1), (.int xi1), (.ref b935), (.ref b935)]) _
    refine XS.aloadN X959.here hx rfl (hb hby d16_36) rfl rfl ?_
    show own_S p e below T959 (mkF m 37 #[.val (.ref a0), .val (.int 1), .val (.int 1)] [(.ref a0), (.int xk1), (.int xi1), (.ref b935), (.ref b935)]) _
    refine st961 _ ?_
    show own_S p e below T961 (mkF m 40 #[.val (.ref a0), .val (.int 1), .val (.int 1)] [(.ref ae), (.int xk1), (.int xi1), (.ref b935), (.ref b935)]) _
    refine st962 _ ?_
    show own_S p e below T962 (mkF m 43 #[.val (.ref a0), .val (.int 1), .val (.int 1)] [.null, (.int xk1), (.int xi1), (.ref b935), (.ref b935)]) _
    refine XS.ifnonnullNo X962.here hx rfl (hb hby d16_43) rfl ?_
    show own_S p e below T962 (mkF m 46 #[.val (.ref a0), .val (.int 1), .val (.int 1)] [(.int xk1), (.int xi1), (.ref b935), (.ref b935)]) _
    refine X962.ldc2DoubleC hx hown (mvT hZ (own_wk hw 177 rfl)) (g := (mkF m 46 #[.val (.ref a0), .val (.int 1), .val (.int 1)] [(.int xk1), (.int xi1), (.ref b935), (.ref b935)])) rfl (hb hby d16_46) _ ?_
    show own_S p e below T962 (mkF m 49 #[.val (.ref a0), .val (.int 1), .val (.int 1)] [(.double (9221120237041090560 : UInt64)), (.int xk1), (.int xi1), (.ref b935), (.ref b935)]) _
    refine XS.goto X962.here hx rfl (pc0 := 49) (pc' := 61) rfl (hb hby d16_49) (by decide) (by decide) ?_
    show own_S p e below T962 (mkF m 61 #[.val (.ref a0), .val (.int 1), .val (.int 1)] [(.double (9221120237041090560 : UInt64)), (.int xk1), (.int xi1), (.ref b935), (.ref b935)]) _
    refine XS.aloadN X962.here hx rfl (hb hby d16_61) rfl rfl ?_
    show own_S p e below T962 (mkF m 62 #[.val (.ref a0), .val (.int 1), .val (.int 1)] [(.ref a0), (.double (9221120237041090560 : UInt64)), (.int xk1), (.int xi1), (.ref b935), (.ref b935)]) _
    refine st963 _ ?_
    show own_S p e below T963 (mkF m 65 #[.val (.ref a0), .val (.int 1), .val (.int 1)] [(.ref ae), (.double (9221120237041090560 : UInt64)), (.int xk1), (.int xi1), (.ref b935), (.ref b935)]) _
    refine st964 _ ?_
    show own_S p e below T964 (mkF m 68 #[.val (.ref a0), .val (.int 1), .val (.int 1)] [(.ref av), (.double (9221120237041090560 : UInt64)), (.int xk1), (.int xi1), (.ref b935), (.ref b935)]) _
    refine XS.iloadN X964.here hx rfl (hb hby d16_68) rfl ?_
    show own_S p e below T964 (mkF m 69 #[.val (.ref a0), .val (.int 1), .val (.int 1)] [.int 1, (.ref av), (.double (9221120237041090560 : UInt64)), (.int xk1), (.int xi1), (.ref b935), (.ref b935)]) _
    refine ld965 _ ?_
    exact kt
  obtain ⟨_, _, ⟨T967, L967, k967, n967⟩, -, X967, ⟨Lc967, hQ967, l967, y967, z967⟩, st967⟩ := X964.specialBack hx (y := (⟨"com/example/rank60/rank60/FusedHit$Contribution", "<init>", "(IIDD)V"⟩ : MethodName)) rfl hown (mvT hZ (own_wk hw 134 rfl)) (mvT hZ (own_wk hw 135 rfl)) (mvT hZ (own_wk hw 136 rfl)) (by decide) (backOf (W := 1) (rm17 l Z ag hw [] b935 xi1 xk1 (9221120237041090560 : UInt64) xv1  h935 n0 sz953 A935 F935_input F935_rank F935_score F935_value ge_b935) hZ (own_wk hw 136 rfl) (own_wk hw 129 rfl) (by decide) (by decide)) (g := (mkF m 70 #[.val (.ref a0), .val (.int 1), .val (.int 1)] [(.double xv1), (.double (9221120237041090560 : UInt64)), (.int xk1), (.int xi1), (.ref b935), (.ref b935)])) rfl (by rw [hml]; rfl) (Steps.refl _) (a := b935) (argsL := [(.int xi1), (.int xk1), (.double (9221120237041090560 : UInt64)), (.double xv1)]) (rest := [(.ref b935)]) (lenOf pd_7 rfl) rfl (by show 2 * 0 + _ ≤ _; exact Nat.le_of_eq rfl) (hb hby d16_70) (fun _ _ => ⟨rfl, e964, (by decide : 1 + 0 ≤ _), (by decide : 4 + 0 ≤ _)⟩)
  dsimp only [Pt.U, Pt.locs, Pt.cells, Pt.slots] at X967 l967 y967 z967 st967 hQ967
  subst l967 y967 z967
  obtain ⟨rfl, N967q, K967, o967_0, o967_1, o967_2, o967_3⟩ := hQ967
  have N967 := Fr.app N934 N967q
  have x968 := x941.keep K967
  have x969 := x942.keep K967 (ninS ne936 nin0)
  have x970 := x943.keep K967 (ninS ne936 nin0)
  have x971 := x944.keep K967 (ninS ne936 nin0)
  have x972 := x945.keep K967
  have x973 := x946.keep K967 (ninS ne937 nin0)
  have x974 := x947.keep K967 (ninS ne937 nin0)
  have x975 := x948.keep K967 (ninS ne937 nin0)
  have x976 := x949.keep K967 (ninS ne937 nin0)
  have x977 := x950.keep K967 (ninS ne938 nin0)
  have x978 := x951.keep K967 (ninS ne939 nin0)
  have x979 := x952.keep K967 (ninS ne940 nin0)
  have x980 := A935.keep K967
  have sz981 : n0 ≤ T967.heap.size := Nat.le_trans sz953 K967.1
  have kp982 : Keep h0 T967.heap [] := kp954.trans K967 (allS (Or.inr gs_b935) all0)
  obtain ⟨fs, hr, hrun, hended, hW, hsame⟩ := X967.leave (v := some (.ref b935)) (fun h => by rw [Bd.returns] at h; cases h)
  refine ⟨_, _, pre0 _ ?_, hrun, hended, _, _, rfl, ?_, ⟨_, rfl⟩, hW, hsame.mono (by decide) (by decide)⟩
  · show own_S p e below s₁ (mkF m 0 #[.val (.ref a0), .val (.int 1), .unset] []) _
    refine cp966 _ ?_
    show own_S p e below T964 (mkF m 70 #[.val (.ref a0), .val (.int 1), .val (.int 1)] [(.double xv1), (.double (9221120237041090560 : UInt64)), (.int xk1), (.int xi1), (.ref b935), (.ref b935)]) _
    refine st967.trans ?_
    show own_S p e below T967 (mkF m 73 #[.val (.ref a0), .val (.int 1), .val (.int 1)] [(.ref b935)]) _
    exact Jvm.RoadKit.retOut X967 hx Bd.returns rfl (Or.inr (Or.inr (Or.inr (Or.inr ⟨rfl, rfl, rfl⟩)))) (hb hby d16_73) hr
  · show Q16_100 Z a0 sz ae ai ak av ki xi0 xi1 kk xk0 xk1 kv xv0 xv1 h0 n0 _ T967.heap _
    exact ⟨b935, rfl, N967, kp982, ge_b935, gs_b935, x980, o967_0, o967_1, o967_2, o967_3⟩
def Q16_101 (Z : State) (a0 : Addr) (sz : Int32) (ae : Addr) (ai : Addr) (ak : Addr) (asx : Addr) (av : Addr) (ki : ClassId) (xi0 : Int32) (xi1 : Int32) (kk : ClassId) (xk0 : Int32) (xk1 : Int32) (ks : ClassId) (xs0 : UInt64) (xs1 : UInt64) (kv : ClassId) (xv0 : UInt64) (xv1 : UInt64) (h0 : Heap) (n0 : Nat) (v : Option Value) (h : Heap) (L : List Loc) : Prop := ∃ r : Addr, v = some (.ref r) ∧ Fr n0 L ∧ Keep h0 h [] ∧ n0 ≤ r ∧ h0.size ≤ r ∧ Exa Z h r "com/example/rank60/rank60/FusedHit$Contribution" ∧ Fld Z h r "com/example/rank60/rank60/FusedHit$Contribution" "input" "I" (.int xi1) ∧ Fld Z h r "com/example/rank60/rank60/FusedHit$Contribution" "rank" "I" (.int xk1) ∧ Fld Z h r "com/example/rank60/rank60/FusedHit$Contribution" "score" "D" (.double xs1) ∧ Fld Z h r "com/example/rank60/rank60/FusedHit$Contribution" "value" "D" (.double xv1)
set_option maxRecDepth 65536 in
set_option maxHeartbeats 40000000 in
theorem rm16_101 (l : Launch) (Z : State) (ag : Array Value) (hw : ∀ d ∈ tables_1, d.before ag Z = true) (ws : List Jvm.Cond) (a0 : Addr) (sz : Int32) (ae : Addr) (ai : Addr) (ak : Addr) (asx : Addr) (av : Addr) (ki : ClassId) (xi0 : Int32) (xi1 : Int32) (kk : ClassId) (xk0 : Int32) (xk1 : Int32) (ks : ClassId) (xs0 : UInt64) (xs1 : UInt64) (kv : ClassId) (xv0 : UInt64) (xv1 : UInt64) (h0 : Heap) (n0 : Nat) (Z0 : n0 ≤ h0.size) (E_a0 : Exa Z h0 a0 "com/example/rank60/rank60/FusedList$Explanations$DocumentContributions") (F_start_a0 : Fld Z h0 a0 "com/example/rank60/rank60/FusedList$Explanations$DocumentContributions" "start" "I" (.int (0 : Int32))) (F_size_a0 : Fld Z h0 a0 "com/example/rank60/rank60/FusedList$Explanations$DocumentContributions" "size" "I" (.int sz)) (F_this_0_a0 : Fld Z h0 a0 "com/example/rank60/rank60/FusedList$Explanations$DocumentContributions" "this$0" "Lcom/example/rank60/rank60/FusedList$Explanations;" (.ref ae)) (E_ae : Exa Z h0 ae "com/example/rank60/rank60/FusedList$Explanations") (F_inputs_ae : Fld Z h0 ae "com/example/rank60/rank60/FusedList$Explanations" "inputs" "[I" (.ref ai)) (F_ranks_ae : Fld Z h0 ae "com/example/rank60/rank60/FusedList$Explanations" "ranks" "[I" (.ref ak)) (F_scores_ae : Fld Z h0 ae "com/example/rank60/rank60/FusedList$Explanations" "scores" "[D" (.ref asx)) (F_values_ae : Fld Z h0 ae "com/example/rank60/rank60/FusedList$Explanations" "values" "[D" (.ref av)) (V_ai : Arv Z h0 ai ki .int (2 : Int32) [(.int xi0), (.int xi1)] (.int (0 : Int32))) (V_ak : Arv Z h0 ak kk .int (2 : Int32) [(.int xk0), (.int xk1)] (.int (0 : Int32))) (V_asx : Arv Z h0 asx ks .double (2 : Int32) [(.double xs0), (.double xs1)] (.double (FP.l2d 0))) (V_av : Arv Z h0 av kv .double (2 : Int32) [(.double xv0), (.double xv1)] (.double (FP.l2d 0))) (hsz : (1 : Int32) < sz) :
    MetFree l (⟨"com/example/rank60/rank60/FusedList$Explanations$DocumentContributions", "get", "(I)Lcom/example/rank60/rank60/FusedHit$Contribution;"⟩ : MethodName) (head1 (Jvm.Cond.code (⟨"com/example/rank60/rank60/FusedList$Explanations$DocumentContributions", "get", "(I)Lcom/example/rank60/rank60/FusedHit$Contribution;"⟩ : MethodName) prog_11_method_2_code 3 (some (.object "com/example/rank60/rank60/FusedHit$Contribution")) :: ws) ({ frames := 3, cells := 1, slots := 4, locals := 43 } : Room)) (fun a U => a = #[(.ref a0), (.int (1 : Int32))] ∧ Z.Warmed39 U.vm ∧ U.heap = h0) (fun _ _ _ _ _ => True) (fun _ U o U' => ∃ v L, o = .returned v ∧ Q16_101 Z a0 sz ae ai ak asx av ki xi0 xi1 kk xk0 xk1 ks xs0 xs1 kv xv0 xv1 h0 n0 v U'.heap L ∧ FrameEnd U o U' L ({ frames := 3, cells := 1, slots := 4, locals := 43 } : Room).cells ({ frames := 3, cells := 1, slots := 4, locals := 43 } : Room).slots) := by
  refine MetFree.of_bodySF (plainFor_of_name pn_4) hisR ?_
  intro p e s m args below meth c s₁ Bd hml0 hP hK
  obtain ⟨rfl, hZ, hh⟩ := hP
  have hx := Bd.exec
  have hby := Bd.bytes
  have hml : c.maxLocals = 3 := hml0
  have hown : s.vm.findClass "com/example/rank60/rank60/FusedList$Explanations$DocumentContributions" = some m.cls := findClass_of_methodNamed Bd.named
  have hnm := (name_of_methodNamed Bd.named Bd.method).1
  have X0 : Stand p l e ({ frames := 3, cells := 1, slots := 4, locals := 43 } : Room) s m #[(.ref a0), (.int (1 : Int32))] below meth c s₁ [] 0 0 := Stand.of_body Bd
  have e0 : s₁.heap = h0 := by rw [← hh, Bd.state]; rfl
  have N0 := Fr.nil n0
  have pre0 : ∀ t, Steps p.tables e below (s₁.setTop (mkF m 0 #[.val (.ref a0), .val (.int 1), .unset] [])) t → Steps p.tables e below (s₁.setTop (entryFrame m #[(.ref a0), (.int (1 : Int32))] 3)) t := fun t k => castTop (ef_16_v1 m a0) k
  obtain ⟨T983, X983, e983, st983⟩ := getF X0 hx hZ hown (host := "") (Or.inl (own_wk hw 100 rfl)) Via.refl e0 F_start_a0 (g := (mkF m 1 #[.val (.ref a0), .val (.int 1), .unset] [(.ref a0)])) rfl rfl (hb hby d16_1)
  obtain ⟨T984, X984, e984, st984⟩ := getF X983 hx hZ hown (host := "") (Or.inl (own_wk hw 102 rfl)) Via.refl e983 F_size_a0 (g := (mkF m 6 #[.val (.ref a0), .val (.int 1), .unset] [(.ref a0), .int 1, .int 0])) rfl rfl (hb hby d16_6)
  obtain ⟨_, _, ⟨T985, L985, k985, n985⟩, -, X985, ⟨Lc985, hQ985, l985, y985, z985⟩, st985⟩ := Jvm.LawKit.callS X984 hx (y := (⟨"java/util/Objects", "checkIndex", "(II)I"⟩ : MethodName)) hown (mvT hZ (own_wk hw 126 rfl)) (mvT hZ (own_wk hw 78 rfl)) (mvT hZ (own_wk hw 79 rfl)) (mvT hZ (own_wk hw 80 rfl)) (by decide) (backOf (W := 1) (rm10 l Z ag hw [] (1 : Int32) sz  h0 n0 Z0 (by decide) hsz) hZ (own_wk hw 80 rfl) (own_wk hw 79 rfl) (by decide) (by decide)) (g := (mkF m 9 #[.val (.ref a0), .val (.int 1), .unset] [(.int sz), .int 1, .int 0])) rfl (by rw [hml]; rfl) (argsL := [(.int (1 : Int32)), (.int sz)]) (rest := [(.int (0 : Int32))]) (lenOf pd_6 rfl) rfl (by show 2 * 0 + _ ≤ _; exact Nat.le_of_eq rfl) (hb hby d16_9) (fun _ _ => ⟨rfl, e984, (by decide : 0 + 0 ≤ _), (by decide : 0 + 0 ≤ _)⟩)
  dsimp only [Pt.U, Pt.locs, Pt.cells, Pt.slots] at X985 l985 y985 z985 st985 hQ985
  subst l985 y985 z985
  obtain ⟨rfl, N985q, e985⟩ := hQ985
  have N985 := Fr.app N0 N985q
  obtain ⟨T986, h986, X986, e986, E986, A986, D986, -, st986⟩ := newO X985 hx hZ hown (own_wk hw 127 rfl) (own_wk hw 128 rfl) (own_wk hw 129 rfl) e985 (g := (mkF m 14 #[.val (.ref a0), .val (.int 1), .val (.int 1)] [])) rfl (hb hby d16_14) (by decide) (by decide)
  obtain ⟨b986, g986⟩ : ∃ z, z = h0.size := ⟨_, rfl⟩
  have ne987 : a0 ≠ b986 := Nat.ne_of_lt (Nat.lt_of_lt_of_le E_a0.lt (Nat.le_of_eq g986.symm))
  have ne988 : ae ≠ b986 := Nat.ne_of_lt (Nat.lt_of_lt_of_le E_ae.lt (Nat.le_of_eq g986.symm))
  have ne989 : ai ≠ b986 := Nat.ne_of_lt (Nat.lt_of_lt_of_le V_ai.lt (Nat.le_of_eq g986.symm))
  have ne990 : ak ≠ b986 := Nat.ne_of_lt (Nat.lt_of_lt_of_le V_ak.lt (Nat.le_of_eq g986.symm))
  have ne991 : asx ≠ b986 := Nat.ne_of_lt (Nat.lt_of_lt_of_le V_asx.lt (Nat.le_of_eq g986.symm))
  have ne992 : av ≠ b986 := Nat.ne_of_lt (Nat.lt_of_lt_of_le V_av.lt (Nat.le_of_eq g986.symm))
  have ge_b986 : n0 ≤ b986 := Nat.le_trans Z0 (Nat.le_of_eq g986.symm)
  have gs_b986 : h0.size ≤ b986 := Nat.le_trans (Keep.refl h0 []).1 (Nat.le_of_eq g986.symm)
  rw [← g986] at A986 D986 st986
  have x993 := E_a0.ext E986
  have x994 := F_start_a0.ext E986
  have x995 := F_size_a0.ext E986
  have x996 := F_this_0_a0.ext E986
  have x997 := E_ae.ext E986
  have x998 := F_inputs_ae.ext E986
  have x999 := F_ranks_ae.ext E986
  have x1000 := F_scores_ae.ext E986
  have x1001 := F_values_ae.ext E986
  have x1002 := V_ai.ext E986
  have x1003 := V_ak.ext E986
  have x1004 := V_asx.ext E986
  have x1005 := V_av.ext E986
  have sz1006 : n0 ≤ h986.size := Nat.le_trans Z0 E986.1
  have kp1007 : Keep h0 h986 [] := (Keep.refl h0 []).ext E986
  have F986_input : Fld Z h986 b986 "com/example/rank60/rank60/FusedHit$Contribution" "input" "I" (.int (0 : Int32)) := D986 (Or.inr (own_wk hw 144 rfl)) (ty := .int) (by decide)
  have F986_rank : Fld Z h986 b986 "com/example/rank60/rank60/FusedHit$Contribution" "rank" "I" (.int (0 : Int32)) := D986 (Or.inr (own_wk hw 146 rfl)) (ty := .int) (by decide)
  have F986_score : Fld Z h986 b986 "com/example/rank60/rank60/FusedHit$Contribution" "score" "D" (.double (0 : UInt64)) := D986 (Or.inr (own_wk hw 148 rfl)) (ty := .double) (by decide)
  have F986_value : Fld Z h986 b986 "com/example/rank60/rank60/FusedHit$Contribution" "value" "D" (.double (0 : UInt64)) := D986 (Or.inr (own_wk hw 150 rfl)) (ty := .double) (by decide)
  obtain ⟨T1008, X1008, e1008, st1008⟩ := getF X986 hx hZ hown (host := "") (Or.inl (own_wk hw 95 rfl)) Via.refl e986 x996 (g := (mkF m 19 #[.val (.ref a0), .val (.int 1), .val (.int 1)] [(.ref a0), (.ref b986), (.ref b986)])) rfl rfl (hb hby d16_19)
  obtain ⟨T1009, X1009, e1009, st1009⟩ := getF X1008 hx hZ hown (Or.inr (own_wk hw 130 rfl)) Via.refl e1008 x998 (g := (mkF m 22 #[.val (.ref a0), .val (.int 1), .val (.int 1)] [(.ref ae), (.ref b986), (.ref b986)])) rfl rfl (hb hby d16_22)
  obtain ⟨cl1010, Ar1010, q1010, S1010, M1010, H1010, G1010⟩ := id x1002
  have hin1010 : ¬ ((1 : Int32) < 0 ∨ cl1010.slots.size ≤ ((1 : Int32)).toNatClampNeg) := inb_of S1010 ⟨(by decide : ¬ (1 : Int32) < 0), (by decide : (1 : Int32) < (2 : Int32))⟩
  have hat1010 : cl1010.slots[((1 : Int32)).toNatClampNeg]? = some (.int xi1) := Has.at H1010 hin1010 rfl
  have ld1010 := X1009.iaload hx (j := (1 : Int32)) (v := (.int xi1)) (by rw [e1009]; exact Ar1010.1) (State.isArrayOf_alike hZ.alike Ar1010.2.1) Ar1010.2.2 hin1010 hat1010 (g := (mkF m 26 #[.val (.ref a0), .val (.int 1), .val (.int 1)] [.int 1, (.ref ai), (.ref b986), (.ref b986)])) rfl rfl (hb hby d16_26)
  obtain ⟨T1011, X1011, e1011, st1011⟩ := getF X1009 hx hZ hown (host := "") (Or.inl (own_wk hw 95 rfl)) Via.refl e1009 x996 (g := (mkF m 28 #[.val (.ref a0), .val (.int 1), .val (.int 1)] [(.ref a0), (.int xi1), (.ref b986), (.ref b986)])) rfl rfl (hb hby d16_28)
  obtain ⟨T1012, X1012, e1012, st1012⟩ := getF X1011 hx hZ hown (Or.inr (own_wk hw 131 rfl)) Via.refl e1011 x999 (g := (mkF m 31 #[.val (.ref a0), .val (.int 1), .val (.int 1)] [(.ref ae), (.int xi1), (.ref b986), (.ref b986)])) rfl rfl (hb hby d16_31)
  obtain ⟨cl1013, Ar1013, q1013, S1013, M1013, H1013, G1013⟩ := id x1003
  have hin1013 : ¬ ((1 : Int32) < 0 ∨ cl1013.slots.size ≤ ((1 : Int32)).toNatClampNeg) := inb_of S1013 ⟨(by decide : ¬ (1 : Int32) < 0), (by decide : (1 : Int32) < (2 : Int32))⟩
  have hat1013 : cl1013.slots[((1 : Int32)).toNatClampNeg]? = some (.int xk1) := Has.at H1013 hin1013 rfl
  have ld1013 := X1012.iaload hx (j := (1 : Int32)) (v := (.int xk1)) (by rw [e1012]; exact Ar1013.1) (State.isArrayOf_alike hZ.alike Ar1013.2.1) Ar1013.2.2 hin1013 hat1013 (g := (mkF m 35 #[.val (.ref a0), .val (.int 1), .val (.int 1)] [.int 1, (.ref ak), (.int xi1), (.ref b986), (.ref b986)])) rfl rfl (hb hby d16_35)
  obtain ⟨T1014, X1014, e1014, st1014⟩ := getF X1012 hx hZ hown (host := "") (Or.inl (own_wk hw 95 rfl)) Via.refl e1012 x996 (g := (mkF m 37 #[.val (.ref a0), .val (.int 1), .val (.int 1)] [(.ref a0), (.int xk1), (.int xi1), (.ref b986), (.ref b986)])) rfl rfl (hb hby d16_37)
  obtain ⟨T1015, X1015, e1015, st1015⟩ := getF X1014 hx hZ hown (Or.inr (own_wk hw 132 rfl)) Via.refl e1014 x1000 (g := (mkF m 40 #[.val (.ref a0), .val (.int 1), .val (.int 1)] [(.ref ae), (.int xk1), (.int xi1), (.ref b986), (.ref b986)])) rfl rfl (hb hby d16_40)
  obtain ⟨T1016, X1016, e1016, st1016⟩ := getF X1015 hx hZ hown (host := "") (Or.inl (own_wk hw 95 rfl)) Via.refl e1015 x996 (g := (mkF m 53 #[.val (.ref a0), .val (.int 1), .val (.int 1)] [(.ref a0), (.int xk1), (.int xi1), (.ref b986), (.ref b986)])) rfl rfl (hb hby d16_53)
  obtain ⟨T1017, X1017, e1017, st1017⟩ := getF X1016 hx hZ hown (Or.inr (own_wk hw 132 rfl)) Via.refl e1016 x1000 (g := (mkF m 56 #[.val (.ref a0), .val (.int 1), .val (.int 1)] [(.ref ae), (.int xk1), (.int xi1), (.ref b986), (.ref b986)])) rfl rfl (hb hby d16_56)
  obtain ⟨cl1018, Ar1018, q1018, S1018, M1018, H1018, G1018⟩ := id x1004
  have hin1018 : ¬ ((1 : Int32) < 0 ∨ cl1018.slots.size ≤ ((1 : Int32)).toNatClampNeg) := inb_of S1018 ⟨(by decide : ¬ (1 : Int32) < 0), (by decide : (1 : Int32) < (2 : Int32))⟩
  have hat1018 : cl1018.slots[((1 : Int32)).toNatClampNeg]? = some (.double xs1) := Has.at H1018 hin1018 rfl
  have ld1018 := X1017.daload hx (j := (1 : Int32)) (v := (.double xs1)) (by rw [e1017]; exact Ar1018.1) (State.isArrayOf_alike hZ.alike Ar1018.2.1) Ar1018.2.2 hin1018 hat1018 (g := (mkF m 60 #[.val (.ref a0), .val (.int 1), .val (.int 1)] [.int 1, (.ref asx), (.int xk1), (.int xi1), (.ref b986), (.ref b986)])) rfl rfl (hb hby d16_60)
  obtain ⟨T1019, X1019, e1019, st1019⟩ := getF X1017 hx hZ hown (host := "") (Or.inl (own_wk hw 95 rfl)) Via.refl e1017 x996 (g := (mkF m 62 #[.val (.ref a0), .val (.int 1), .val (.int 1)] [(.ref a0), (.double xs1), (.int xk1), (.int xi1), (.ref b986), (.ref b986)])) rfl rfl (hb hby d16_62)
  obtain ⟨T1020, X1020, e1020, st1020⟩ := getF X1019 hx hZ hown (Or.inr (own_wk hw 133 rfl)) Via.refl e1019 x1001 (g := (mkF m 65 #[.val (.ref a0), .val (.int 1), .val (.int 1)] [(.ref ae), (.double xs1), (.int xk1), (.int xi1), (.ref b986), (.ref b986)])) rfl rfl (hb hby d16_65)
  obtain ⟨cl1021, Ar1021, q1021, S1021, M1021, H1021, G1021⟩ := id x1005
  have hin1021 : ¬ ((1 : Int32) < 0 ∨ cl1021.slots.size ≤ ((1 : Int32)).toNatClampNeg) := inb_of S1021 ⟨(by decide : ¬ (1 : Int32) < 0), (by decide : (1 : Int32) < (2 : Int32))⟩
  have hat1021 : cl1021.slots[((1 : Int32)).toNatClampNeg]? = some (.double xv1) := Has.at H1021 hin1021 rfl
  have ld1021 := X1020.daload hx (j := (1 : Int32)) (v := (.double xv1)) (by rw [e1020]; exact Ar1021.1) (State.isArrayOf_alike hZ.alike Ar1021.2.1) Ar1021.2.2 hin1021 hat1021 (g := (mkF m 69 #[.val (.ref a0), .val (.int 1), .val (.int 1)] [.int 1, (.ref av), (.double xs1), (.int xk1), (.int xi1), (.ref b986), (.ref b986)])) rfl rfl (hb hby d16_69)
  have cp1022 : ∀ target, own_S p e below T1020 (mkF m 70 #[.val (.ref a0), .val (.int 1), .val (.int 1)] [(.double xv1), (.double xs1), (.int xk1), (.int xi1), (.ref b986), (.ref b986)]) target → own_S p e below s₁ (mkF m 0 #[.val (.ref a0), .val (.int 1), .unset] []) target := by
    intro target kt
    show own_S p e below s₁ (mkF m 0 #[.val (.ref a0), .val (.int 1), .unset] []) _
    refine XS.aloadN X0.here hx rfl (hb hby d16_0) rfl rfl ?_
    show own_S p e below s₁ (mkF m 1 #[.val (.ref a0), .val (.int 1), .unset] [(.ref a0)]) _
    refine st983 _ ?_
    show own_S p e below T983 (mkF m 4 #[.val (.ref a0), .val (.int 1), .unset] [.int 0]) _
    refine XS.iloadN X983.here hx rfl (hb hby d16_4) rfl ?_
    show own_S p e below T983 (mkF m 5 #[.val (.ref a0), .val (.int 1), .unset] [.int 1, .int 0]) _
    refine XS.aloadN X983.here hx rfl (hb hby d16_5) rfl rfl ?_
    show own_S p e below T983 (mkF m 6 #[.val (.ref a0), .val (.int 1), .unset] [(.ref a0), .int 1, .int 0]) _
    refine st984 _ ?_
    show own_S p e below T984 (mkF m 9 #[.val (.ref a0), .val (.int 1), .unset] [(.int sz), .int 1, .int 0]) _
    refine st985 _ ?_
    show own_S p e below T985 (mkF m 12 #[.val (.ref a0), .val (.int 1), .unset] [.int 1, .int 0]) _
    refine XS.iadd X985.here hx rfl (hb hby d16_12) rfl ?_
    show own_S p e below T985 (mkF m 13 #[.val (.ref a0), .val (.int 1), .unset] [(.int ((0 : Int32) + (1 : Int32)))]) _
    rw [show ((0 : Int32) + (1 : Int32)) = (1 : Int32) from by decide]
    show own_S p e below T985 (mkF m 13 #[.val (.ref a0), .val (.int 1), .unset] [.int 1]) _
    refine XS.istoreN X985.here hx rfl (hb hby d16_13) rfl (l' := #[.val (.ref a0), .val (.int 1), .val (.int 1)]) rfl ?_
    show own_S p e below T985 (mkF m 14 #[.val (.ref a0), .val (.int 1), .val (.int 1)] []) _
    refine st986 _ ?_
    show own_S p e below T986 (mkF m 17 #[.val (.ref a0), .val (.int 1), .val (.int 1)] [(.ref b986)]) _
    refine XS.dup X986.here hx rfl (hb hby d16_17) rfl rfl ?_
    show own_S p e below T986 (mkF m 18 #[.val (.ref a0), .val (.int 1), .val (.int 1)] [(.ref b986), (.ref b986)]) _
    refine XS.aloadN X986.here hx rfl (hb hby d16_18) rfl rfl ?_
    show own_S p e below T986 (mkF m 19 #[.val (.ref a0), .val (.int 1), .val (.int 1)] [(.ref a0), (.ref b986), (.ref b986)]) _
    refine st1008 _ ?_
    show own_S p e below T1008 (mkF m 22 #[.val (.ref a0), .val (.int 1), .val (.int 1)] [(.ref ae), (.ref b986), (.ref b986)]) _
    refine st1009 _ ?_
    show own_S p e below T1009 (mkF m 25 #[.val (.ref a0), .val (.int 1), .val (.int 1)] [(.ref ai), (.ref b986), (.ref b986)]) _
    refine XS.iloadN X1009.here hx rfl (hb hby d16_25) rfl ?_
    show own_S p e below T1009 (mkF m 26 #[.val (.ref a0), .val (.int 1), .val (.int 1)] [.int 1, (.ref ai), (.ref b986), (.ref b986)]) _
    refine ld1010 _ ?_
    show own_S p e below T1009 (mkF m 27 #[.val (.ref a0), .val (.int 1), .val (.int 1)] [(.int xi1), (.ref b986), (.ref b986)]) _
    refine XS.aloadN X1009.here hx rfl (hb hby d16_27) rfl rfl ?_
    show own_S p e below T1009 (mkF m 28 #[.val (.ref a0), .val (.int 1), .val (.int 1)] [(.ref a0), (.int xi1), (.ref b986), (.ref b986)]) _
    refine st1011 _ ?_
    show own_S p e below T1011 (mkF m 31 #[.val (.ref a0), .val (.int 1), .val (.int 1)] [(.ref ae), (.int xi1), (.ref b986), (.ref b986)]) _
    refine st1012 _ ?_
    show own_S p e below T1012 (mkF m 34 #[.val (.ref a0), .val (.int 1), .val (.int 1)] [(.ref ak), (.int xi1), (.ref b986), (.ref b986)]) _
    refine XS.iloadN X1012.here hx rfl (hb hby d16_34) rfl ?_
    show own_S p e below T1012 (mkF m 35 #[.val (.ref a0), .val (.int 1), .val (.int 1)] [.int 1, (.ref ak), (.int xi1), (.ref b986), (.ref b986)]) _
    refine ld1013 _ ?_
    show own_S p e below T1012 (mkF m 36 #[.val (.ref a0), .val (.int 1), .val (.int 1)] [(.int xk1), (.int xi1), (.ref b986), (.ref b986)]) _
    refine XS.aloadN X1012.here hx rfl (hb hby d16_36) rfl rfl ?_
    show own_S p e below T1012 (mkF m 37 #[.val (.ref a0), .val (.int 1), .val (.int 1)] [(.ref a0), (.int xk1), (.int xi1), (.ref b986), (.ref b986)]) _
    refine st1014 _ ?_
    show own_S p e below T1014 (mkF m 40 #[.val (.ref a0), .val (.int 1), .val (.int 1)] [(.ref ae), (.int xk1), (.int xi1), (.ref b986), (.ref b986)]) _
    refine st1015 _ ?_
    show own_S p e below T1015 (mkF m 43 #[.val (.ref a0), .val (.int 1), .val (.int 1)] [(.ref asx), (.int xk1), (.int xi1), (.ref b986), (.ref b986)]) _
    refine XS.ifnonnullYes X1015.here hx rfl (pc0 := 43) (pc' := 52) rfl (hb hby d16_43) rfl (by decide) (by decide) ?_
    show own_S p e below T1015 (mkF m 52 #[.val (.ref a0), .val (.int 1), .val (.int 1)] [(.int xk1), (.int xi1), (.ref b986), (.ref b986)]) _
    refine XS.aloadN X1015.here hx rfl (hb hby d16_52) rfl rfl ?_
    show own_S p e below T1015 (mkF m 53 #[.val (.ref a0), .val (.int 1), .val (.int 1)] [(.ref a0), (.int xk1), (.int xi1), (.ref b986), (.ref b986)]) _
    refine st1016 _ ?_
    show own_S p e below T1016 (mkF m 56 #[.val (.ref a0), .val (.int 1), .val (.int 1)] [(.ref ae), (.int xk1), (.int xi1), (.ref b986), (.ref b986)]) _
    refine st1017 _ ?_
    show own_S p e below T1017 (mkF m 59 #[.val (.ref a0), .val (.int 1), .val (.int 1)] [(.ref asx), (.int xk1), (.int xi1), (.ref b986), (.ref b986)]) _
    refine XS.iloadN X1017.here hx rfl (hb hby d16_59) rfl ?_
    show own_S p e below T1017 (mkF m 60 #[.val (.ref a0), .val (.int 1), .val (.int 1)] [.int 1, (.ref asx), (.int xk1), (.int xi1), (.ref b986), (.ref b986)]) _
    refine ld1018 _ ?_
    show own_S p e below T1017 (mkF m 61 #[.val (.ref a0), .val (.int 1), .val (.int 1)] [(.double xs1), (.int xk1), (.int xi1), (.ref b986), (.ref b986)]) _
    refine XS.aloadN X1017.here hx rfl (hb hby d16_61) rfl rfl ?_
    show own_S p e below T1017 (mkF m 62 #[.val (.ref a0), .val (.int 1), .val (.int 1)] [(.ref a0), (.double xs1), (.int xk1), (.int xi1), (.ref b986), (.ref b986)]) _
    refine st1019 _ ?_
    show own_S p e below T1019 (mkF m 65 #[.val (.ref a0), .val (.int 1), .val (.int 1)] [(.ref ae), (.double xs1), (.int xk1), (.int xi1), (.ref b986), (.ref b986)]) _
    refine st1020 _ ?_
    show own_S p e below T1020 (mkF m 68 #[.val (.ref a0), .val (.int 1), .val (.int 1)] [(.ref av), (.double xs1), (.int xk1), (.int xi1), (.ref b986), (.ref b986)]) _
    refine XS.iloadN X1020.here hx rfl (hb hby d16_68) rfl ?_
    show own_S p e below T1020 (mkF m 69 #[.val (.ref a0), .val (.int 1), .val (.int 1)] [.int 1, (.ref av), (.double xs1), (.int xk1), (.int xi1), (.ref b986), (.ref b986)]) _
    refine ld1021 _ ?_
    exact kt
  obtain ⟨_, _, ⟨T1023, L1023, k1023, n1023⟩, -, X1023, ⟨Lc1023, hQ1023, l1023, y1023, z1023⟩, st1023⟩ := X1020.specialBack hx (y := (⟨"com/example/rank60/rank60/FusedHit$Contribution", "<init>", "(IIDD)V"⟩ : MethodName)) rfl hown (mvT hZ (own_wk hw 134 rfl)) (mvT hZ (own_wk hw 135 rfl)) (mvT hZ (own_wk hw 136 rfl)) (by decide) (backOf (W := 1) (rm17 l Z ag hw [] b986 xi1 xk1 xs1 xv1  h986 n0 sz1006 A986 F986_input F986_rank F986_score F986_value ge_b986) hZ (own_wk hw 136 rfl) (own_wk hw 129 rfl) (by decide) (by decide)) (g := (mkF m 70 #[.val (.ref a0), .val (.int 1), .val (.int 1)] [(.double xv1), (.double xs1), (.int xk1), (.int xi1), (.ref b986), (.ref b986)])) rfl (by rw [hml]; rfl) (Steps.refl _) (a := b986) (argsL := [(.int xi1), (.int xk1), (.double xs1), (.double xv1)]) (rest := [(.ref b986)]) (lenOf pd_7 rfl) rfl (by show 2 * 0 + _ ≤ _; exact Nat.le_of_eq rfl) (hb hby d16_70) (fun _ _ => ⟨rfl, e1020, (by decide : 1 + 0 ≤ _), (by decide : 4 + 0 ≤ _)⟩)
  dsimp only [Pt.U, Pt.locs, Pt.cells, Pt.slots] at X1023 l1023 y1023 z1023 st1023 hQ1023
  subst l1023 y1023 z1023
  obtain ⟨rfl, N1023q, K1023, o1023_0, o1023_1, o1023_2, o1023_3⟩ := hQ1023
  have N1023 := Fr.app N985 N1023q
  have x1024 := x993.keep K1023
  have x1025 := x994.keep K1023 (ninS ne987 nin0)
  have x1026 := x995.keep K1023 (ninS ne987 nin0)
  have x1027 := x996.keep K1023 (ninS ne987 nin0)
  have x1028 := x997.keep K1023
  have x1029 := x998.keep K1023 (ninS ne988 nin0)
  have x1030 := x999.keep K1023 (ninS ne988 nin0)
  have x1031 := x1000.keep K1023 (ninS ne988 nin0)
  have x1032 := x1001.keep K1023 (ninS ne988 nin0)
  have x1033 := x1002.keep K1023 (ninS ne989 nin0)
  have x1034 := x1003.keep K1023 (ninS ne990 nin0)
  have x1035 := x1004.keep K1023 (ninS ne991 nin0)
  have x1036 := x1005.keep K1023 (ninS ne992 nin0)
  have x1037 := A986.keep K1023
  have sz1038 : n0 ≤ T1023.heap.size := Nat.le_trans sz1006 K1023.1
  have kp1039 : Keep h0 T1023.heap [] := kp1007.trans K1023 (allS (Or.inr gs_b986) all0)
  obtain ⟨fs, hr, hrun, hended, hW, hsame⟩ := X1023.leave (v := some (.ref b986)) (fun h => by rw [Bd.returns] at h; cases h)
  refine ⟨_, _, pre0 _ ?_, hrun, hended, _, _, rfl, ?_, ⟨_, rfl⟩, hW, hsame.mono (by decide) (by decide)⟩
  · show own_S p e below s₁ (mkF m 0 #[.val (.ref a0), .val (.int 1), .unset] []) _
    refine cp1022 _ ?_
    show own_S p e below T1020 (mkF m 70 #[.val (.ref a0), .val (.int 1), .val (.int 1)] [(.double xv1), (.double xs1), (.int xk1), (.int xi1), (.ref b986), (.ref b986)]) _
    refine st1023.trans ?_
    show own_S p e below T1023 (mkF m 73 #[.val (.ref a0), .val (.int 1), .val (.int 1)] [(.ref b986)]) _
    exact Jvm.RoadKit.retOut X1023 hx Bd.returns rfl (Or.inr (Or.inr (Or.inr (Or.inr ⟨rfl, rfl, rfl⟩)))) (hb hby d16_73) hr
  · show Q16_101 Z a0 sz ae ai ak asx av ki xi0 xi1 kk xk0 xk1 ks xs0 xs1 kv xv0 xv1 h0 n0 _ T1023.heap _
    exact ⟨b986, rfl, N1023, kp1039, ge_b986, gs_b986, x1037, o1023_0, o1023_1, o1023_2, o1023_3⟩
def Q16_010 (Z : State) (a0 : Addr) (sz : Int32) (ae : Addr) (ai : Addr) (ak : Addr) (av : Addr) (ki : ClassId) (xi0 : Int32) (xi1 : Int32) (kk : ClassId) (xk0 : Int32) (xk1 : Int32) (kv : ClassId) (xv0 : UInt64) (xv1 : UInt64) (h0 : Heap) (n0 : Nat) (v : Option Value) (h : Heap) (L : List Loc) : Prop := ∃ r : Addr, v = some (.ref r) ∧ Fr n0 L ∧ Keep h0 h [] ∧ n0 ≤ r ∧ h0.size ≤ r ∧ Exa Z h r "com/example/rank60/rank60/FusedHit$Contribution" ∧ Fld Z h r "com/example/rank60/rank60/FusedHit$Contribution" "input" "I" (.int xi1) ∧ Fld Z h r "com/example/rank60/rank60/FusedHit$Contribution" "rank" "I" (.int xk1) ∧ Fld Z h r "com/example/rank60/rank60/FusedHit$Contribution" "score" "D" (.double (9221120237041090560 : UInt64)) ∧ Fld Z h r "com/example/rank60/rank60/FusedHit$Contribution" "value" "D" (.double xv1)
set_option maxRecDepth 65536 in
set_option maxHeartbeats 40000000 in
theorem rm16_010 (l : Launch) (Z : State) (ag : Array Value) (hw : ∀ d ∈ tables_1, d.before ag Z = true) (ws : List Jvm.Cond) (a0 : Addr) (sz : Int32) (ae : Addr) (ai : Addr) (ak : Addr) (av : Addr) (ki : ClassId) (xi0 : Int32) (xi1 : Int32) (kk : ClassId) (xk0 : Int32) (xk1 : Int32) (kv : ClassId) (xv0 : UInt64) (xv1 : UInt64) (h0 : Heap) (n0 : Nat) (Z0 : n0 ≤ h0.size) (E_a0 : Exa Z h0 a0 "com/example/rank60/rank60/FusedList$Explanations$DocumentContributions") (F_start_a0 : Fld Z h0 a0 "com/example/rank60/rank60/FusedList$Explanations$DocumentContributions" "start" "I" (.int (1 : Int32))) (F_size_a0 : Fld Z h0 a0 "com/example/rank60/rank60/FusedList$Explanations$DocumentContributions" "size" "I" (.int sz)) (F_this_0_a0 : Fld Z h0 a0 "com/example/rank60/rank60/FusedList$Explanations$DocumentContributions" "this$0" "Lcom/example/rank60/rank60/FusedList$Explanations;" (.ref ae)) (E_ae : Exa Z h0 ae "com/example/rank60/rank60/FusedList$Explanations") (F_inputs_ae : Fld Z h0 ae "com/example/rank60/rank60/FusedList$Explanations" "inputs" "[I" (.ref ai)) (F_ranks_ae : Fld Z h0 ae "com/example/rank60/rank60/FusedList$Explanations" "ranks" "[I" (.ref ak)) (F_scores_ae : Fld Z h0 ae "com/example/rank60/rank60/FusedList$Explanations" "scores" "[D" .null) (F_values_ae : Fld Z h0 ae "com/example/rank60/rank60/FusedList$Explanations" "values" "[D" (.ref av)) (V_ai : Arv Z h0 ai ki .int (2 : Int32) [(.int xi0), (.int xi1)] (.int (0 : Int32))) (V_ak : Arv Z h0 ak kk .int (2 : Int32) [(.int xk0), (.int xk1)] (.int (0 : Int32))) (V_av : Arv Z h0 av kv .double (2 : Int32) [(.double xv0), (.double xv1)] (.double (FP.l2d 0))) (hsz : (0 : Int32) < sz) :
    MetFree l (⟨"com/example/rank60/rank60/FusedList$Explanations$DocumentContributions", "get", "(I)Lcom/example/rank60/rank60/FusedHit$Contribution;"⟩ : MethodName) (head1 (Jvm.Cond.code (⟨"com/example/rank60/rank60/FusedList$Explanations$DocumentContributions", "get", "(I)Lcom/example/rank60/rank60/FusedHit$Contribution;"⟩ : MethodName) prog_11_method_2_code 3 (some (.object "com/example/rank60/rank60/FusedHit$Contribution")) :: ws) ({ frames := 3, cells := 1, slots := 4, locals := 43 } : Room)) (fun a U => a = #[(.ref a0), (.int (0 : Int32))] ∧ Z.Warmed39 U.vm ∧ U.heap = h0) (fun _ _ _ _ _ => True) (fun _ U o U' => ∃ v L, o = .returned v ∧ Q16_010 Z a0 sz ae ai ak av ki xi0 xi1 kk xk0 xk1 kv xv0 xv1 h0 n0 v U'.heap L ∧ FrameEnd U o U' L ({ frames := 3, cells := 1, slots := 4, locals := 43 } : Room).cells ({ frames := 3, cells := 1, slots := 4, locals := 43 } : Room).slots) := by
  refine MetFree.of_bodySF (plainFor_of_name pn_4) hisR ?_
  intro p e s m args below meth c s₁ Bd hml0 hP hK
  obtain ⟨rfl, hZ, hh⟩ := hP
  have hx := Bd.exec
  have hby := Bd.bytes
  have hml : c.maxLocals = 3 := hml0
  have hown : s.vm.findClass "com/example/rank60/rank60/FusedList$Explanations$DocumentContributions" = some m.cls := findClass_of_methodNamed Bd.named
  have hnm := (name_of_methodNamed Bd.named Bd.method).1
  have X0 : Stand p l e ({ frames := 3, cells := 1, slots := 4, locals := 43 } : Room) s m #[(.ref a0), (.int (0 : Int32))] below meth c s₁ [] 0 0 := Stand.of_body Bd
  have e0 : s₁.heap = h0 := by rw [← hh, Bd.state]; rfl
  have N0 := Fr.nil n0
  have pre0 : ∀ t, Steps p.tables e below (s₁.setTop (mkF m 0 #[.val (.ref a0), .val (.int 0), .unset] [])) t → Steps p.tables e below (s₁.setTop (entryFrame m #[(.ref a0), (.int (0 : Int32))] 3)) t := fun t k => castTop (ef_16_v0 m a0) k
  obtain ⟨T1040, X1040, e1040, st1040⟩ := getF X0 hx hZ hown (host := "") (Or.inl (own_wk hw 100 rfl)) Via.refl e0 F_start_a0 (g := (mkF m 1 #[.val (.ref a0), .val (.int 0), .unset] [(.ref a0)])) rfl rfl (hb hby d16_1)
  obtain ⟨T1041, X1041, e1041, st1041⟩ := getF X1040 hx hZ hown (host := "") (Or.inl (own_wk hw 102 rfl)) Via.refl e1040 F_size_a0 (g := (mkF m 6 #[.val (.ref a0), .val (.int 0), .unset] [(.ref a0), .int 0, .int 1])) rfl rfl (hb hby d16_6)
  obtain ⟨_, _, ⟨T1042, L1042, k1042, n1042⟩, -, X1042, ⟨Lc1042, hQ1042, l1042, y1042, z1042⟩, st1042⟩ := Jvm.LawKit.callS X1041 hx (y := (⟨"java/util/Objects", "checkIndex", "(II)I"⟩ : MethodName)) hown (mvT hZ (own_wk hw 126 rfl)) (mvT hZ (own_wk hw 78 rfl)) (mvT hZ (own_wk hw 79 rfl)) (mvT hZ (own_wk hw 80 rfl)) (by decide) (backOf (W := 1) (rm10 l Z ag hw [] (0 : Int32) sz  h0 n0 Z0 (by decide) hsz) hZ (own_wk hw 80 rfl) (own_wk hw 79 rfl) (by decide) (by decide)) (g := (mkF m 9 #[.val (.ref a0), .val (.int 0), .unset] [(.int sz), .int 0, .int 1])) rfl (by rw [hml]; rfl) (argsL := [(.int (0 : Int32)), (.int sz)]) (rest := [(.int (1 : Int32))]) (lenOf pd_6 rfl) rfl (by show 2 * 0 + _ ≤ _; exact Nat.le_of_eq rfl) (hb hby d16_9) (fun _ _ => ⟨rfl, e1041, (by decide : 0 + 0 ≤ _), (by decide : 0 + 0 ≤ _)⟩)
  dsimp only [Pt.U, Pt.locs, Pt.cells, Pt.slots] at X1042 l1042 y1042 z1042 st1042 hQ1042
  subst l1042 y1042 z1042
  obtain ⟨rfl, N1042q, e1042⟩ := hQ1042
  have N1042 := Fr.app N0 N1042q
  obtain ⟨T1043, h1043, X1043, e1043, E1043, A1043, D1043, -, st1043⟩ := newO X1042 hx hZ hown (own_wk hw 127 rfl) (own_wk hw 128 rfl) (own_wk hw 129 rfl) e1042 (g := (mkF m 14 #[.val (.ref a0), .val (.int 0), .val (.int 1)] [])) rfl (hb hby d16_14) (by decide) (by decide)
  obtain ⟨b1043, g1043⟩ : ∃ z, z = h0.size := ⟨_, rfl⟩
  have ne1044 : a0 ≠ b1043 := Nat.ne_of_lt (Nat.lt_of_lt_of_le E_a0.lt (Nat.le_of_eq g1043.symm))
  have ne1045 : ae ≠ b1043 := Nat.ne_of_lt (Nat.lt_of_lt_of_le E_ae.lt (Nat.le_of_eq g1043.symm))
  have ne1046 : ai ≠ b1043 := Nat.ne_of_lt (Nat.lt_of_lt_of_le V_ai.lt (Nat.le_of_eq g1043.symm))
  have ne1047 : ak ≠ b1043 := Nat.ne_of_lt (Nat.lt_of_lt_of_le V_ak.lt (Nat.le_of_eq g1043.symm))
  have ne1048 : av ≠ b1043 := Nat.ne_of_lt (Nat.lt_of_lt_of_le V_av.lt (Nat.le_of_eq g1043.symm))
  have ge_b1043 : n0 ≤ b1043 := Nat.le_trans Z0 (Nat.le_of_eq g1043.symm)
  have gs_b1043 : h0.size ≤ b1043 := Nat.le_trans (Keep.refl h0 []).1 (Nat.le_of_eq g1043.symm)
  rw [← g1043] at A1043 D1043 st1043
  have x1049 := E_a0.ext E1043
  have x1050 := F_start_a0.ext E1043
  have x1051 := F_size_a0.ext E1043
  have x1052 := F_this_0_a0.ext E1043
  have x1053 := E_ae.ext E1043
  have x1054 := F_inputs_ae.ext E1043
  have x1055 := F_ranks_ae.ext E1043
  have x1056 := F_scores_ae.ext E1043
  have x1057 := F_values_ae.ext E1043
  have x1058 := V_ai.ext E1043
  have x1059 := V_ak.ext E1043
  have x1060 := V_av.ext E1043
  have sz1061 : n0 ≤ h1043.size := Nat.le_trans Z0 E1043.1
  have kp1062 : Keep h0 h1043 [] := (Keep.refl h0 []).ext E1043
  have F1043_input : Fld Z h1043 b1043 "com/example/rank60/rank60/FusedHit$Contribution" "input" "I" (.int (0 : Int32)) := D1043 (Or.inr (own_wk hw 144 rfl)) (ty := .int) (by decide)
  have F1043_rank : Fld Z h1043 b1043 "com/example/rank60/rank60/FusedHit$Contribution" "rank" "I" (.int (0 : Int32)) := D1043 (Or.inr (own_wk hw 146 rfl)) (ty := .int) (by decide)
  have F1043_score : Fld Z h1043 b1043 "com/example/rank60/rank60/FusedHit$Contribution" "score" "D" (.double (0 : UInt64)) := D1043 (Or.inr (own_wk hw 148 rfl)) (ty := .double) (by decide)
  have F1043_value : Fld Z h1043 b1043 "com/example/rank60/rank60/FusedHit$Contribution" "value" "D" (.double (0 : UInt64)) := D1043 (Or.inr (own_wk hw 150 rfl)) (ty := .double) (by decide)
  obtain ⟨T1063, X1063, e1063, st1063⟩ := getF X1043 hx hZ hown (host := "") (Or.inl (own_wk hw 95 rfl)) Via.refl e1043 x1052 (g := (mkF m 19 #[.val (.ref a0), .val (.int 0), .val (.int 1)] [(.ref a0), (.ref b1043), (.ref b1043)])) rfl rfl (hb hby d16_19)
  obtain ⟨T1064, X1064, e1064, st1064⟩ := getF X1063 hx hZ hown (Or.inr (own_wk hw 130 rfl)) Via.refl e1063 x1054 (g := (mkF m 22 #[.val (.ref a0), .val (.int 0), .val (.int 1)] [(.ref ae), (.ref b1043), (.ref b1043)])) rfl rfl (hb hby d16_22)
  obtain ⟨cl1065, Ar1065, q1065, S1065, M1065, H1065, G1065⟩ := id x1058
  have hin1065 : ¬ ((1 : Int32) < 0 ∨ cl1065.slots.size ≤ ((1 : Int32)).toNatClampNeg) := inb_of S1065 ⟨(by decide : ¬ (1 : Int32) < 0), (by decide : (1 : Int32) < (2 : Int32))⟩
  have hat1065 : cl1065.slots[((1 : Int32)).toNatClampNeg]? = some (.int xi1) := Has.at H1065 hin1065 rfl
  have ld1065 := X1064.iaload hx (j := (1 : Int32)) (v := (.int xi1)) (by rw [e1064]; exact Ar1065.1) (State.isArrayOf_alike hZ.alike Ar1065.2.1) Ar1065.2.2 hin1065 hat1065 (g := (mkF m 26 #[.val (.ref a0), .val (.int 0), .val (.int 1)] [.int 1, (.ref ai), (.ref b1043), (.ref b1043)])) rfl rfl (hb hby d16_26)
  obtain ⟨T1066, X1066, e1066, st1066⟩ := getF X1064 hx hZ hown (host := "") (Or.inl (own_wk hw 95 rfl)) Via.refl e1064 x1052 (g := (mkF m 28 #[.val (.ref a0), .val (.int 0), .val (.int 1)] [(.ref a0), (.int xi1), (.ref b1043), (.ref b1043)])) rfl rfl (hb hby d16_28)
  obtain ⟨T1067, X1067, e1067, st1067⟩ := getF X1066 hx hZ hown (Or.inr (own_wk hw 131 rfl)) Via.refl e1066 x1055 (g := (mkF m 31 #[.val (.ref a0), .val (.int 0), .val (.int 1)] [(.ref ae), (.int xi1), (.ref b1043), (.ref b1043)])) rfl rfl (hb hby d16_31)
  obtain ⟨cl1068, Ar1068, q1068, S1068, M1068, H1068, G1068⟩ := id x1059
  have hin1068 : ¬ ((1 : Int32) < 0 ∨ cl1068.slots.size ≤ ((1 : Int32)).toNatClampNeg) := inb_of S1068 ⟨(by decide : ¬ (1 : Int32) < 0), (by decide : (1 : Int32) < (2 : Int32))⟩
  have hat1068 : cl1068.slots[((1 : Int32)).toNatClampNeg]? = some (.int xk1) := Has.at H1068 hin1068 rfl
  have ld1068 := X1067.iaload hx (j := (1 : Int32)) (v := (.int xk1)) (by rw [e1067]; exact Ar1068.1) (State.isArrayOf_alike hZ.alike Ar1068.2.1) Ar1068.2.2 hin1068 hat1068 (g := (mkF m 35 #[.val (.ref a0), .val (.int 0), .val (.int 1)] [.int 1, (.ref ak), (.int xi1), (.ref b1043), (.ref b1043)])) rfl rfl (hb hby d16_35)
  obtain ⟨T1069, X1069, e1069, st1069⟩ := getF X1067 hx hZ hown (host := "") (Or.inl (own_wk hw 95 rfl)) Via.refl e1067 x1052 (g := (mkF m 37 #[.val (.ref a0), .val (.int 0), .val (.int 1)] [(.ref a0), (.int xk1), (.int xi1), (.ref b1043), (.ref b1043)])) rfl rfl (hb hby d16_37)
  obtain ⟨T1070, X1070, e1070, st1070⟩ := getF X1069 hx hZ hown (Or.inr (own_wk hw 132 rfl)) Via.refl e1069 x1056 (g := (mkF m 40 #[.val (.ref a0), .val (.int 0), .val (.int 1)] [(.ref ae), (.int xk1), (.int xi1), (.ref b1043), (.ref b1043)])) rfl rfl (hb hby d16_40)
  obtain ⟨T1071, X1071, e1071, st1071⟩ := getF X1070 hx hZ hown (host := "") (Or.inl (own_wk hw 95 rfl)) Via.refl e1070 x1052 (g := (mkF m 62 #[.val (.ref a0), .val (.int 0), .val (.int 1)] [(.ref a0), (.double (9221120237041090560 : UInt64)), (.int xk1), (.int xi1), (.ref b1043), (.ref b1043)])) rfl rfl (hb hby d16_62)
  obtain ⟨T1072, X1072, e1072, st1072⟩ := getF X1071 hx hZ hown (Or.inr (own_wk hw 133 rfl)) Via.refl e1071 x1057 (g := (mkF m 65 #[.val (.ref a0), .val (.int 0), .val (.int 1)] [(.ref ae), (.double (9221120237041090560 : UInt64)), (.int xk1), (.int xi1), (.ref b1043), (.ref b1043)])) rfl rfl (hb hby d16_65)
  obtain ⟨cl1073, Ar1073, q1073, S1073, M1073, H1073, G1073⟩ := id x1060
  have hin1073 : ¬ ((1 : Int32) < 0 ∨ cl1073.slots.size ≤ ((1 : Int32)).toNatClampNeg) := inb_of S1073 ⟨(by decide : ¬ (1 : Int32) < 0), (by decide : (1 : Int32) < (2 : Int32))⟩
  have hat1073 : cl1073.slots[((1 : Int32)).toNatClampNeg]? = some (.double xv1) := Has.at H1073 hin1073 rfl
  have ld1073 := X1072.daload hx (j := (1 : Int32)) (v := (.double xv1)) (by rw [e1072]; exact Ar1073.1) (State.isArrayOf_alike hZ.alike Ar1073.2.1) Ar1073.2.2 hin1073 hat1073 (g := (mkF m 69 #[.val (.ref a0), .val (.int 0), .val (.int 1)] [.int 1, (.ref av), (.double (9221120237041090560 : UInt64)), (.int xk1), (.int xi1), (.ref b1043), (.ref b1043)])) rfl rfl (hb hby d16_69)
  have cp1074 : ∀ target, own_S p e below T1072 (mkF m 70 #[.val (.ref a0), .val (.int 0), .val (.int 1)] [(.double xv1), (.double (9221120237041090560 : UInt64)), (.int xk1), (.int xi1), (.ref b1043), (.ref b1043)]) target → own_S p e below s₁ (mkF m 0 #[.val (.ref a0), .val (.int 0), .unset] []) target := by
    intro target kt
    show own_S p e below s₁ (mkF m 0 #[.val (.ref a0), .val (.int 0), .unset] []) _
    refine XS.aloadN X0.here hx rfl (hb hby d16_0) rfl rfl ?_
    show own_S p e below s₁ (mkF m 1 #[.val (.ref a0), .val (.int 0), .unset] [(.ref a0)]) _
    refine st1040 _ ?_
    show own_S p e below T1040 (mkF m 4 #[.val (.ref a0), .val (.int 0), .unset] [.int 1]) _
    refine XS.iloadN X1040.here hx rfl (hb hby d16_4) rfl ?_
    show own_S p e below T1040 (mkF m 5 #[.val (.ref a0), .val (.int 0), .unset] [.int 0, .int 1]) _
    refine XS.aloadN X1040.here hx rfl (hb hby d16_5) rfl rfl ?_
    show own_S p e below T1040 (mkF m 6 #[.val (.ref a0), .val (.int 0), .unset] [(.ref a0), .int 0, .int 1]) _
    refine st1041 _ ?_
    show own_S p e below T1041 (mkF m 9 #[.val (.ref a0), .val (.int 0), .unset] [(.int sz), .int 0, .int 1]) _
    refine st1042 _ ?_
    show own_S p e below T1042 (mkF m 12 #[.val (.ref a0), .val (.int 0), .unset] [.int 0, .int 1]) _
    refine XS.iadd X1042.here hx rfl (hb hby d16_12) rfl ?_
    show own_S p e below T1042 (mkF m 13 #[.val (.ref a0), .val (.int 0), .unset] [(.int ((1 : Int32) + (0 : Int32)))]) _
    rw [show ((1 : Int32) + (0 : Int32)) = (1 : Int32) from by decide]
    show own_S p e below T1042 (mkF m 13 #[.val (.ref a0), .val (.int 0), .unset] [.int 1]) _
    refine XS.istoreN X1042.here hx rfl (hb hby d16_13) rfl (l' := #[.val (.ref a0), .val (.int 0), .val (.int 1)]) rfl ?_
    show own_S p e below T1042 (mkF m 14 #[.val (.ref a0), .val (.int 0), .val (.int 1)] []) _
    refine st1043 _ ?_
    show own_S p e below T1043 (mkF m 17 #[.val (.ref a0), .val (.int 0), .val (.int 1)] [(.ref b1043)]) _
    refine XS.dup X1043.here hx rfl (hb hby d16_17) rfl rfl ?_
    show own_S p e below T1043 (mkF m 18 #[.val (.ref a0), .val (.int 0), .val (.int 1)] [(.ref b1043), (.ref b1043)]) _
    refine XS.aloadN X1043.here hx rfl (hb hby d16_18) rfl rfl ?_
    show own_S p e below T1043 (mkF m 19 #[.val (.ref a0), .val (.int 0), .val (.int 1)] [(.ref a0), (.ref b1043), (.ref b1043)]) _
    refine st1063 _ ?_
    show own_S p e below T1063 (mkF m 22 #[.val (.ref a0), .val (.int 0), .val (.int 1)] [(.ref ae), (.ref b1043), (.ref b1043)]) _
    refine st1064 _ ?_
    show own_S p e below T1064 (mkF m 25 #[.val (.ref a0), .val (.int 0), .val (.int 1)] [(.ref ai), (.ref b1043), (.ref b1043)]) _
    refine XS.iloadN X1064.here hx rfl (hb hby d16_25) rfl ?_
    show own_S p e below T1064 (mkF m 26 #[.val (.ref a0), .val (.int 0), .val (.int 1)] [.int 1, (.ref ai), (.ref b1043), (.ref b1043)]) _
    refine ld1065 _ ?_
    show own_S p e below T1064 (mkF m 27 #[.val (.ref a0), .val (.int 0), .val (.int 1)] [(.int xi1), (.ref b1043), (.ref b1043)]) _
    refine XS.aloadN X1064.here hx rfl (hb hby d16_27) rfl rfl ?_
    show own_S p e below T1064 (mkF m 28 #[.val (.ref a0), .val (.int 0), .val (.int 1)] [(.ref a0), (.int xi1), (.ref b1043), (.ref b1043)]) _
    refine st1066 _ ?_
    show own_S p e below T1066 (mkF m 31 #[.val (.ref a0), .val (.int 0), .val (.int 1)] [(.ref ae), (.int xi1), (.ref b1043), (.ref b1043)]) _
    refine st1067 _ ?_
    show own_S p e below T1067 (mkF m 34 #[.val (.ref a0), .val (.int 0), .val (.int 1)] [(.ref ak), (.int xi1), (.ref b1043), (.ref b1043)]) _
    refine XS.iloadN X1067.here hx rfl (hb hby d16_34) rfl ?_
    show own_S p e below T1067 (mkF m 35 #[.val (.ref a0), .val (.int 0), .val (.int 1)] [.int 1, (.ref ak), (.int xi1), (.ref b1043), (.ref b1043)]) _
    refine ld1068 _ ?_
    show own_S p e below T1067 (mkF m 36 #[.val (.ref a0), .val (.int 0), .val (.int 1)] [(.int xk1), (.int xi1), (.ref b1043), (.ref b1043)]) _
    refine XS.aloadN X1067.here hx rfl (hb hby d16_36) rfl rfl ?_
    show own_S p e below T1067 (mkF m 37 #[.val (.ref a0), .val (.int 0), .val (.int 1)] [(.ref a0), (.int xk1), (.int xi1), (.ref b1043), (.ref b1043)]) _
    refine st1069 _ ?_
    show own_S p e below T1069 (mkF m 40 #[.val (.ref a0), .val (.int 0), .val (.int 1)] [(.ref ae), (.int xk1), (.int xi1), (.ref b1043), (.ref b1043)]) _
    refine st1070 _ ?_
    show own_S p e below T1070 (mkF m 43 #[.val (.ref a0), .val (.int 0), .val (.int 1)] [.null, (.int xk1), (.int xi1), (.ref b1043), (.ref b1043)]) _
    refine XS.ifnonnullNo X1070.here hx rfl (hb hby d16_43) rfl ?_
    show own_S p e below T1070 (mkF m 46 #[.val (.ref a0), .val (.int 0), .val (.int 1)] [(.int xk1), (.int xi1), (.ref b1043), (.ref b1043)]) _
    refine X1070.ldc2DoubleC hx hown (mvT hZ (own_wk hw 177 rfl)) (g := (mkF m 46 #[.val (.ref a0), .val (.int 0), .val (.int 1)] [(.int xk1), (.int xi1), (.ref b1043), (.ref b1043)])) rfl (hb hby d16_46) _ ?_
    show own_S p e below T1070 (mkF m 49 #[.val (.ref a0), .val (.int 0), .val (.int 1)] [(.double (9221120237041090560 : UInt64)), (.int xk1), (.int xi1), (.ref b1043), (.ref b1043)]) _
    refine XS.goto X1070.here hx rfl (pc0 := 49) (pc' := 61) rfl (hb hby d16_49) (by decide) (by decide) ?_
    show own_S p e below T1070 (mkF m 61 #[.val (.ref a0), .val (.int 0), .val (.int 1)] [(.double (9221120237041090560 : UInt64)), (.int xk1), (.int xi1), (.ref b1043), (.ref b1043)]) _
    refine XS.aloadN X1070.here hx rfl (hb hby d16_61) rfl rfl ?_
    show own_S p e below T1070 (mkF m 62 #[.val (.ref a0), .val (.int 0), .val (.int 1)] [(.ref a0), (.double (9221120237041090560 : UInt64)), (.int xk1), (.int xi1), (.ref b1043), (.ref b1043)]) _
    refine st1071 _ ?_
    show own_S p e below T1071 (mkF m 65 #[.val (.ref a0), .val (.int 0), .val (.int 1)] [(.ref ae), (.double (9221120237041090560 : UInt64)), (.int xk1), (.int xi1), (.ref b1043), (.ref b1043)]) _
    refine st1072 _ ?_
    show own_S p e below T1072 (mkF m 68 #[.val (.ref a0), .val (.int 0), .val (.int 1)] [(.ref av), (.double (9221120237041090560 : UInt64)), (.int xk1), (.int xi1), (.ref b1043), (.ref b1043)]) _
    refine XS.iloadN X1072.here hx rfl (hb hby d16_68) rfl ?_
    show own_S p e below T1072 (mkF m 69 #[.val (.ref a0), .val (.int 0), .val (.int 1)] [.int 1, (.ref av), (.double (9221120237041090560 : UInt64)), (.int xk1), (.int xi1), (.ref b1043), (.ref b1043)]) _
    refine ld1073 _ ?_
    exact kt
  obtain ⟨_, _, ⟨T1075, L1075, k1075, n1075⟩, -, X1075, ⟨Lc1075, hQ1075, l1075, y1075, z1075⟩, st1075⟩ := X1072.specialBack hx (y := (⟨"com/example/rank60/rank60/FusedHit$Contribution", "<init>", "(IIDD)V"⟩ : MethodName)) rfl hown (mvT hZ (own_wk hw 134 rfl)) (mvT hZ (own_wk hw 135 rfl)) (mvT hZ (own_wk hw 136 rfl)) (by decide) (backOf (W := 1) (rm17 l Z ag hw [] b1043 xi1 xk1 (9221120237041090560 : UInt64) xv1  h1043 n0 sz1061 A1043 F1043_input F1043_rank F1043_score F1043_value ge_b1043) hZ (own_wk hw 136 rfl) (own_wk hw 129 rfl) (by decide) (by decide)) (g := (mkF m 70 #[.val (.ref a0), .val (.int 0), .val (.int 1)] [(.double xv1), (.double (9221120237041090560 : UInt64)), (.int xk1), (.int xi1), (.ref b1043), (.ref b1043)])) rfl (by rw [hml]; rfl) (Steps.refl _) (a := b1043) (argsL := [(.int xi1), (.int xk1), (.double (9221120237041090560 : UInt64)), (.double xv1)]) (rest := [(.ref b1043)]) (lenOf pd_7 rfl) rfl (by show 2 * 0 + _ ≤ _; exact Nat.le_of_eq rfl) (hb hby d16_70) (fun _ _ => ⟨rfl, e1072, (by decide : 1 + 0 ≤ _), (by decide : 4 + 0 ≤ _)⟩)
  dsimp only [Pt.U, Pt.locs, Pt.cells, Pt.slots] at X1075 l1075 y1075 z1075 st1075 hQ1075
  subst l1075 y1075 z1075
  obtain ⟨rfl, N1075q, K1075, o1075_0, o1075_1, o1075_2, o1075_3⟩ := hQ1075
  have N1075 := Fr.app N1042 N1075q
  have x1076 := x1049.keep K1075
  have x1077 := x1050.keep K1075 (ninS ne1044 nin0)
  have x1078 := x1051.keep K1075 (ninS ne1044 nin0)
  have x1079 := x1052.keep K1075 (ninS ne1044 nin0)
  have x1080 := x1053.keep K1075
  have x1081 := x1054.keep K1075 (ninS ne1045 nin0)
  have x1082 := x1055.keep K1075 (ninS ne1045 nin0)
  have x1083 := x1056.keep K1075 (ninS ne1045 nin0)
  have x1084 := x1057.keep K1075 (ninS ne1045 nin0)
  have x1085 := x1058.keep K1075 (ninS ne1046 nin0)
  have x1086 := x1059.keep K1075 (ninS ne1047 nin0)
  have x1087 := x1060.keep K1075 (ninS ne1048 nin0)
  have x1088 := A1043.keep K1075
  have sz1089 : n0 ≤ T1075.heap.size := Nat.le_trans sz1061 K1075.1
  have kp1090 : Keep h0 T1075.heap [] := kp1062.trans K1075 (allS (Or.inr gs_b1043) all0)
  obtain ⟨fs, hr, hrun, hended, hW, hsame⟩ := X1075.leave (v := some (.ref b1043)) (fun h => by rw [Bd.returns] at h; cases h)
  refine ⟨_, _, pre0 _ ?_, hrun, hended, _, _, rfl, ?_, ⟨_, rfl⟩, hW, hsame.mono (by decide) (by decide)⟩
  · show own_S p e below s₁ (mkF m 0 #[.val (.ref a0), .val (.int 0), .unset] []) _
    refine cp1074 _ ?_
    show own_S p e below T1072 (mkF m 70 #[.val (.ref a0), .val (.int 0), .val (.int 1)] [(.double xv1), (.double (9221120237041090560 : UInt64)), (.int xk1), (.int xi1), (.ref b1043), (.ref b1043)]) _
    refine st1075.trans ?_
    show own_S p e below T1075 (mkF m 73 #[.val (.ref a0), .val (.int 0), .val (.int 1)] [(.ref b1043)]) _
    exact Jvm.RoadKit.retOut X1075 hx Bd.returns rfl (Or.inr (Or.inr (Or.inr (Or.inr ⟨rfl, rfl, rfl⟩)))) (hb hby d16_73) hr
  · show Q16_010 Z a0 sz ae ai ak av ki xi0 xi1 kk xk0 xk1 kv xv0 xv1 h0 n0 _ T1075.heap _
    exact ⟨b1043, rfl, N1075, kp1090, ge_b1043, gs_b1043, x1088, o1075_0, o1075_1, o1075_2, o1075_3⟩
def Q16_011 (Z : State) (a0 : Addr) (sz : Int32) (ae : Addr) (ai : Addr) (ak : Addr) (asx : Addr) (av : Addr) (ki : ClassId) (xi0 : Int32) (xi1 : Int32) (kk : ClassId) (xk0 : Int32) (xk1 : Int32) (ks : ClassId) (xs0 : UInt64) (xs1 : UInt64) (kv : ClassId) (xv0 : UInt64) (xv1 : UInt64) (h0 : Heap) (n0 : Nat) (v : Option Value) (h : Heap) (L : List Loc) : Prop := ∃ r : Addr, v = some (.ref r) ∧ Fr n0 L ∧ Keep h0 h [] ∧ n0 ≤ r ∧ h0.size ≤ r ∧ Exa Z h r "com/example/rank60/rank60/FusedHit$Contribution" ∧ Fld Z h r "com/example/rank60/rank60/FusedHit$Contribution" "input" "I" (.int xi1) ∧ Fld Z h r "com/example/rank60/rank60/FusedHit$Contribution" "rank" "I" (.int xk1) ∧ Fld Z h r "com/example/rank60/rank60/FusedHit$Contribution" "score" "D" (.double xs1) ∧ Fld Z h r "com/example/rank60/rank60/FusedHit$Contribution" "value" "D" (.double xv1)
set_option maxRecDepth 65536 in
set_option maxHeartbeats 40000000 in
theorem rm16_011 (l : Launch) (Z : State) (ag : Array Value) (hw : ∀ d ∈ tables_1, d.before ag Z = true) (ws : List Jvm.Cond) (a0 : Addr) (sz : Int32) (ae : Addr) (ai : Addr) (ak : Addr) (asx : Addr) (av : Addr) (ki : ClassId) (xi0 : Int32) (xi1 : Int32) (kk : ClassId) (xk0 : Int32) (xk1 : Int32) (ks : ClassId) (xs0 : UInt64) (xs1 : UInt64) (kv : ClassId) (xv0 : UInt64) (xv1 : UInt64) (h0 : Heap) (n0 : Nat) (Z0 : n0 ≤ h0.size) (E_a0 : Exa Z h0 a0 "com/example/rank60/rank60/FusedList$Explanations$DocumentContributions") (F_start_a0 : Fld Z h0 a0 "com/example/rank60/rank60/FusedList$Explanations$DocumentContributions" "start" "I" (.int (1 : Int32))) (F_size_a0 : Fld Z h0 a0 "com/example/rank60/rank60/FusedList$Explanations$DocumentContributions" "size" "I" (.int sz)) (F_this_0_a0 : Fld Z h0 a0 "com/example/rank60/rank60/FusedList$Explanations$DocumentContributions" "this$0" "Lcom/example/rank60/rank60/FusedList$Explanations;" (.ref ae)) (E_ae : Exa Z h0 ae "com/example/rank60/rank60/FusedList$Explanations") (F_inputs_ae : Fld Z h0 ae "com/example/rank60/rank60/FusedList$Explanations" "inputs" "[I" (.ref ai)) (F_ranks_ae : Fld Z h0 ae "com/example/rank60/rank60/FusedList$Explanations" "ranks" "[I" (.ref ak)) (F_scores_ae : Fld Z h0 ae "com/example/rank60/rank60/FusedList$Explanations" "scores" "[D" (.ref asx)) (F_values_ae : Fld Z h0 ae "com/example/rank60/rank60/FusedList$Explanations" "values" "[D" (.ref av)) (V_ai : Arv Z h0 ai ki .int (2 : Int32) [(.int xi0), (.int xi1)] (.int (0 : Int32))) (V_ak : Arv Z h0 ak kk .int (2 : Int32) [(.int xk0), (.int xk1)] (.int (0 : Int32))) (V_asx : Arv Z h0 asx ks .double (2 : Int32) [(.double xs0), (.double xs1)] (.double (FP.l2d 0))) (V_av : Arv Z h0 av kv .double (2 : Int32) [(.double xv0), (.double xv1)] (.double (FP.l2d 0))) (hsz : (0 : Int32) < sz) :
    MetFree l (⟨"com/example/rank60/rank60/FusedList$Explanations$DocumentContributions", "get", "(I)Lcom/example/rank60/rank60/FusedHit$Contribution;"⟩ : MethodName) (head1 (Jvm.Cond.code (⟨"com/example/rank60/rank60/FusedList$Explanations$DocumentContributions", "get", "(I)Lcom/example/rank60/rank60/FusedHit$Contribution;"⟩ : MethodName) prog_11_method_2_code 3 (some (.object "com/example/rank60/rank60/FusedHit$Contribution")) :: ws) ({ frames := 3, cells := 1, slots := 4, locals := 43 } : Room)) (fun a U => a = #[(.ref a0), (.int (0 : Int32))] ∧ Z.Warmed39 U.vm ∧ U.heap = h0) (fun _ _ _ _ _ => True) (fun _ U o U' => ∃ v L, o = .returned v ∧ Q16_011 Z a0 sz ae ai ak asx av ki xi0 xi1 kk xk0 xk1 ks xs0 xs1 kv xv0 xv1 h0 n0 v U'.heap L ∧ FrameEnd U o U' L ({ frames := 3, cells := 1, slots := 4, locals := 43 } : Room).cells ({ frames := 3, cells := 1, slots := 4, locals := 43 } : Room).slots) := by
  refine MetFree.of_bodySF (plainFor_of_name pn_4) hisR ?_
  intro p e s m args below meth c s₁ Bd hml0 hP hK
  obtain ⟨rfl, hZ, hh⟩ := hP
  have hx := Bd.exec
  have hby := Bd.bytes
  have hml : c.maxLocals = 3 := hml0
  have hown : s.vm.findClass "com/example/rank60/rank60/FusedList$Explanations$DocumentContributions" = some m.cls := findClass_of_methodNamed Bd.named
  have hnm := (name_of_methodNamed Bd.named Bd.method).1
  have X0 : Stand p l e ({ frames := 3, cells := 1, slots := 4, locals := 43 } : Room) s m #[(.ref a0), (.int (0 : Int32))] below meth c s₁ [] 0 0 := Stand.of_body Bd
  have e0 : s₁.heap = h0 := by rw [← hh, Bd.state]; rfl
  have N0 := Fr.nil n0
  have pre0 : ∀ t, Steps p.tables e below (s₁.setTop (mkF m 0 #[.val (.ref a0), .val (.int 0), .unset] [])) t → Steps p.tables e below (s₁.setTop (entryFrame m #[(.ref a0), (.int (0 : Int32))] 3)) t := fun t k => castTop (ef_16_v0 m a0) k
  obtain ⟨T1091, X1091, e1091, st1091⟩ := getF X0 hx hZ hown (host := "") (Or.inl (own_wk hw 100 rfl)) Via.refl e0 F_start_a0 (g := (mkF m 1 #[.val (.ref a0), .val (.int 0), .unset] [(.ref a0)])) rfl rfl (hb hby d16_1)
  obtain ⟨T1092, X1092, e1092, st1092⟩ := getF X1091 hx hZ hown (host := "") (Or.inl (own_wk hw 102 rfl)) Via.refl e1091 F_size_a0 (g := (mkF m 6 #[.val (.ref a0), .val (.int 0), .unset] [(.ref a0), .int 0, .int 1])) rfl rfl (hb hby d16_6)
  obtain ⟨_, _, ⟨T1093, L1093, k1093, n1093⟩, -, X1093, ⟨Lc1093, hQ1093, l1093, y1093, z1093⟩, st1093⟩ := Jvm.LawKit.callS X1092 hx (y := (⟨"java/util/Objects", "checkIndex", "(II)I"⟩ : MethodName)) hown (mvT hZ (own_wk hw 126 rfl)) (mvT hZ (own_wk hw 78 rfl)) (mvT hZ (own_wk hw 79 rfl)) (mvT hZ (own_wk hw 80 rfl)) (by decide) (backOf (W := 1) (rm10 l Z ag hw [] (0 : Int32) sz  h0 n0 Z0 (by decide) hsz) hZ (own_wk hw 80 rfl) (own_wk hw 79 rfl) (by decide) (by decide)) (g := (mkF m 9 #[.val (.ref a0), .val (.int 0), .unset] [(.int sz), .int 0, .int 1])) rfl (by rw [hml]; rfl) (argsL := [(.int (0 : Int32)), (.int sz)]) (rest := [(.int (1 : Int32))]) (lenOf pd_6 rfl) rfl (by show 2 * 0 + _ ≤ _; exact Nat.le_of_eq rfl) (hb hby d16_9) (fun _ _ => ⟨rfl, e1092, (by decide : 0 + 0 ≤ _), (by decide : 0 + 0 ≤ _)⟩)
  dsimp only [Pt.U, Pt.locs, Pt.cells, Pt.slots] at X1093 l1093 y1093 z1093 st1093 hQ1093
  subst l1093 y1093 z1093
  obtain ⟨rfl, N1093q, e1093⟩ := hQ1093
  have N1093 := Fr.app N0 N1093q
  obtain ⟨T1094, h1094, X1094, e1094, E1094, A1094, D1094, -, st1094⟩ := newO X1093 hx hZ hown (own_wk hw 127 rfl) (own_wk hw 128 rfl) (own_wk hw 129 rfl) e1093 (g := (mkF m 14 #[.val (.ref a0), .val (.int 0), .val (.int 1)] [])) rfl (hb hby d16_14) (by decide) (by decide)
  obtain ⟨b1094, g1094⟩ : ∃ z, z = h0.size := ⟨_, rfl⟩
  have ne1095 : a0 ≠ b1094 := Nat.ne_of_lt (Nat.lt_of_lt_of_le E_a0.lt (Nat.le_of_eq g1094.symm))
  have ne1096 : ae ≠ b1094 := Nat.ne_of_lt (Nat.lt_of_lt_of_le E_ae.lt (Nat.le_of_eq g1094.symm))
  have ne1097 : ai ≠ b1094 := Nat.ne_of_lt (Nat.lt_of_lt_of_le V_ai.lt (Nat.le_of_eq g1094.symm))
  have ne1098 : ak ≠ b1094 := Nat.ne_of_lt (Nat.lt_of_lt_of_le V_ak.lt (Nat.le_of_eq g1094.symm))
  have ne1099 : asx ≠ b1094 := Nat.ne_of_lt (Nat.lt_of_lt_of_le V_asx.lt (Nat.le_of_eq g1094.symm))
  have ne1100 : av ≠ b1094 := Nat.ne_of_lt (Nat.lt_of_lt_of_le V_av.lt (Nat.le_of_eq g1094.symm))
  have ge_b1094 : n0 ≤ b1094 := Nat.le_trans Z0 (Nat.le_of_eq g1094.symm)
  have gs_b1094 : h0.size ≤ b1094 := Nat.le_trans (Keep.refl h0 []).1 (Nat.le_of_eq g1094.symm)
  rw [← g1094] at A1094 D1094 st1094
  have x1101 := E_a0.ext E1094
  have x1102 := F_start_a0.ext E1094
  have x1103 := F_size_a0.ext E1094
  have x1104 := F_this_0_a0.ext E1094
  have x1105 := E_ae.ext E1094
  have x1106 := F_inputs_ae.ext E1094
  have x1107 := F_ranks_ae.ext E1094
  have x1108 := F_scores_ae.ext E1094
  have x1109 := F_values_ae.ext E1094
  have x1110 := V_ai.ext E1094
  have x1111 := V_ak.ext E1094
  have x1112 := V_asx.ext E1094
  have x1113 := V_av.ext E1094
  have sz1114 : n0 ≤ h1094.size := Nat.le_trans Z0 E1094.1
  have kp1115 : Keep h0 h1094 [] := (Keep.refl h0 []).ext E1094
  have F1094_input : Fld Z h1094 b1094 "com/example/rank60/rank60/FusedHit$Contribution" "input" "I" (.int (0 : Int32)) := D1094 (Or.inr (own_wk hw 144 rfl)) (ty := .int) (by decide)
  have F1094_rank : Fld Z h1094 b1094 "com/example/rank60/rank60/FusedHit$Contribution" "rank" "I" (.int (0 : Int32)) := D1094 (Or.inr (own_wk hw 146 rfl)) (ty := .int) (by decide)
  have F1094_score : Fld Z h1094 b1094 "com/example/rank60/rank60/FusedHit$Contribution" "score" "D" (.double (0 : UInt64)) := D1094 (Or.inr (own_wk hw 148 rfl)) (ty := .double) (by decide)
  have F1094_value : Fld Z h1094 b1094 "com/example/rank60/rank60/FusedHit$Contribution" "value" "D" (.double (0 : UInt64)) := D1094 (Or.inr (own_wk hw 150 rfl)) (ty := .double) (by decide)
  obtain ⟨T1116, X1116, e1116, st1116⟩ := getF X1094 hx hZ hown (host := "") (Or.inl (own_wk hw 95 rfl)) Via.refl e1094 x1104 (g := (mkF m 19 #[.val (.ref a0), .val (.int 0), .val (.int 1)] [(.ref a0), (.ref b1094), (.ref b1094)])) rfl rfl (hb hby d16_19)
  obtain ⟨T1117, X1117, e1117, st1117⟩ := getF X1116 hx hZ hown (Or.inr (own_wk hw 130 rfl)) Via.refl e1116 x1106 (g := (mkF m 22 #[.val (.ref a0), .val (.int 0), .val (.int 1)] [(.ref ae), (.ref b1094), (.ref b1094)])) rfl rfl (hb hby d16_22)
  obtain ⟨cl1118, Ar1118, q1118, S1118, M1118, H1118, G1118⟩ := id x1110
  have hin1118 : ¬ ((1 : Int32) < 0 ∨ cl1118.slots.size ≤ ((1 : Int32)).toNatClampNeg) := inb_of S1118 ⟨(by decide : ¬ (1 : Int32) < 0), (by decide : (1 : Int32) < (2 : Int32))⟩
  have hat1118 : cl1118.slots[((1 : Int32)).toNatClampNeg]? = some (.int xi1) := Has.at H1118 hin1118 rfl
  have ld1118 := X1117.iaload hx (j := (1 : Int32)) (v := (.int xi1)) (by rw [e1117]; exact Ar1118.1) (State.isArrayOf_alike hZ.alike Ar1118.2.1) Ar1118.2.2 hin1118 hat1118 (g := (mkF m 26 #[.val (.ref a0), .val (.int 0), .val (.int 1)] [.int 1, (.ref ai), (.ref b1094), (.ref b1094)])) rfl rfl (hb hby d16_26)
  obtain ⟨T1119, X1119, e1119, st1119⟩ := getF X1117 hx hZ hown (host := "") (Or.inl (own_wk hw 95 rfl)) Via.refl e1117 x1104 (g := (mkF m 28 #[.val (.ref a0), .val (.int 0), .val (.int 1)] [(.ref a0), (.int xi1), (.ref b1094), (.ref b1094)])) rfl rfl (hb hby d16_28)
  obtain ⟨T1120, X1120, e1120, st1120⟩ := getF X1119 hx hZ hown (Or.inr (own_wk hw 131 rfl)) Via.refl e1119 x1107 (g := (mkF m 31 #[.val (.ref a0), .val (.int 0), .val (.int 1)] [(.ref ae), (.int xi1), (.ref b1094), (.ref b1094)])) rfl rfl (hb hby d16_31)
  obtain ⟨cl1121, Ar1121, q1121, S1121, M1121, H1121, G1121⟩ := id x1111
  have hin1121 : ¬ ((1 : Int32) < 0 ∨ cl1121.slots.size ≤ ((1 : Int32)).toNatClampNeg) := inb_of S1121 ⟨(by decide : ¬ (1 : Int32) < 0), (by decide : (1 : Int32) < (2 : Int32))⟩
  have hat1121 : cl1121.slots[((1 : Int32)).toNatClampNeg]? = some (.int xk1) := Has.at H1121 hin1121 rfl
  have ld1121 := X1120.iaload hx (j := (1 : Int32)) (v := (.int xk1)) (by rw [e1120]; exact Ar1121.1) (State.isArrayOf_alike hZ.alike Ar1121.2.1) Ar1121.2.2 hin1121 hat1121 (g := (mkF m 35 #[.val (.ref a0), .val (.int 0), .val (.int 1)] [.int 1, (.ref ak), (.int xi1), (.ref b1094), (.ref b1094)])) rfl rfl (hb hby d16_35)
  obtain ⟨T1122, X1122, e1122, st1122⟩ := getF X1120 hx hZ hown (host := "") (Or.inl (own_wk hw 95 rfl)) Via.refl e1120 x1104 (g := (mkF m 37 #[.val (.ref a0), .val (.int 0), .val (.int 1)] [(.ref a0), (.int xk1), (.int xi1), (.ref b1094), (.ref b1094)])) rfl rfl (hb hby d16_37)
  obtain ⟨T1123, X1123, e1123, st1123⟩ := getF X1122 hx hZ hown (Or.inr (own_wk hw 132 rfl)) Via.refl e1122 x1108 (g := (mkF m 40 #[.val (.ref a0), .val (.int 0), .val (.int 1)] [(.ref ae), (.int xk1), (.int xi1), (.ref b1094), (.ref b1094)])) rfl rfl (hb hby d16_40)
  obtain ⟨T1124, X1124, e1124, st1124⟩ := getF X1123 hx hZ hown (host := "") (Or.inl (own_wk hw 95 rfl)) Via.refl e1123 x1104 (g := (mkF m 53 #[.val (.ref a0), .val (.int 0), .val (.int 1)] [(.ref a0), (.int xk1), (.int xi1), (.ref b1094), (.ref b1094)])) rfl rfl (hb hby d16_53)
  obtain ⟨T1125, X1125, e1125, st1125⟩ := getF X1124 hx hZ hown (Or.inr (own_wk hw 132 rfl)) Via.refl e1124 x1108 (g := (mkF m 56 #[.val (.ref a0), .val (.int 0), .val (.int 1)] [(.ref ae), (.int xk1), (.int xi1), (.ref b1094), (.ref b1094)])) rfl rfl (hb hby d16_56)
  obtain ⟨cl1126, Ar1126, q1126, S1126, M1126, H1126, G1126⟩ := id x1112
  have hin1126 : ¬ ((1 : Int32) < 0 ∨ cl1126.slots.size ≤ ((1 : Int32)).toNatClampNeg) := inb_of S1126 ⟨(by decide : ¬ (1 : Int32) < 0), (by decide : (1 : Int32) < (2 : Int32))⟩
  have hat1126 : cl1126.slots[((1 : Int32)).toNatClampNeg]? = some (.double xs1) := Has.at H1126 hin1126 rfl
  have ld1126 := X1125.daload hx (j := (1 : Int32)) (v := (.double xs1)) (by rw [e1125]; exact Ar1126.1) (State.isArrayOf_alike hZ.alike Ar1126.2.1) Ar1126.2.2 hin1126 hat1126 (g := (mkF m 60 #[.val (.ref a0), .val (.int 0), .val (.int 1)] [.int 1, (.ref asx), (.int xk1), (.int xi1), (.ref b1094), (.ref b1094)])) rfl rfl (hb hby d16_60)
  obtain ⟨T1127, X1127, e1127, st1127⟩ := getF X1125 hx hZ hown (host := "") (Or.inl (own_wk hw 95 rfl)) Via.refl e1125 x1104 (g := (mkF m 62 #[.val (.ref a0), .val (.int 0), .val (.int 1)] [(.ref a0), (.double xs1), (.int xk1), (.int xi1), (.ref b1094), (.ref b1094)])) rfl rfl (hb hby d16_62)
  obtain ⟨T1128, X1128, e1128, st1128⟩ := getF X1127 hx hZ hown (Or.inr (own_wk hw 133 rfl)) Via.refl e1127 x1109 (g := (mkF m 65 #[.val (.ref a0), .val (.int 0), .val (.int 1)] [(.ref ae), (.double xs1), (.int xk1), (.int xi1), (.ref b1094), (.ref b1094)])) rfl rfl (hb hby d16_65)
  obtain ⟨cl1129, Ar1129, q1129, S1129, M1129, H1129, G1129⟩ := id x1113
  have hin1129 : ¬ ((1 : Int32) < 0 ∨ cl1129.slots.size ≤ ((1 : Int32)).toNatClampNeg) := inb_of S1129 ⟨(by decide : ¬ (1 : Int32) < 0), (by decide : (1 : Int32) < (2 : Int32))⟩
  have hat1129 : cl1129.slots[((1 : Int32)).toNatClampNeg]? = some (.double xv1) := Has.at H1129 hin1129 rfl
  have ld1129 := X1128.daload hx (j := (1 : Int32)) (v := (.double xv1)) (by rw [e1128]; exact Ar1129.1) (State.isArrayOf_alike hZ.alike Ar1129.2.1) Ar1129.2.2 hin1129 hat1129 (g := (mkF m 69 #[.val (.ref a0), .val (.int 0), .val (.int 1)] [.int 1, (.ref av), (.double xs1), (.int xk1), (.int xi1), (.ref b1094), (.ref b1094)])) rfl rfl (hb hby d16_69)
  have cp1130 : ∀ target, own_S p e below T1128 (mkF m 70 #[.val (.ref a0), .val (.int 0), .val (.int 1)] [(.double xv1), (.double xs1), (.int xk1), (.int xi1), (.ref b1094), (.ref b1094)]) target → own_S p e below s₁ (mkF m 0 #[.val (.ref a0), .val (.int 0), .unset] []) target := by
    intro target kt
    show own_S p e below s₁ (mkF m 0 #[.val (.ref a0), .val (.int 0), .unset] []) _
    refine XS.aloadN X0.here hx rfl (hb hby d16_0) rfl rfl ?_
    show own_S p e below s₁ (mkF m 1 #[.val (.ref a0), .val (.int 0), .unset] [(.ref a0)]) _
    refine st1091 _ ?_
    show own_S p e below T1091 (mkF m 4 #[.val (.ref a0), .val (.int 0), .unset] [.int 1]) _
    refine XS.iloadN X1091.here hx rfl (hb hby d16_4) rfl ?_
    show own_S p e below T1091 (mkF m 5 #[.val (.ref a0), .val (.int 0), .unset] [.int 0, .int 1]) _
    refine XS.aloadN X1091.here hx rfl (hb hby d16_5) rfl rfl ?_
    show own_S p e below T1091 (mkF m 6 #[.val (.ref a0), .val (.int 0), .unset] [(.ref a0), .int 0, .int 1]) _
    refine st1092 _ ?_
    show own_S p e below T1092 (mkF m 9 #[.val (.ref a0), .val (.int 0), .unset] [(.int sz), .int 0, .int 1]) _
    refine st1093 _ ?_
    show own_S p e below T1093 (mkF m 12 #[.val (.ref a0), .val (.int 0), .unset] [.int 0, .int 1]) _
    refine XS.iadd X1093.here hx rfl (hb hby d16_12) rfl ?_
    show own_S p e below T1093 (mkF m 13 #[.val (.ref a0), .val (.int 0), .unset] [(.int ((1 : Int32) + (0 : Int32)))]) _
    rw [show ((1 : Int32) + (0 : Int32)) = (1 : Int32) from by decide]
    show own_S p e below T1093 (mkF m 13 #[.val (.ref a0), .val (.int 0), .unset] [.int 1]) _
    refine XS.istoreN X1093.here hx rfl (hb hby d16_13) rfl (l' := #[.val (.ref a0), .val (.int 0), .val (.int 1)]) rfl ?_
    show own_S p e below T1093 (mkF m 14 #[.val (.ref a0), .val (.int 0), .val (.int 1)] []) _
    refine st1094 _ ?_
    show own_S p e below T1094 (mkF m 17 #[.val (.ref a0), .val (.int 0), .val (.int 1)] [(.ref b1094)]) _
    refine XS.dup X1094.here hx rfl (hb hby d16_17) rfl rfl ?_
    show own_S p e below T1094 (mkF m 18 #[.val (.ref a0), .val (.int 0), .val (.int 1)] [(.ref b1094), (.ref b1094)]) _
    refine XS.aloadN X1094.here hx rfl (hb hby d16_18) rfl rfl ?_
    show own_S p e below T1094 (mkF m 19 #[.val (.ref a0), .val (.int 0), .val (.int 1)] [(.ref a0), (.ref b1094), (.ref b1094)]) _
    refine st1116 _ ?_
    show own_S p e below T1116 (mkF m 22 #[.val (.ref a0), .val (.int 0), .val (.int 1)] [(.ref ae), (.ref b1094), (.ref b1094)]) _
    refine st1117 _ ?_
    show own_S p e below T1117 (mkF m 25 #[.val (.ref a0), .val (.int 0), .val (.int 1)] [(.ref ai), (.ref b1094), (.ref b1094)]) _
    refine XS.iloadN X1117.here hx rfl (hb hby d16_25) rfl ?_
    show own_S p e below T1117 (mkF m 26 #[.val (.ref a0), .val (.int 0), .val (.int 1)] [.int 1, (.ref ai), (.ref b1094), (.ref b1094)]) _
    refine ld1118 _ ?_
    show own_S p e below T1117 (mkF m 27 #[.val (.ref a0), .val (.int 0), .val (.int 1)] [(.int xi1), (.ref b1094), (.ref b1094)]) _
    refine XS.aloadN X1117.here hx rfl (hb hby d16_27) rfl rfl ?_
    show own_S p e below T1117 (mkF m 28 #[.val (.ref a0), .val (.int 0), .val (.int 1)] [(.ref a0), (.int xi1), (.ref b1094), (.ref b1094)]) _
    refine st1119 _ ?_
    show own_S p e below T1119 (mkF m 31 #[.val (.ref a0), .val (.int 0), .val (.int 1)] [(.ref ae), (.int xi1), (.ref b1094), (.ref b1094)]) _
    refine st1120 _ ?_
    show own_S p e below T1120 (mkF m 34 #[.val (.ref a0), .val (.int 0), .val (.int 1)] [(.ref ak), (.int xi1), (.ref b1094), (.ref b1094)]) _
    refine XS.iloadN X1120.here hx rfl (hb hby d16_34) rfl ?_
    show own_S p e below T1120 (mkF m 35 #[.val (.ref a0), .val (.int 0), .val (.int 1)] [.int 1, (.ref ak), (.int xi1), (.ref b1094), (.ref b1094)]) _
    refine ld1121 _ ?_
    show own_S p e below T1120 (mkF m 36 #[.val (.ref a0), .val (.int 0), .val (.int 1)] [(.int xk1), (.int xi1), (.ref b1094), (.ref b1094)]) _
    refine XS.aloadN X1120.here hx rfl (hb hby d16_36) rfl rfl ?_
    show own_S p e below T1120 (mkF m 37 #[.val (.ref a0), .val (.int 0), .val (.int 1)] [(.ref a0), (.int xk1), (.int xi1), (.ref b1094), (.ref b1094)]) _
    refine st1122 _ ?_
    show own_S p e below T1122 (mkF m 40 #[.val (.ref a0), .val (.int 0), .val (.int 1)] [(.ref ae), (.int xk1), (.int xi1), (.ref b1094), (.ref b1094)]) _
    refine st1123 _ ?_
    show own_S p e below T1123 (mkF m 43 #[.val (.ref a0), .val (.int 0), .val (.int 1)] [(.ref asx), (.int xk1), (.int xi1), (.ref b1094), (.ref b1094)]) _
    refine XS.ifnonnullYes X1123.here hx rfl (pc0 := 43) (pc' := 52) rfl (hb hby d16_43) rfl (by decide) (by decide) ?_
    show own_S p e below T1123 (mkF m 52 #[.val (.ref a0), .val (.int 0), .val (.int 1)] [(.int xk1), (.int xi1), (.ref b1094), (.ref b1094)]) _
    refine XS.aloadN X1123.here hx rfl (hb hby d16_52) rfl rfl ?_
    show own_S p e below T1123 (mkF m 53 #[.val (.ref a0), .val (.int 0), .val (.int 1)] [(.ref a0), (.int xk1), (.int xi1), (.ref b1094), (.ref b1094)]) _
    refine st1124 _ ?_
    show own_S p e below T1124 (mkF m 56 #[.val (.ref a0), .val (.int 0), .val (.int 1)] [(.ref ae), (.int xk1), (.int xi1), (.ref b1094), (.ref b1094)]) _
    refine st1125 _ ?_
    show own_S p e below T1125 (mkF m 59 #[.val (.ref a0), .val (.int 0), .val (.int 1)] [(.ref asx), (.int xk1), (.int xi1), (.ref b1094), (.ref b1094)]) _
    refine XS.iloadN X1125.here hx rfl (hb hby d16_59) rfl ?_
    show own_S p e below T1125 (mkF m 60 #[.val (.ref a0), .val (.int 0), .val (.int 1)] [.int 1, (.ref asx), (.int xk1), (.int xi1), (.ref b1094), (.ref b1094)]) _
    refine ld1126 _ ?_
    show own_S p e below T1125 (mkF m 61 #[.val (.ref a0), .val (.int 0), .val (.int 1)] [(.double xs1), (.int xk1), (.int xi1), (.ref b1094), (.ref b1094)]) _
    refine XS.aloadN X1125.here hx rfl (hb hby d16_61) rfl rfl ?_
    show own_S p e below T1125 (mkF m 62 #[.val (.ref a0), .val (.int 0), .val (.int 1)] [(.ref a0), (.double xs1), (.int xk1), (.int xi1), (.ref b1094), (.ref b1094)]) _
    refine st1127 _ ?_
    show own_S p e below T1127 (mkF m 65 #[.val (.ref a0), .val (.int 0), .val (.int 1)] [(.ref ae), (.double xs1), (.int xk1), (.int xi1), (.ref b1094), (.ref b1094)]) _
    refine st1128 _ ?_
    show own_S p e below T1128 (mkF m 68 #[.val (.ref a0), .val (.int 0), .val (.int 1)] [(.ref av), (.double xs1), (.int xk1), (.int xi1), (.ref b1094), (.ref b1094)]) _
    refine XS.iloadN X1128.here hx rfl (hb hby d16_68) rfl ?_
    show own_S p e below T1128 (mkF m 69 #[.val (.ref a0), .val (.int 0), .val (.int 1)] [.int 1, (.ref av), (.double xs1), (.int xk1), (.int xi1), (.ref b1094), (.ref b1094)]) _
    refine ld1129 _ ?_
    exact kt
  obtain ⟨_, _, ⟨T1131, L1131, k1131, n1131⟩, -, X1131, ⟨Lc1131, hQ1131, l1131, y1131, z1131⟩, st1131⟩ := X1128.specialBack hx (y := (⟨"com/example/rank60/rank60/FusedHit$Contribution", "<init>", "(IIDD)V"⟩ : MethodName)) rfl hown (mvT hZ (own_wk hw 134 rfl)) (mvT hZ (own_wk hw 135 rfl)) (mvT hZ (own_wk hw 136 rfl)) (by decide) (backOf (W := 1) (rm17 l Z ag hw [] b1094 xi1 xk1 xs1 xv1  h1094 n0 sz1114 A1094 F1094_input F1094_rank F1094_score F1094_value ge_b1094) hZ (own_wk hw 136 rfl) (own_wk hw 129 rfl) (by decide) (by decide)) (g := (mkF m 70 #[.val (.ref a0), .val (.int 0), .val (.int 1)] [(.double xv1), (.double xs1), (.int xk1), (.int xi1), (.ref b1094), (.ref b1094)])) rfl (by rw [hml]; rfl) (Steps.refl _) (a := b1094) (argsL := [(.int xi1), (.int xk1), (.double xs1), (.double xv1)]) (rest := [(.ref b1094)]) (lenOf pd_7 rfl) rfl (by show 2 * 0 + _ ≤ _; exact Nat.le_of_eq rfl) (hb hby d16_70) (fun _ _ => ⟨rfl, e1128, (by decide : 1 + 0 ≤ _), (by decide : 4 + 0 ≤ _)⟩)
  dsimp only [Pt.U, Pt.locs, Pt.cells, Pt.slots] at X1131 l1131 y1131 z1131 st1131 hQ1131
  subst l1131 y1131 z1131
  obtain ⟨rfl, N1131q, K1131, o1131_0, o1131_1, o1131_2, o1131_3⟩ := hQ1131
  have N1131 := Fr.app N1093 N1131q
  have x1132 := x1101.keep K1131
  have x1133 := x1102.keep K1131 (ninS ne1095 nin0)
  have x1134 := x1103.keep K1131 (ninS ne1095 nin0)
  have x1135 := x1104.keep K1131 (ninS ne1095 nin0)
  have x1136 := x1105.keep K1131
  have x1137 := x1106.keep K1131 (ninS ne1096 nin0)
  have x1138 := x1107.keep K1131 (ninS ne1096 nin0)
  have x1139 := x1108.keep K1131 (ninS ne1096 nin0)
  have x1140 := x1109.keep K1131 (ninS ne1096 nin0)
  have x1141 := x1110.keep K1131 (ninS ne1097 nin0)
  have x1142 := x1111.keep K1131 (ninS ne1098 nin0)
  have x1143 := x1112.keep K1131 (ninS ne1099 nin0)
  have x1144 := x1113.keep K1131 (ninS ne1100 nin0)
  have x1145 := A1094.keep K1131
  have sz1146 : n0 ≤ T1131.heap.size := Nat.le_trans sz1114 K1131.1
  have kp1147 : Keep h0 T1131.heap [] := kp1115.trans K1131 (allS (Or.inr gs_b1094) all0)
  obtain ⟨fs, hr, hrun, hended, hW, hsame⟩ := X1131.leave (v := some (.ref b1094)) (fun h => by rw [Bd.returns] at h; cases h)
  refine ⟨_, _, pre0 _ ?_, hrun, hended, _, _, rfl, ?_, ⟨_, rfl⟩, hW, hsame.mono (by decide) (by decide)⟩
  · show own_S p e below s₁ (mkF m 0 #[.val (.ref a0), .val (.int 0), .unset] []) _
    refine cp1130 _ ?_
    show own_S p e below T1128 (mkF m 70 #[.val (.ref a0), .val (.int 0), .val (.int 1)] [(.double xv1), (.double xs1), (.int xk1), (.int xi1), (.ref b1094), (.ref b1094)]) _
    refine st1131.trans ?_
    show own_S p e below T1131 (mkF m 73 #[.val (.ref a0), .val (.int 0), .val (.int 1)] [(.ref b1094)]) _
    exact Jvm.RoadKit.retOut X1131 hx Bd.returns rfl (Or.inr (Or.inr (Or.inr (Or.inr ⟨rfl, rfl, rfl⟩)))) (hb hby d16_73) hr
  · show Q16_011 Z a0 sz ae ai ak asx av ki xi0 xi1 kk xk0 xk1 ks xs0 xs1 kv xv0 xv1 h0 n0 _ T1131.heap _
    exact ⟨b1094, rfl, N1131, kp1147, ge_b1094, gs_b1094, x1145, o1131_0, o1131_1, o1131_2, o1131_3⟩
theorem ef_15_v0 (m : MethodId) (a0 : Addr) : entryFrame m #[(.ref a0), (.int (0 : Int32))] 2 = mkF m 0 #[.val (.ref a0), .val (.int 0)] [] := by first | (simp [entryFrame, mkF, argsToLocals, Value.category]; done) | rfl
theorem d15_0 : decode prog_11_method_4_code 0 = .ok (.aload_n 0, 1) := by decide +kernel
theorem d15_1 : decode prog_11_method_4_code 1 = .ok (.iload_n 1, 1) := by decide +kernel
theorem pd_3 : parseMethodDescriptor "(I)Lcom/example/rank60/rank60/FusedHit$Contribution;" = some ⟨[.int], some (.object "com/example/rank60/rank60/FusedHit$Contribution")⟩ := by decide +kernel
theorem d15_2 : decode prog_11_method_4_code 2 = .ok (.invokevirtual 51, 3) := by decide +kernel
theorem d15_5 : decode prog_11_method_4_code 5 = .ok (.areturn, 1) := by decide +kernel
def Q15_000 (Z : State) (a0 : Addr) (sz : Int32) (ae : Addr) (ai : Addr) (ak : Addr) (av : Addr) (ki : ClassId) (xi0 : Int32) (xi1 : Int32) (kk : ClassId) (xk0 : Int32) (xk1 : Int32) (kv : ClassId) (xv0 : UInt64) (xv1 : UInt64) (h0 : Heap) (n0 : Nat) (v : Option Value) (h : Heap) (L : List Loc) : Prop := ∃ r : Addr, v = some (.ref r) ∧ Fr n0 L ∧ Keep h0 h [] ∧ n0 ≤ r ∧ h0.size ≤ r ∧ Exa Z h r "com/example/rank60/rank60/FusedHit$Contribution" ∧ Fld Z h r "com/example/rank60/rank60/FusedHit$Contribution" "input" "I" (.int xi0) ∧ Fld Z h r "com/example/rank60/rank60/FusedHit$Contribution" "rank" "I" (.int xk0) ∧ Fld Z h r "com/example/rank60/rank60/FusedHit$Contribution" "score" "D" (.double (9221120237041090560 : UInt64)) ∧ Fld Z h r "com/example/rank60/rank60/FusedHit$Contribution" "value" "D" (.double xv0)
set_option maxRecDepth 65536 in
set_option maxHeartbeats 40000000 in
theorem rm15_000 (l : Launch) (Z : State) (ag : Array Value) (hw : ∀ d ∈ tables_1, d.before ag Z = true) (ws : List Jvm.Cond) (a0 : Addr) (sz : Int32) (ae : Addr) (ai : Addr) (ak : Addr) (av : Addr) (ki : ClassId) (xi0 : Int32) (xi1 : Int32) (kk : ClassId) (xk0 : Int32) (xk1 : Int32) (kv : ClassId) (xv0 : UInt64) (xv1 : UInt64) (h0 : Heap) (n0 : Nat) (Z0 : n0 ≤ h0.size) (E_a0 : Exa Z h0 a0 "com/example/rank60/rank60/FusedList$Explanations$DocumentContributions") (F_start_a0 : Fld Z h0 a0 "com/example/rank60/rank60/FusedList$Explanations$DocumentContributions" "start" "I" (.int (0 : Int32))) (F_size_a0 : Fld Z h0 a0 "com/example/rank60/rank60/FusedList$Explanations$DocumentContributions" "size" "I" (.int sz)) (F_this_0_a0 : Fld Z h0 a0 "com/example/rank60/rank60/FusedList$Explanations$DocumentContributions" "this$0" "Lcom/example/rank60/rank60/FusedList$Explanations;" (.ref ae)) (E_ae : Exa Z h0 ae "com/example/rank60/rank60/FusedList$Explanations") (F_inputs_ae : Fld Z h0 ae "com/example/rank60/rank60/FusedList$Explanations" "inputs" "[I" (.ref ai)) (F_ranks_ae : Fld Z h0 ae "com/example/rank60/rank60/FusedList$Explanations" "ranks" "[I" (.ref ak)) (F_scores_ae : Fld Z h0 ae "com/example/rank60/rank60/FusedList$Explanations" "scores" "[D" .null) (F_values_ae : Fld Z h0 ae "com/example/rank60/rank60/FusedList$Explanations" "values" "[D" (.ref av)) (V_ai : Arv Z h0 ai ki .int (2 : Int32) [(.int xi0), (.int xi1)] (.int (0 : Int32))) (V_ak : Arv Z h0 ak kk .int (2 : Int32) [(.int xk0), (.int xk1)] (.int (0 : Int32))) (V_av : Arv Z h0 av kv .double (2 : Int32) [(.double xv0), (.double xv1)] (.double (FP.l2d 0))) (hsz : (0 : Int32) < sz) :
    MetFree l (⟨"com/example/rank60/rank60/FusedList$Explanations$DocumentContributions", "get", "(I)Ljava/lang/Object;"⟩ : MethodName) (head1 (Jvm.Cond.code (⟨"com/example/rank60/rank60/FusedList$Explanations$DocumentContributions", "get", "(I)Ljava/lang/Object;"⟩ : MethodName) prog_11_method_4_code 2 (some (.object "java/lang/Object")) :: ws) ({ frames := 4, cells := 1, slots := 4, locals := 57 } : Room)) (fun a U => a = #[(.ref a0), (.int (0 : Int32))] ∧ Z.Warmed39 U.vm ∧ U.heap = h0) (fun _ _ _ _ _ => True) (fun _ U o U' => ∃ v L, o = .returned v ∧ Q15_000 Z a0 sz ae ai ak av ki xi0 xi1 kk xk0 xk1 kv xv0 xv1 h0 n0 v U'.heap L ∧ FrameEnd U o U' L ({ frames := 4, cells := 1, slots := 4, locals := 57 } : Room).cells ({ frames := 4, cells := 1, slots := 4, locals := 57 } : Room).slots) := by
  refine MetFree.of_bodySF (plainFor_of_name pn_4) hisR ?_
  intro p e s m args below meth c s₁ Bd hml0 hP hK
  obtain ⟨rfl, hZ, hh⟩ := hP
  have hx := Bd.exec
  have hby := Bd.bytes
  have hml : c.maxLocals = 2 := hml0
  have hown : s.vm.findClass "com/example/rank60/rank60/FusedList$Explanations$DocumentContributions" = some m.cls := findClass_of_methodNamed Bd.named
  have hnm := (name_of_methodNamed Bd.named Bd.method).1
  have X0 : Stand p l e ({ frames := 4, cells := 1, slots := 4, locals := 57 } : Room) s m #[(.ref a0), (.int (0 : Int32))] below meth c s₁ [] 0 0 := Stand.of_body Bd
  have e0 : s₁.heap = h0 := by rw [← hh, Bd.state]; rfl
  have N0 := Fr.nil n0
  have pre0 : ∀ t, Steps p.tables e below (s₁.setTop (mkF m 0 #[.val (.ref a0), .val (.int 0)] [])) t → Steps p.tables e below (s₁.setTop (entryFrame m #[(.ref a0), (.int (0 : Int32))] 2)) t := fun t k => castTop (ef_15_v0 m a0) k
  obtain ⟨cq1148, kq1148, q1148a, q1148b, q1148c⟩ := isOf hZ e0 E_a0
  obtain ⟨_, _, ⟨T1148, L1148, k1148, n1148⟩, -, X1148, ⟨Lc1148, hQ1148, l1148, y1148, z1148⟩, st1148⟩ := X0.virtualBack hx (y := (⟨"com/example/rank60/rank60/FusedList$Explanations$DocumentContributions", "get", "(I)Lcom/example/rank60/rank60/FusedHit$Contribution;"⟩ : MethodName)) (z := (⟨"com/example/rank60/rank60/FusedList$Explanations$DocumentContributions", "get", "(I)Lcom/example/rank60/rank60/FusedHit$Contribution;"⟩ : MethodName)) hown (mvT hZ (own_wk hw 121 rfl)) (mvT hZ (own_wk hw 122 rfl)) (notFace_of_selects (args := #[]) (mvT hZ (own_wk hw 124 rfl))) (mvT hZ (own_wk hw 124 rfl)) (mvT hZ (own_wk hw 123 rfl)) (by decide) (backOf (W := 0) (rm16_000 l Z ag hw [] a0 sz ae ai ak av ki xi0 xi1 kk xk0 xk1 kv xv0 xv1 h0 n0 Z0 E_a0 F_start_a0 F_size_a0 F_this_0_a0 E_ae F_inputs_ae F_ranks_ae F_scores_ae F_values_ae V_ai V_ak V_av hsz) hZ (own_wk hw 125 rfl) (own_wk hw 91 rfl) (by decide) (by decide)) q1148a q1148c (g := (mkF m 2 #[.val (.ref a0), .val (.int 0)] [.int 0, (.ref a0)])) rfl (by rw [hml]; rfl) (Steps.refl _) (argsL := [(.int (0 : Int32))]) (rest := []) (lenOf pd_3 rfl) rfl (by show 2 * 0 + _ ≤ _; exact Nat.le_of_eq rfl) (hb hby d15_2) (fun _ _ => ⟨rfl, e0, (by decide : 0 + 1 ≤ _), (by decide : 0 + 4 ≤ _)⟩)
  dsimp only [Pt.U, Pt.locs, Pt.cells, Pt.slots] at X1148 l1148 y1148 z1148 st1148 hQ1148
  subst l1148 y1148 z1148
  obtain ⟨r1148, rfl, N1148q, K1148, ge_r1148, gq_r1148, o1148_0, o1148_1, o1148_2, o1148_3, o1148_4⟩ := hQ1148
  have N1148 := Fr.app N0 N1148q
  have gs_r1148 : h0.size ≤ r1148 := Nat.le_trans (Keep.refl h0 []).1 gq_r1148
  have x1149 := E_a0.keep K1148
  have x1150 := F_start_a0.keep K1148 nin0
  have x1151 := F_size_a0.keep K1148 nin0
  have x1152 := F_this_0_a0.keep K1148 nin0
  have x1153 := E_ae.keep K1148
  have x1154 := F_inputs_ae.keep K1148 nin0
  have x1155 := F_ranks_ae.keep K1148 nin0
  have x1156 := F_scores_ae.keep K1148 nin0
  have x1157 := F_values_ae.keep K1148 nin0
  have x1158 := V_ai.keep K1148 nin0
  have x1159 := V_ak.keep K1148 nin0
  have x1160 := V_av.keep K1148 nin0
  have sz1161 : n0 ≤ T1148.heap.size := Nat.le_trans Z0 K1148.1
  have kp1162 : Keep h0 T1148.heap [] := (Keep.refl h0 []).trans K1148 all0
  obtain ⟨fs, hr, hrun, hended, hW, hsame⟩ := X1148.leave (v := some (.ref r1148)) (fun h => by rw [Bd.returns] at h; cases h)
  refine ⟨_, _, pre0 _ ?_, hrun, hended, _, _, rfl, ?_, ⟨_, rfl⟩, hW, hsame.mono (by decide) (by decide)⟩
  · show own_S p e below s₁ (mkF m 0 #[.val (.ref a0), .val (.int 0)] []) _
    refine XS.aloadN X0.here hx rfl (hb hby d15_0) rfl rfl ?_
    show own_S p e below s₁ (mkF m 1 #[.val (.ref a0), .val (.int 0)] [(.ref a0)]) _
    refine XS.iloadN X0.here hx rfl (hb hby d15_1) rfl ?_
    show own_S p e below s₁ (mkF m 2 #[.val (.ref a0), .val (.int 0)] [.int 0, (.ref a0)]) _
    refine st1148.trans ?_
    show own_S p e below T1148 (mkF m 5 #[.val (.ref a0), .val (.int 0)] [(.ref r1148)]) _
    exact Jvm.RoadKit.retOut X1148 hx Bd.returns rfl (Or.inr (Or.inr (Or.inr (Or.inr ⟨rfl, rfl, rfl⟩)))) (hb hby d15_5) hr
  · show Q15_000 Z a0 sz ae ai ak av ki xi0 xi1 kk xk0 xk1 kv xv0 xv1 h0 n0 _ T1148.heap _
    exact ⟨r1148, rfl, N1148, kp1162, ge_r1148, gs_r1148, o1148_0, o1148_1, o1148_2, o1148_3, o1148_4⟩
def Q15_001 (Z : State) (a0 : Addr) (sz : Int32) (ae : Addr) (ai : Addr) (ak : Addr) (asx : Addr) (av : Addr) (ki : ClassId) (xi0 : Int32) (xi1 : Int32) (kk : ClassId) (xk0 : Int32) (xk1 : Int32) (ks : ClassId) (xs0 : UInt64) (xs1 : UInt64) (kv : ClassId) (xv0 : UInt64) (xv1 : UInt64) (h0 : Heap) (n0 : Nat) (v : Option Value) (h : Heap) (L : List Loc) : Prop := ∃ r : Addr, v = some (.ref r) ∧ Fr n0 L ∧ Keep h0 h [] ∧ n0 ≤ r ∧ h0.size ≤ r ∧ Exa Z h r "com/example/rank60/rank60/FusedHit$Contribution" ∧ Fld Z h r "com/example/rank60/rank60/FusedHit$Contribution" "input" "I" (.int xi0) ∧ Fld Z h r "com/example/rank60/rank60/FusedHit$Contribution" "rank" "I" (.int xk0) ∧ Fld Z h r "com/example/rank60/rank60/FusedHit$Contribution" "score" "D" (.double xs0) ∧ Fld Z h r "com/example/rank60/rank60/FusedHit$Contribution" "value" "D" (.double xv0)
set_option maxRecDepth 65536 in
set_option maxHeartbeats 40000000 in
theorem rm15_001 (l : Launch) (Z : State) (ag : Array Value) (hw : ∀ d ∈ tables_1, d.before ag Z = true) (ws : List Jvm.Cond) (a0 : Addr) (sz : Int32) (ae : Addr) (ai : Addr) (ak : Addr) (asx : Addr) (av : Addr) (ki : ClassId) (xi0 : Int32) (xi1 : Int32) (kk : ClassId) (xk0 : Int32) (xk1 : Int32) (ks : ClassId) (xs0 : UInt64) (xs1 : UInt64) (kv : ClassId) (xv0 : UInt64) (xv1 : UInt64) (h0 : Heap) (n0 : Nat) (Z0 : n0 ≤ h0.size) (E_a0 : Exa Z h0 a0 "com/example/rank60/rank60/FusedList$Explanations$DocumentContributions") (F_start_a0 : Fld Z h0 a0 "com/example/rank60/rank60/FusedList$Explanations$DocumentContributions" "start" "I" (.int (0 : Int32))) (F_size_a0 : Fld Z h0 a0 "com/example/rank60/rank60/FusedList$Explanations$DocumentContributions" "size" "I" (.int sz)) (F_this_0_a0 : Fld Z h0 a0 "com/example/rank60/rank60/FusedList$Explanations$DocumentContributions" "this$0" "Lcom/example/rank60/rank60/FusedList$Explanations;" (.ref ae)) (E_ae : Exa Z h0 ae "com/example/rank60/rank60/FusedList$Explanations") (F_inputs_ae : Fld Z h0 ae "com/example/rank60/rank60/FusedList$Explanations" "inputs" "[I" (.ref ai)) (F_ranks_ae : Fld Z h0 ae "com/example/rank60/rank60/FusedList$Explanations" "ranks" "[I" (.ref ak)) (F_scores_ae : Fld Z h0 ae "com/example/rank60/rank60/FusedList$Explanations" "scores" "[D" (.ref asx)) (F_values_ae : Fld Z h0 ae "com/example/rank60/rank60/FusedList$Explanations" "values" "[D" (.ref av)) (V_ai : Arv Z h0 ai ki .int (2 : Int32) [(.int xi0), (.int xi1)] (.int (0 : Int32))) (V_ak : Arv Z h0 ak kk .int (2 : Int32) [(.int xk0), (.int xk1)] (.int (0 : Int32))) (V_asx : Arv Z h0 asx ks .double (2 : Int32) [(.double xs0), (.double xs1)] (.double (FP.l2d 0))) (V_av : Arv Z h0 av kv .double (2 : Int32) [(.double xv0), (.double xv1)] (.double (FP.l2d 0))) (hsz : (0 : Int32) < sz) :
    MetFree l (⟨"com/example/rank60/rank60/FusedList$Explanations$DocumentContributions", "get", "(I)Ljava/lang/Object;"⟩ : MethodName) (head1 (Jvm.Cond.code (⟨"com/example/rank60/rank60/FusedList$Explanations$DocumentContributions", "get", "(I)Ljava/lang/Object;"⟩ : MethodName) prog_11_method_4_code 2 (some (.object "java/lang/Object")) :: ws) ({ frames := 4, cells := 1, slots := 4, locals := 57 } : Room)) (fun a U => a = #[(.ref a0), (.int (0 : Int32))] ∧ Z.Warmed39 U.vm ∧ U.heap = h0) (fun _ _ _ _ _ => True) (fun _ U o U' => ∃ v L, o = .returned v ∧ Q15_001 Z a0 sz ae ai ak asx av ki xi0 xi1 kk xk0 xk1 ks xs0 xs1 kv xv0 xv1 h0 n0 v U'.heap L ∧ FrameEnd U o U' L ({ frames := 4, cells := 1, slots := 4, locals := 57 } : Room).cells ({ frames := 4, cells := 1, slots := 4, locals := 57 } : Room).slots) := by
  refine MetFree.of_bodySF (plainFor_of_name pn_4) hisR ?_
  intro p e s m args below meth c s₁ Bd hml0 hP hK
  obtain ⟨rfl, hZ, hh⟩ := hP
  have hx := Bd.exec
  have hby := Bd.bytes
  have hml : c.maxLocals = 2 := hml0
  have hown : s.vm.findClass "com/example/rank60/rank60/FusedList$Explanations$DocumentContributions" = some m.cls := findClass_of_methodNamed Bd.named
  have hnm := (name_of_methodNamed Bd.named Bd.method).1
  have X0 : Stand p l e ({ frames := 4, cells := 1, slots := 4, locals := 57 } : Room) s m #[(.ref a0), (.int (0 : Int32))] below meth c s₁ [] 0 0 := Stand.of_body Bd
  have e0 : s₁.heap = h0 := by rw [← hh, Bd.state]; rfl
  have N0 := Fr.nil n0
  have pre0 : ∀ t, Steps p.tables e below (s₁.setTop (mkF m 0 #[.val (.ref a0), .val (.int 0)] [])) t → Steps p.tables e below (s₁.setTop (entryFrame m #[(.ref a0), (.int (0 : Int32))] 2)) t := fun t k => castTop (ef_15_v0 m a0) k
  obtain ⟨cq1163, kq1163, q1163a, q1163b, q1163c⟩ := isOf hZ e0 E_a0
  obtain ⟨_, _, ⟨T1163, L1163, k1163, n1163⟩, -, X1163, ⟨Lc1163, hQ1163, l1163, y1163, z1163⟩, st1163⟩ := X0.virtualBack hx (y := (⟨"com/example/rank60/rank60/FusedList$Explanations$DocumentContributions", "get", "(I)Lcom/example/rank60/rank60/FusedHit$Contribution;"⟩ : MethodName)) (z := (⟨"com/example/rank60/rank60/FusedList$Explanations$DocumentContributions", "get", "(I)Lcom/example/rank60/rank60/FusedHit$Contribution;"⟩ : MethodName)) hown (mvT hZ (own_wk hw 121 rfl)) (mvT hZ (own_wk hw 122 rfl)) (notFace_of_selects (args := #[]) (mvT hZ (own_wk hw 124 rfl))) (mvT hZ (own_wk hw 124 rfl)) (mvT hZ (own_wk hw 123 rfl)) (by decide) (backOf (W := 0) (rm16_001 l Z ag hw [] a0 sz ae ai ak asx av ki xi0 xi1 kk xk0 xk1 ks xs0 xs1 kv xv0 xv1 h0 n0 Z0 E_a0 F_start_a0 F_size_a0 F_this_0_a0 E_ae F_inputs_ae F_ranks_ae F_scores_ae F_values_ae V_ai V_ak V_asx V_av hsz) hZ (own_wk hw 125 rfl) (own_wk hw 91 rfl) (by decide) (by decide)) q1163a q1163c (g := (mkF m 2 #[.val (.ref a0), .val (.int 0)] [.int 0, (.ref a0)])) rfl (by rw [hml]; rfl) (Steps.refl _) (argsL := [(.int (0 : Int32))]) (rest := []) (lenOf pd_3 rfl) rfl (by show 2 * 0 + _ ≤ _; exact Nat.le_of_eq rfl) (hb hby d15_2) (fun _ _ => ⟨rfl, e0, (by decide : 0 + 1 ≤ _), (by decide : 0 + 4 ≤ _)⟩)
  dsimp only [Pt.U, Pt.locs, Pt.cells, Pt.slots] at X1163 l1163 y1163 z1163 st1163 hQ1163
  subst l1163 y1163 z1163
  obtain ⟨r1163, rfl, N1163q, K1163, ge_r1163, gq_r1163, o1163_0, o1163_1, o1163_2, o1163_3, o1163_4⟩ := hQ1163
  have N1163 := Fr.app N0 N1163q
  have gs_r1163 : h0.size ≤ r1163 := Nat.le_trans (Keep.refl h0 []).1 gq_r1163
  have x1164 := E_a0.keep K1163
  have x1165 := F_start_a0.keep K1163 nin0
  have x1166 := F_size_a0.keep K1163 nin0
  have x1167 := F_this_0_a0.keep K1163 nin0
  have x1168 := E_ae.keep K1163
  have x1169 := F_inputs_ae.keep K1163 nin0
  have x1170 := F_ranks_ae.keep K1163 nin0
  have x1171 := F_scores_ae.keep K1163 nin0
  have x1172 := F_values_ae.keep K1163 nin0
  have x1173 := V_ai.keep K1163 nin0
  have x1174 := V_ak.keep K1163 nin0
  have x1175 := V_asx.keep K1163 nin0
  have x1176 := V_av.keep K1163 nin0
  have sz1177 : n0 ≤ T1163.heap.size := Nat.le_trans Z0 K1163.1
  have kp1178 : Keep h0 T1163.heap [] := (Keep.refl h0 []).trans K1163 all0
  obtain ⟨fs, hr, hrun, hended, hW, hsame⟩ := X1163.leave (v := some (.ref r1163)) (fun h => by rw [Bd.returns] at h; cases h)
  refine ⟨_, _, pre0 _ ?_, hrun, hended, _, _, rfl, ?_, ⟨_, rfl⟩, hW, hsame.mono (by decide) (by decide)⟩
  · show own_S p e below s₁ (mkF m 0 #[.val (.ref a0), .val (.int 0)] []) _
    refine XS.aloadN X0.here hx rfl (hb hby d15_0) rfl rfl ?_
    show own_S p e below s₁ (mkF m 1 #[.val (.ref a0), .val (.int 0)] [(.ref a0)]) _
    refine XS.iloadN X0.here hx rfl (hb hby d15_1) rfl ?_
    show own_S p e below s₁ (mkF m 2 #[.val (.ref a0), .val (.int 0)] [.int 0, (.ref a0)]) _
    refine st1163.trans ?_
    show own_S p e below T1163 (mkF m 5 #[.val (.ref a0), .val (.int 0)] [(.ref r1163)]) _
    exact Jvm.RoadKit.retOut X1163 hx Bd.returns rfl (Or.inr (Or.inr (Or.inr (Or.inr ⟨rfl, rfl, rfl⟩)))) (hb hby d15_5) hr
  · show Q15_001 Z a0 sz ae ai ak asx av ki xi0 xi1 kk xk0 xk1 ks xs0 xs1 kv xv0 xv1 h0 n0 _ T1163.heap _
    exact ⟨r1163, rfl, N1163, kp1178, ge_r1163, gs_r1163, o1163_0, o1163_1, o1163_2, o1163_3, o1163_4⟩
theorem ef_15_v1 (m : MethodId) (a0 : Addr) : entryFrame m #[(.ref a0), (.int (1 : Int32))] 2 = mkF m 0 #[.val (.ref a0), .val (.int 1)] [] := by first | (simp [entryFrame, mkF, argsToLocals, Value.category]; done) | rfl
def Q15_100 (Z : State) (a0 : Addr) (sz : Int32) (ae : Addr) (ai : Addr) (ak : Addr) (av : Addr) (ki : ClassId) (xi0 : Int32) (xi1 : Int32) (kk : ClassId) (xk0 : Int32) (xk1 : Int32) (kv : ClassId) (xv0 : UInt64) (xv1 : UInt64) (h0 : Heap) (n0 : Nat) (v : Option Value) (h : Heap) (L : List Loc) : Prop := ∃ r : Addr, v = some (.ref r) ∧ Fr n0 L ∧ Keep h0 h [] ∧ n0 ≤ r ∧ h0.size ≤ r ∧ Exa Z h r "com/example/rank60/rank60/FusedHit$Contribution" ∧ Fld Z h r "com/example/rank60/rank60/FusedHit$Contribution" "input" "I" (.int xi1) ∧ Fld Z h r "com/example/rank60/rank60/FusedHit$Contribution" "rank" "I" (.int xk1) ∧ Fld Z h r "com/example/rank60/rank60/FusedHit$Contribution" "score" "D" (.double (9221120237041090560 : UInt64)) ∧ Fld Z h r "com/example/rank60/rank60/FusedHit$Contribution" "value" "D" (.double xv1)
set_option maxRecDepth 65536 in
set_option maxHeartbeats 40000000 in
theorem rm15_100 (l : Launch) (Z : State) (ag : Array Value) (hw : ∀ d ∈ tables_1, d.before ag Z = true) (ws : List Jvm.Cond) (a0 : Addr) (sz : Int32) (ae : Addr) (ai : Addr) (ak : Addr) (av : Addr) (ki : ClassId) (xi0 : Int32) (xi1 : Int32) (kk : ClassId) (xk0 : Int32) (xk1 : Int32) (kv : ClassId) (xv0 : UInt64) (xv1 : UInt64) (h0 : Heap) (n0 : Nat) (Z0 : n0 ≤ h0.size) (E_a0 : Exa Z h0 a0 "com/example/rank60/rank60/FusedList$Explanations$DocumentContributions") (F_start_a0 : Fld Z h0 a0 "com/example/rank60/rank60/FusedList$Explanations$DocumentContributions" "start" "I" (.int (0 : Int32))) (F_size_a0 : Fld Z h0 a0 "com/example/rank60/rank60/FusedList$Explanations$DocumentContributions" "size" "I" (.int sz)) (F_this_0_a0 : Fld Z h0 a0 "com/example/rank60/rank60/FusedList$Explanations$DocumentContributions" "this$0" "Lcom/example/rank60/rank60/FusedList$Explanations;" (.ref ae)) (E_ae : Exa Z h0 ae "com/example/rank60/rank60/FusedList$Explanations") (F_inputs_ae : Fld Z h0 ae "com/example/rank60/rank60/FusedList$Explanations" "inputs" "[I" (.ref ai)) (F_ranks_ae : Fld Z h0 ae "com/example/rank60/rank60/FusedList$Explanations" "ranks" "[I" (.ref ak)) (F_scores_ae : Fld Z h0 ae "com/example/rank60/rank60/FusedList$Explanations" "scores" "[D" .null) (F_values_ae : Fld Z h0 ae "com/example/rank60/rank60/FusedList$Explanations" "values" "[D" (.ref av)) (V_ai : Arv Z h0 ai ki .int (2 : Int32) [(.int xi0), (.int xi1)] (.int (0 : Int32))) (V_ak : Arv Z h0 ak kk .int (2 : Int32) [(.int xk0), (.int xk1)] (.int (0 : Int32))) (V_av : Arv Z h0 av kv .double (2 : Int32) [(.double xv0), (.double xv1)] (.double (FP.l2d 0))) (hsz : (1 : Int32) < sz) :
    MetFree l (⟨"com/example/rank60/rank60/FusedList$Explanations$DocumentContributions", "get", "(I)Ljava/lang/Object;"⟩ : MethodName) (head1 (Jvm.Cond.code (⟨"com/example/rank60/rank60/FusedList$Explanations$DocumentContributions", "get", "(I)Ljava/lang/Object;"⟩ : MethodName) prog_11_method_4_code 2 (some (.object "java/lang/Object")) :: ws) ({ frames := 4, cells := 1, slots := 4, locals := 57 } : Room)) (fun a U => a = #[(.ref a0), (.int (1 : Int32))] ∧ Z.Warmed39 U.vm ∧ U.heap = h0) (fun _ _ _ _ _ => True) (fun _ U o U' => ∃ v L, o = .returned v ∧ Q15_100 Z a0 sz ae ai ak av ki xi0 xi1 kk xk0 xk1 kv xv0 xv1 h0 n0 v U'.heap L ∧ FrameEnd U o U' L ({ frames := 4, cells := 1, slots := 4, locals := 57 } : Room).cells ({ frames := 4, cells := 1, slots := 4, locals := 57 } : Room).slots) := by
  refine MetFree.of_bodySF (plainFor_of_name pn_4) hisR ?_
  intro p e s m args below meth c s₁ Bd hml0 hP hK
  obtain ⟨rfl, hZ, hh⟩ := hP
  have hx := Bd.exec
  have hby := Bd.bytes
  have hml : c.maxLocals = 2 := hml0
  have hown : s.vm.findClass "com/example/rank60/rank60/FusedList$Explanations$DocumentContributions" = some m.cls := findClass_of_methodNamed Bd.named
  have hnm := (name_of_methodNamed Bd.named Bd.method).1
  have X0 : Stand p l e ({ frames := 4, cells := 1, slots := 4, locals := 57 } : Room) s m #[(.ref a0), (.int (1 : Int32))] below meth c s₁ [] 0 0 := Stand.of_body Bd
  have e0 : s₁.heap = h0 := by rw [← hh, Bd.state]; rfl
  have N0 := Fr.nil n0
  have pre0 : ∀ t, Steps p.tables e below (s₁.setTop (mkF m 0 #[.val (.ref a0), .val (.int 1)] [])) t → Steps p.tables e below (s₁.setTop (entryFrame m #[(.ref a0), (.int (1 : Int32))] 2)) t := fun t k => castTop (ef_15_v1 m a0) k
  obtain ⟨cq1179, kq1179, q1179a, q1179b, q1179c⟩ := isOf hZ e0 E_a0
  obtain ⟨_, _, ⟨T1179, L1179, k1179, n1179⟩, -, X1179, ⟨Lc1179, hQ1179, l1179, y1179, z1179⟩, st1179⟩ := X0.virtualBack hx (y := (⟨"com/example/rank60/rank60/FusedList$Explanations$DocumentContributions", "get", "(I)Lcom/example/rank60/rank60/FusedHit$Contribution;"⟩ : MethodName)) (z := (⟨"com/example/rank60/rank60/FusedList$Explanations$DocumentContributions", "get", "(I)Lcom/example/rank60/rank60/FusedHit$Contribution;"⟩ : MethodName)) hown (mvT hZ (own_wk hw 121 rfl)) (mvT hZ (own_wk hw 122 rfl)) (notFace_of_selects (args := #[]) (mvT hZ (own_wk hw 124 rfl))) (mvT hZ (own_wk hw 124 rfl)) (mvT hZ (own_wk hw 123 rfl)) (by decide) (backOf (W := 0) (rm16_100 l Z ag hw [] a0 sz ae ai ak av ki xi0 xi1 kk xk0 xk1 kv xv0 xv1 h0 n0 Z0 E_a0 F_start_a0 F_size_a0 F_this_0_a0 E_ae F_inputs_ae F_ranks_ae F_scores_ae F_values_ae V_ai V_ak V_av hsz) hZ (own_wk hw 125 rfl) (own_wk hw 91 rfl) (by decide) (by decide)) q1179a q1179c (g := (mkF m 2 #[.val (.ref a0), .val (.int 1)] [.int 1, (.ref a0)])) rfl (by rw [hml]; rfl) (Steps.refl _) (argsL := [(.int (1 : Int32))]) (rest := []) (lenOf pd_3 rfl) rfl (by show 2 * 0 + _ ≤ _; exact Nat.le_of_eq rfl) (hb hby d15_2) (fun _ _ => ⟨rfl, e0, (by decide : 0 + 1 ≤ _), (by decide : 0 + 4 ≤ _)⟩)
  dsimp only [Pt.U, Pt.locs, Pt.cells, Pt.slots] at X1179 l1179 y1179 z1179 st1179 hQ1179
  subst l1179 y1179 z1179
  obtain ⟨r1179, rfl, N1179q, K1179, ge_r1179, gq_r1179, o1179_0, o1179_1, o1179_2, o1179_3, o1179_4⟩ := hQ1179
  have N1179 := Fr.app N0 N1179q
  have gs_r1179 : h0.size ≤ r1179 := Nat.le_trans (Keep.refl h0 []).1 gq_r1179
  have x1180 := E_a0.keep K1179
  have x1181 := F_start_a0.keep K1179 nin0
  have x1182 := F_size_a0.keep K1179 nin0
  have x1183 := F_this_0_a0.keep K1179 nin0
  have x1184 := E_ae.keep K1179
  have x1185 := F_inputs_ae.keep K1179 nin0
  have x1186 := F_ranks_ae.keep K1179 nin0
  have x1187 := F_scores_ae.keep K1179 nin0
  have x1188 := F_values_ae.keep K1179 nin0
  have x1189 := V_ai.keep K1179 nin0
  have x1190 := V_ak.keep K1179 nin0
  have x1191 := V_av.keep K1179 nin0
  have sz1192 : n0 ≤ T1179.heap.size := Nat.le_trans Z0 K1179.1
  have kp1193 : Keep h0 T1179.heap [] := (Keep.refl h0 []).trans K1179 all0
  obtain ⟨fs, hr, hrun, hended, hW, hsame⟩ := X1179.leave (v := some (.ref r1179)) (fun h => by rw [Bd.returns] at h; cases h)
  refine ⟨_, _, pre0 _ ?_, hrun, hended, _, _, rfl, ?_, ⟨_, rfl⟩, hW, hsame.mono (by decide) (by decide)⟩
  · show own_S p e below s₁ (mkF m 0 #[.val (.ref a0), .val (.int 1)] []) _
    refine XS.aloadN X0.here hx rfl (hb hby d15_0) rfl rfl ?_
    show own_S p e below s₁ (mkF m 1 #[.val (.ref a0), .val (.int 1)] [(.ref a0)]) _
    refine XS.iloadN X0.here hx rfl (hb hby d15_1) rfl ?_
    show own_S p e below s₁ (mkF m 2 #[.val (.ref a0), .val (.int 1)] [.int 1, (.ref a0)]) _
    refine st1179.trans ?_
    show own_S p e below T1179 (mkF m 5 #[.val (.ref a0), .val (.int 1)] [(.ref r1179)]) _
    exact Jvm.RoadKit.retOut X1179 hx Bd.returns rfl (Or.inr (Or.inr (Or.inr (Or.inr ⟨rfl, rfl, rfl⟩)))) (hb hby d15_5) hr
  · show Q15_100 Z a0 sz ae ai ak av ki xi0 xi1 kk xk0 xk1 kv xv0 xv1 h0 n0 _ T1179.heap _
    exact ⟨r1179, rfl, N1179, kp1193, ge_r1179, gs_r1179, o1179_0, o1179_1, o1179_2, o1179_3, o1179_4⟩
def Q15_101 (Z : State) (a0 : Addr) (sz : Int32) (ae : Addr) (ai : Addr) (ak : Addr) (asx : Addr) (av : Addr) (ki : ClassId) (xi0 : Int32) (xi1 : Int32) (kk : ClassId) (xk0 : Int32) (xk1 : Int32) (ks : ClassId) (xs0 : UInt64) (xs1 : UInt64) (kv : ClassId) (xv0 : UInt64) (xv1 : UInt64) (h0 : Heap) (n0 : Nat) (v : Option Value) (h : Heap) (L : List Loc) : Prop := ∃ r : Addr, v = some (.ref r) ∧ Fr n0 L ∧ Keep h0 h [] ∧ n0 ≤ r ∧ h0.size ≤ r ∧ Exa Z h r "com/example/rank60/rank60/FusedHit$Contribution" ∧ Fld Z h r "com/example/rank60/rank60/FusedHit$Contribution" "input" "I" (.int xi1) ∧ Fld Z h r "com/example/rank60/rank60/FusedHit$Contribution" "rank" "I" (.int xk1) ∧ Fld Z h r "com/example/rank60/rank60/FusedHit$Contribution" "score" "D" (.double xs1) ∧ Fld Z h r "com/example/rank60/rank60/FusedHit$Contribution" "value" "D" (.double xv1)
set_option maxRecDepth 65536 in
set_option maxHeartbeats 40000000 in
theorem rm15_101 (l : Launch) (Z : State) (ag : Array Value) (hw : ∀ d ∈ tables_1, d.before ag Z = true) (ws : List Jvm.Cond) (a0 : Addr) (sz : Int32) (ae : Addr) (ai : Addr) (ak : Addr) (asx : Addr) (av : Addr) (ki : ClassId) (xi0 : Int32) (xi1 : Int32) (kk : ClassId) (xk0 : Int32) (xk1 : Int32) (ks : ClassId) (xs0 : UInt64) (xs1 : UInt64) (kv : ClassId) (xv0 : UInt64) (xv1 : UInt64) (h0 : Heap) (n0 : Nat) (Z0 : n0 ≤ h0.size) (E_a0 : Exa Z h0 a0 "com/example/rank60/rank60/FusedList$Explanations$DocumentContributions") (F_start_a0 : Fld Z h0 a0 "com/example/rank60/rank60/FusedList$Explanations$DocumentContributions" "start" "I" (.int (0 : Int32))) (F_size_a0 : Fld Z h0 a0 "com/example/rank60/rank60/FusedList$Explanations$DocumentContributions" "size" "I" (.int sz)) (F_this_0_a0 : Fld Z h0 a0 "com/example/rank60/rank60/FusedList$Explanations$DocumentContributions" "this$0" "Lcom/example/rank60/rank60/FusedList$Explanations;" (.ref ae)) (E_ae : Exa Z h0 ae "com/example/rank60/rank60/FusedList$Explanations") (F_inputs_ae : Fld Z h0 ae "com/example/rank60/rank60/FusedList$Explanations" "inputs" "[I" (.ref ai)) (F_ranks_ae : Fld Z h0 ae "com/example/rank60/rank60/FusedList$Explanations" "ranks" "[I" (.ref ak)) (F_scores_ae : Fld Z h0 ae "com/example/rank60/rank60/FusedList$Explanations" "scores" "[D" (.ref asx)) (F_values_ae : Fld Z h0 ae "com/example/rank60/rank60/FusedList$Explanations" "values" "[D" (.ref av)) (V_ai : Arv Z h0 ai ki .int (2 : Int32) [(.int xi0), (.int xi1)] (.int (0 : Int32))) (V_ak : Arv Z h0 ak kk .int (2 : Int32) [(.int xk0), (.int xk1)] (.int (0 : Int32))) (V_asx : Arv Z h0 asx ks .double (2 : Int32) [(.double xs0), (.double xs1)] (.double (FP.l2d 0))) (V_av : Arv Z h0 av kv .double (2 : Int32) [(.double xv0), (.double xv1)] (.double (FP.l2d 0))) (hsz : (1 : Int32) < sz) :
    MetFree l (⟨"com/example/rank60/rank60/FusedList$Explanations$DocumentContributions", "get", "(I)Ljava/lang/Object;"⟩ : MethodName) (head1 (Jvm.Cond.code (⟨"com/example/rank60/rank60/FusedList$Explanations$DocumentContributions", "get", "(I)Ljava/lang/Object;"⟩ : MethodName) prog_11_method_4_code 2 (some (.object "java/lang/Object")) :: ws) ({ frames := 4, cells := 1, slots := 4, locals := 57 } : Room)) (fun a U => a = #[(.ref a0), (.int (1 : Int32))] ∧ Z.Warmed39 U.vm ∧ U.heap = h0) (fun _ _ _ _ _ => True) (fun _ U o U' => ∃ v L, o = .returned v ∧ Q15_101 Z a0 sz ae ai ak asx av ki xi0 xi1 kk xk0 xk1 ks xs0 xs1 kv xv0 xv1 h0 n0 v U'.heap L ∧ FrameEnd U o U' L ({ frames := 4, cells := 1, slots := 4, locals := 57 } : Room).cells ({ frames := 4, cells := 1, slots := 4, locals := 57 } : Room).slots) := by
  refine MetFree.of_bodySF (plainFor_of_name pn_4) hisR ?_
  intro p e s m args below meth c s₁ Bd hml0 hP hK
  obtain ⟨rfl, hZ, hh⟩ := hP
  have hx := Bd.exec
  have hby := Bd.bytes
  have hml : c.maxLocals = 2 := hml0
  have hown : s.vm.findClass "com/example/rank60/rank60/FusedList$Explanations$DocumentContributions" = some m.cls := findClass_of_methodNamed Bd.named
  have hnm := (name_of_methodNamed Bd.named Bd.method).1
  have X0 : Stand p l e ({ frames := 4, cells := 1, slots := 4, locals := 57 } : Room) s m #[(.ref a0), (.int (1 : Int32))] below meth c s₁ [] 0 0 := Stand.of_body Bd
  have e0 : s₁.heap = h0 := by rw [← hh, Bd.state]; rfl
  have N0 := Fr.nil n0
  have pre0 : ∀ t, Steps p.tables e below (s₁.setTop (mkF m 0 #[.val (.ref a0), .val (.int 1)] [])) t → Steps p.tables e below (s₁.setTop (entryFrame m #[(.ref a0), (.int (1 : Int32))] 2)) t := fun t k => castTop (ef_15_v1 m a0) k
  obtain ⟨cq1194, kq1194, q1194a, q1194b, q1194c⟩ := isOf hZ e0 E_a0
  obtain ⟨_, _, ⟨T1194, L1194, k1194, n1194⟩, -, X1194, ⟨Lc1194, hQ1194, l1194, y1194, z1194⟩, st1194⟩ := X0.virtualBack hx (y := (⟨"com/example/rank60/rank60/FusedList$Explanations$DocumentContributions", "get", "(I)Lcom/example/rank60/rank60/FusedHit$Contribution;"⟩ : MethodName)) (z := (⟨"com/example/rank60/rank60/FusedList$Explanations$DocumentContributions", "get", "(I)Lcom/example/rank60/rank60/FusedHit$Contribution;"⟩ : MethodName)) hown (mvT hZ (own_wk hw 121 rfl)) (mvT hZ (own_wk hw 122 rfl)) (notFace_of_selects (args := #[]) (mvT hZ (own_wk hw 124 rfl))) (mvT hZ (own_wk hw 124 rfl)) (mvT hZ (own_wk hw 123 rfl)) (by decide) (backOf (W := 0) (rm16_101 l Z ag hw [] a0 sz ae ai ak asx av ki xi0 xi1 kk xk0 xk1 ks xs0 xs1 kv xv0 xv1 h0 n0 Z0 E_a0 F_start_a0 F_size_a0 F_this_0_a0 E_ae F_inputs_ae F_ranks_ae F_scores_ae F_values_ae V_ai V_ak V_asx V_av hsz) hZ (own_wk hw 125 rfl) (own_wk hw 91 rfl) (by decide) (by decide)) q1194a q1194c (g := (mkF m 2 #[.val (.ref a0), .val (.int 1)] [.int 1, (.ref a0)])) rfl (by rw [hml]; rfl) (Steps.refl _) (argsL := [(.int (1 : Int32))]) (rest := []) (lenOf pd_3 rfl) rfl (by show 2 * 0 + _ ≤ _; exact Nat.le_of_eq rfl) (hb hby d15_2) (fun _ _ => ⟨rfl, e0, (by decide : 0 + 1 ≤ _), (by decide : 0 + 4 ≤ _)⟩)
  dsimp only [Pt.U, Pt.locs, Pt.cells, Pt.slots] at X1194 l1194 y1194 z1194 st1194 hQ1194
  subst l1194 y1194 z1194
  obtain ⟨r1194, rfl, N1194q, K1194, ge_r1194, gq_r1194, o1194_0, o1194_1, o1194_2, o1194_3, o1194_4⟩ := hQ1194
  have N1194 := Fr.app N0 N1194q
  have gs_r1194 : h0.size ≤ r1194 := Nat.le_trans (Keep.refl h0 []).1 gq_r1194
  have x1195 := E_a0.keep K1194
  have x1196 := F_start_a0.keep K1194 nin0
  have x1197 := F_size_a0.keep K1194 nin0
  have x1198 := F_this_0_a0.keep K1194 nin0
  have x1199 := E_ae.keep K1194
  have x1200 := F_inputs_ae.keep K1194 nin0
  have x1201 := F_ranks_ae.keep K1194 nin0
  have x1202 := F_scores_ae.keep K1194 nin0
  have x1203 := F_values_ae.keep K1194 nin0
  have x1204 := V_ai.keep K1194 nin0
  have x1205 := V_ak.keep K1194 nin0
  have x1206 := V_asx.keep K1194 nin0
  have x1207 := V_av.keep K1194 nin0
  have sz1208 : n0 ≤ T1194.heap.size := Nat.le_trans Z0 K1194.1
  have kp1209 : Keep h0 T1194.heap [] := (Keep.refl h0 []).trans K1194 all0
  obtain ⟨fs, hr, hrun, hended, hW, hsame⟩ := X1194.leave (v := some (.ref r1194)) (fun h => by rw [Bd.returns] at h; cases h)
  refine ⟨_, _, pre0 _ ?_, hrun, hended, _, _, rfl, ?_, ⟨_, rfl⟩, hW, hsame.mono (by decide) (by decide)⟩
  · show own_S p e below s₁ (mkF m 0 #[.val (.ref a0), .val (.int 1)] []) _
    refine XS.aloadN X0.here hx rfl (hb hby d15_0) rfl rfl ?_
    show own_S p e below s₁ (mkF m 1 #[.val (.ref a0), .val (.int 1)] [(.ref a0)]) _
    refine XS.iloadN X0.here hx rfl (hb hby d15_1) rfl ?_
    show own_S p e below s₁ (mkF m 2 #[.val (.ref a0), .val (.int 1)] [.int 1, (.ref a0)]) _
    refine st1194.trans ?_
    show own_S p e below T1194 (mkF m 5 #[.val (.ref a0), .val (.int 1)] [(.ref r1194)]) _
    exact Jvm.RoadKit.retOut X1194 hx Bd.returns rfl (Or.inr (Or.inr (Or.inr (Or.inr ⟨rfl, rfl, rfl⟩)))) (hb hby d15_5) hr
  · show Q15_101 Z a0 sz ae ai ak asx av ki xi0 xi1 kk xk0 xk1 ks xs0 xs1 kv xv0 xv1 h0 n0 _ T1194.heap _
    exact ⟨r1194, rfl, N1194, kp1209, ge_r1194, gs_r1194, o1194_0, o1194_1, o1194_2, o1194_3, o1194_4⟩
def Q15_010 (Z : State) (a0 : Addr) (sz : Int32) (ae : Addr) (ai : Addr) (ak : Addr) (av : Addr) (ki : ClassId) (xi0 : Int32) (xi1 : Int32) (kk : ClassId) (xk0 : Int32) (xk1 : Int32) (kv : ClassId) (xv0 : UInt64) (xv1 : UInt64) (h0 : Heap) (n0 : Nat) (v : Option Value) (h : Heap) (L : List Loc) : Prop := ∃ r : Addr, v = some (.ref r) ∧ Fr n0 L ∧ Keep h0 h [] ∧ n0 ≤ r ∧ h0.size ≤ r ∧ Exa Z h r "com/example/rank60/rank60/FusedHit$Contribution" ∧ Fld Z h r "com/example/rank60/rank60/FusedHit$Contribution" "input" "I" (.int xi1) ∧ Fld Z h r "com/example/rank60/rank60/FusedHit$Contribution" "rank" "I" (.int xk1) ∧ Fld Z h r "com/example/rank60/rank60/FusedHit$Contribution" "score" "D" (.double (9221120237041090560 : UInt64)) ∧ Fld Z h r "com/example/rank60/rank60/FusedHit$Contribution" "value" "D" (.double xv1)
set_option maxRecDepth 65536 in
set_option maxHeartbeats 40000000 in
theorem rm15_010 (l : Launch) (Z : State) (ag : Array Value) (hw : ∀ d ∈ tables_1, d.before ag Z = true) (ws : List Jvm.Cond) (a0 : Addr) (sz : Int32) (ae : Addr) (ai : Addr) (ak : Addr) (av : Addr) (ki : ClassId) (xi0 : Int32) (xi1 : Int32) (kk : ClassId) (xk0 : Int32) (xk1 : Int32) (kv : ClassId) (xv0 : UInt64) (xv1 : UInt64) (h0 : Heap) (n0 : Nat) (Z0 : n0 ≤ h0.size) (E_a0 : Exa Z h0 a0 "com/example/rank60/rank60/FusedList$Explanations$DocumentContributions") (F_start_a0 : Fld Z h0 a0 "com/example/rank60/rank60/FusedList$Explanations$DocumentContributions" "start" "I" (.int (1 : Int32))) (F_size_a0 : Fld Z h0 a0 "com/example/rank60/rank60/FusedList$Explanations$DocumentContributions" "size" "I" (.int sz)) (F_this_0_a0 : Fld Z h0 a0 "com/example/rank60/rank60/FusedList$Explanations$DocumentContributions" "this$0" "Lcom/example/rank60/rank60/FusedList$Explanations;" (.ref ae)) (E_ae : Exa Z h0 ae "com/example/rank60/rank60/FusedList$Explanations") (F_inputs_ae : Fld Z h0 ae "com/example/rank60/rank60/FusedList$Explanations" "inputs" "[I" (.ref ai)) (F_ranks_ae : Fld Z h0 ae "com/example/rank60/rank60/FusedList$Explanations" "ranks" "[I" (.ref ak)) (F_scores_ae : Fld Z h0 ae "com/example/rank60/rank60/FusedList$Explanations" "scores" "[D" .null) (F_values_ae : Fld Z h0 ae "com/example/rank60/rank60/FusedList$Explanations" "values" "[D" (.ref av)) (V_ai : Arv Z h0 ai ki .int (2 : Int32) [(.int xi0), (.int xi1)] (.int (0 : Int32))) (V_ak : Arv Z h0 ak kk .int (2 : Int32) [(.int xk0), (.int xk1)] (.int (0 : Int32))) (V_av : Arv Z h0 av kv .double (2 : Int32) [(.double xv0), (.double xv1)] (.double (FP.l2d 0))) (hsz : (0 : Int32) < sz) :
    MetFree l (⟨"com/example/rank60/rank60/FusedList$Explanations$DocumentContributions", "get", "(I)Ljava/lang/Object;"⟩ : MethodName) (head1 (Jvm.Cond.code (⟨"com/example/rank60/rank60/FusedList$Explanations$DocumentContributions", "get", "(I)Ljava/lang/Object;"⟩ : MethodName) prog_11_method_4_code 2 (some (.object "java/lang/Object")) :: ws) ({ frames := 4, cells := 1, slots := 4, locals := 57 } : Room)) (fun a U => a = #[(.ref a0), (.int (0 : Int32))] ∧ Z.Warmed39 U.vm ∧ U.heap = h0) (fun _ _ _ _ _ => True) (fun _ U o U' => ∃ v L, o = .returned v ∧ Q15_010 Z a0 sz ae ai ak av ki xi0 xi1 kk xk0 xk1 kv xv0 xv1 h0 n0 v U'.heap L ∧ FrameEnd U o U' L ({ frames := 4, cells := 1, slots := 4, locals := 57 } : Room).cells ({ frames := 4, cells := 1, slots := 4, locals := 57 } : Room).slots) := by
  refine MetFree.of_bodySF (plainFor_of_name pn_4) hisR ?_
  intro p e s m args below meth c s₁ Bd hml0 hP hK
  obtain ⟨rfl, hZ, hh⟩ := hP
  have hx := Bd.exec
  have hby := Bd.bytes
  have hml : c.maxLocals = 2 := hml0
  have hown : s.vm.findClass "com/example/rank60/rank60/FusedList$Explanations$DocumentContributions" = some m.cls := findClass_of_methodNamed Bd.named
  have hnm := (name_of_methodNamed Bd.named Bd.method).1
  have X0 : Stand p l e ({ frames := 4, cells := 1, slots := 4, locals := 57 } : Room) s m #[(.ref a0), (.int (0 : Int32))] below meth c s₁ [] 0 0 := Stand.of_body Bd
  have e0 : s₁.heap = h0 := by rw [← hh, Bd.state]; rfl
  have N0 := Fr.nil n0
  have pre0 : ∀ t, Steps p.tables e below (s₁.setTop (mkF m 0 #[.val (.ref a0), .val (.int 0)] [])) t → Steps p.tables e below (s₁.setTop (entryFrame m #[(.ref a0), (.int (0 : Int32))] 2)) t := fun t k => castTop (ef_15_v0 m a0) k
  obtain ⟨cq1210, kq1210, q1210a, q1210b, q1210c⟩ := isOf hZ e0 E_a0
  obtain ⟨_, _, ⟨T1210, L1210, k1210, n1210⟩, -, X1210, ⟨Lc1210, hQ1210, l1210, y1210, z1210⟩, st1210⟩ := X0.virtualBack hx (y := (⟨"com/example/rank60/rank60/FusedList$Explanations$DocumentContributions", "get", "(I)Lcom/example/rank60/rank60/FusedHit$Contribution;"⟩ : MethodName)) (z := (⟨"com/example/rank60/rank60/FusedList$Explanations$DocumentContributions", "get", "(I)Lcom/example/rank60/rank60/FusedHit$Contribution;"⟩ : MethodName)) hown (mvT hZ (own_wk hw 121 rfl)) (mvT hZ (own_wk hw 122 rfl)) (notFace_of_selects (args := #[]) (mvT hZ (own_wk hw 124 rfl))) (mvT hZ (own_wk hw 124 rfl)) (mvT hZ (own_wk hw 123 rfl)) (by decide) (backOf (W := 0) (rm16_010 l Z ag hw [] a0 sz ae ai ak av ki xi0 xi1 kk xk0 xk1 kv xv0 xv1 h0 n0 Z0 E_a0 F_start_a0 F_size_a0 F_this_0_a0 E_ae F_inputs_ae F_ranks_ae F_scores_ae F_values_ae V_ai V_ak V_av hsz) hZ (own_wk hw 125 rfl) (own_wk hw 91 rfl) (by decide) (by decide)) q1210a q1210c (g := (mkF m 2 #[.val (.ref a0), .val (.int 0)] [.int 0, (.ref a0)])) rfl (by rw [hml]; rfl) (Steps.refl _) (argsL := [(.int (0 : Int32))]) (rest := []) (lenOf pd_3 rfl) rfl (by show 2 * 0 + _ ≤ _; exact Nat.le_of_eq rfl) (hb hby d15_2) (fun _ _ => ⟨rfl, e0, (by decide : 0 + 1 ≤ _), (by decide : 0 + 4 ≤ _)⟩)
  dsimp only [Pt.U, Pt.locs, Pt.cells, Pt.slots] at X1210 l1210 y1210 z1210 st1210 hQ1210
  subst l1210 y1210 z1210
  obtain ⟨r1210, rfl, N1210q, K1210, ge_r1210, gq_r1210, o1210_0, o1210_1, o1210_2, o1210_3, o1210_4⟩ := hQ1210
  have N1210 := Fr.app N0 N1210q
  have gs_r1210 : h0.size ≤ r1210 := Nat.le_trans (Keep.refl h0 []).1 gq_r1210
  have x1211 := E_a0.keep K1210
  have x1212 := F_start_a0.keep K1210 nin0
  have x1213 := F_size_a0.keep K1210 nin0
  have x1214 := F_this_0_a0.keep K1210 nin0
  have x1215 := E_ae.keep K1210
  have x1216 := F_inputs_ae.keep K1210 nin0
  have x1217 := F_ranks_ae.keep K1210 nin0
  have x1218 := F_scores_ae.keep K1210 nin0
  have x1219 := F_values_ae.keep K1210 nin0
  have x1220 := V_ai.keep K1210 nin0
  have x1221 := V_ak.keep K1210 nin0
  have x1222 := V_av.keep K1210 nin0
  have sz1223 : n0 ≤ T1210.heap.size := Nat.le_trans Z0 K1210.1
  have kp1224 : Keep h0 T1210.heap [] := (Keep.refl h0 []).trans K1210 all0
  obtain ⟨fs, hr, hrun, hended, hW, hsame⟩ := X1210.leave (v := some (.ref r1210)) (fun h => by rw [Bd.returns] at h; cases h)
  refine ⟨_, _, pre0 _ ?_, hrun, hended, _, _, rfl, ?_, ⟨_, rfl⟩, hW, hsame.mono (by decide) (by decide)⟩
  · show own_S p e below s₁ (mkF m 0 #[.val (.ref a0), .val (.int 0)] []) _
    refine XS.aloadN X0.here hx rfl (hb hby d15_0) rfl rfl ?_
    show own_S p e below s₁ (mkF m 1 #[.val (.ref a0), .val (.int 0)] [(.ref a0)]) _
    refine XS.iloadN X0.here hx rfl (hb hby d15_1) rfl ?_
    show own_S p e below s₁ (mkF m 2 #[.val (.ref a0), .val (.int 0)] [.int 0, (.ref a0)]) _
    refine st1210.trans ?_
    show own_S p e below T1210 (mkF m 5 #[.val (.ref a0), .val (.int 0)] [(.ref r1210)]) _
    exact Jvm.RoadKit.retOut X1210 hx Bd.returns rfl (Or.inr (Or.inr (Or.inr (Or.inr ⟨rfl, rfl, rfl⟩)))) (hb hby d15_5) hr
  · show Q15_010 Z a0 sz ae ai ak av ki xi0 xi1 kk xk0 xk1 kv xv0 xv1 h0 n0 _ T1210.heap _
    exact ⟨r1210, rfl, N1210, kp1224, ge_r1210, gs_r1210, o1210_0, o1210_1, o1210_2, o1210_3, o1210_4⟩
def Q15_011 (Z : State) (a0 : Addr) (sz : Int32) (ae : Addr) (ai : Addr) (ak : Addr) (asx : Addr) (av : Addr) (ki : ClassId) (xi0 : Int32) (xi1 : Int32) (kk : ClassId) (xk0 : Int32) (xk1 : Int32) (ks : ClassId) (xs0 : UInt64) (xs1 : UInt64) (kv : ClassId) (xv0 : UInt64) (xv1 : UInt64) (h0 : Heap) (n0 : Nat) (v : Option Value) (h : Heap) (L : List Loc) : Prop := ∃ r : Addr, v = some (.ref r) ∧ Fr n0 L ∧ Keep h0 h [] ∧ n0 ≤ r ∧ h0.size ≤ r ∧ Exa Z h r "com/example/rank60/rank60/FusedHit$Contribution" ∧ Fld Z h r "com/example/rank60/rank60/FusedHit$Contribution" "input" "I" (.int xi1) ∧ Fld Z h r "com/example/rank60/rank60/FusedHit$Contribution" "rank" "I" (.int xk1) ∧ Fld Z h r "com/example/rank60/rank60/FusedHit$Contribution" "score" "D" (.double xs1) ∧ Fld Z h r "com/example/rank60/rank60/FusedHit$Contribution" "value" "D" (.double xv1)
set_option maxRecDepth 65536 in
set_option maxHeartbeats 40000000 in
theorem rm15_011 (l : Launch) (Z : State) (ag : Array Value) (hw : ∀ d ∈ tables_1, d.before ag Z = true) (ws : List Jvm.Cond) (a0 : Addr) (sz : Int32) (ae : Addr) (ai : Addr) (ak : Addr) (asx : Addr) (av : Addr) (ki : ClassId) (xi0 : Int32) (xi1 : Int32) (kk : ClassId) (xk0 : Int32) (xk1 : Int32) (ks : ClassId) (xs0 : UInt64) (xs1 : UInt64) (kv : ClassId) (xv0 : UInt64) (xv1 : UInt64) (h0 : Heap) (n0 : Nat) (Z0 : n0 ≤ h0.size) (E_a0 : Exa Z h0 a0 "com/example/rank60/rank60/FusedList$Explanations$DocumentContributions") (F_start_a0 : Fld Z h0 a0 "com/example/rank60/rank60/FusedList$Explanations$DocumentContributions" "start" "I" (.int (1 : Int32))) (F_size_a0 : Fld Z h0 a0 "com/example/rank60/rank60/FusedList$Explanations$DocumentContributions" "size" "I" (.int sz)) (F_this_0_a0 : Fld Z h0 a0 "com/example/rank60/rank60/FusedList$Explanations$DocumentContributions" "this$0" "Lcom/example/rank60/rank60/FusedList$Explanations;" (.ref ae)) (E_ae : Exa Z h0 ae "com/example/rank60/rank60/FusedList$Explanations") (F_inputs_ae : Fld Z h0 ae "com/example/rank60/rank60/FusedList$Explanations" "inputs" "[I" (.ref ai)) (F_ranks_ae : Fld Z h0 ae "com/example/rank60/rank60/FusedList$Explanations" "ranks" "[I" (.ref ak)) (F_scores_ae : Fld Z h0 ae "com/example/rank60/rank60/FusedList$Explanations" "scores" "[D" (.ref asx)) (F_values_ae : Fld Z h0 ae "com/example/rank60/rank60/FusedList$Explanations" "values" "[D" (.ref av)) (V_ai : Arv Z h0 ai ki .int (2 : Int32) [(.int xi0), (.int xi1)] (.int (0 : Int32))) (V_ak : Arv Z h0 ak kk .int (2 : Int32) [(.int xk0), (.int xk1)] (.int (0 : Int32))) (V_asx : Arv Z h0 asx ks .double (2 : Int32) [(.double xs0), (.double xs1)] (.double (FP.l2d 0))) (V_av : Arv Z h0 av kv .double (2 : Int32) [(.double xv0), (.double xv1)] (.double (FP.l2d 0))) (hsz : (0 : Int32) < sz) :
    MetFree l (⟨"com/example/rank60/rank60/FusedList$Explanations$DocumentContributions", "get", "(I)Ljava/lang/Object;"⟩ : MethodName) (head1 (Jvm.Cond.code (⟨"com/example/rank60/rank60/FusedList$Explanations$DocumentContributions", "get", "(I)Ljava/lang/Object;"⟩ : MethodName) prog_11_method_4_code 2 (some (.object "java/lang/Object")) :: ws) ({ frames := 4, cells := 1, slots := 4, locals := 57 } : Room)) (fun a U => a = #[(.ref a0), (.int (0 : Int32))] ∧ Z.Warmed39 U.vm ∧ U.heap = h0) (fun _ _ _ _ _ => True) (fun _ U o U' => ∃ v L, o = .returned v ∧ Q15_011 Z a0 sz ae ai ak asx av ki xi0 xi1 kk xk0 xk1 ks xs0 xs1 kv xv0 xv1 h0 n0 v U'.heap L ∧ FrameEnd U o U' L ({ frames := 4, cells := 1, slots := 4, locals := 57 } : Room).cells ({ frames := 4, cells := 1, slots := 4, locals := 57 } : Room).slots) := by
  refine MetFree.of_bodySF (plainFor_of_name pn_4) hisR ?_
  intro p e s m args below meth c s₁ Bd hml0 hP hK
  obtain ⟨rfl, hZ, hh⟩ := hP
  have hx := Bd.exec
  have hby := Bd.bytes
  have hml : c.maxLocals = 2 := hml0
  have hown : s.vm.findClass "com/example/rank60/rank60/FusedList$Explanations$DocumentContributions" = some m.cls := findClass_of_methodNamed Bd.named
  have hnm := (name_of_methodNamed Bd.named Bd.method).1
  have X0 : Stand p l e ({ frames := 4, cells := 1, slots := 4, locals := 57 } : Room) s m #[(.ref a0), (.int (0 : Int32))] below meth c s₁ [] 0 0 := Stand.of_body Bd
  have e0 : s₁.heap = h0 := by rw [← hh, Bd.state]; rfl
  have N0 := Fr.nil n0
  have pre0 : ∀ t, Steps p.tables e below (s₁.setTop (mkF m 0 #[.val (.ref a0), .val (.int 0)] [])) t → Steps p.tables e below (s₁.setTop (entryFrame m #[(.ref a0), (.int (0 : Int32))] 2)) t := fun t k => castTop (ef_15_v0 m a0) k
  obtain ⟨cq1225, kq1225, q1225a, q1225b, q1225c⟩ := isOf hZ e0 E_a0
  obtain ⟨_, _, ⟨T1225, L1225, k1225, n1225⟩, -, X1225, ⟨Lc1225, hQ1225, l1225, y1225, z1225⟩, st1225⟩ := X0.virtualBack hx (y := (⟨"com/example/rank60/rank60/FusedList$Explanations$DocumentContributions", "get", "(I)Lcom/example/rank60/rank60/FusedHit$Contribution;"⟩ : MethodName)) (z := (⟨"com/example/rank60/rank60/FusedList$Explanations$DocumentContributions", "get", "(I)Lcom/example/rank60/rank60/FusedHit$Contribution;"⟩ : MethodName)) hown (mvT hZ (own_wk hw 121 rfl)) (mvT hZ (own_wk hw 122 rfl)) (notFace_of_selects (args := #[]) (mvT hZ (own_wk hw 124 rfl))) (mvT hZ (own_wk hw 124 rfl)) (mvT hZ (own_wk hw 123 rfl)) (by decide) (backOf (W := 0) (rm16_011 l Z ag hw [] a0 sz ae ai ak asx av ki xi0 xi1 kk xk0 xk1 ks xs0 xs1 kv xv0 xv1 h0 n0 Z0 E_a0 F_start_a0 F_size_a0 F_this_0_a0 E_ae F_inputs_ae F_ranks_ae F_scores_ae F_values_ae V_ai V_ak V_asx V_av hsz) hZ (own_wk hw 125 rfl) (own_wk hw 91 rfl) (by decide) (by decide)) q1225a q1225c (g := (mkF m 2 #[.val (.ref a0), .val (.int 0)] [.int 0, (.ref a0)])) rfl (by rw [hml]; rfl) (Steps.refl _) (argsL := [(.int (0 : Int32))]) (rest := []) (lenOf pd_3 rfl) rfl (by show 2 * 0 + _ ≤ _; exact Nat.le_of_eq rfl) (hb hby d15_2) (fun _ _ => ⟨rfl, e0, (by decide : 0 + 1 ≤ _), (by decide : 0 + 4 ≤ _)⟩)
  dsimp only [Pt.U, Pt.locs, Pt.cells, Pt.slots] at X1225 l1225 y1225 z1225 st1225 hQ1225
  subst l1225 y1225 z1225
  obtain ⟨r1225, rfl, N1225q, K1225, ge_r1225, gq_r1225, o1225_0, o1225_1, o1225_2, o1225_3, o1225_4⟩ := hQ1225
  have N1225 := Fr.app N0 N1225q
  have gs_r1225 : h0.size ≤ r1225 := Nat.le_trans (Keep.refl h0 []).1 gq_r1225
  have x1226 := E_a0.keep K1225
  have x1227 := F_start_a0.keep K1225 nin0
  have x1228 := F_size_a0.keep K1225 nin0
  have x1229 := F_this_0_a0.keep K1225 nin0
  have x1230 := E_ae.keep K1225
  have x1231 := F_inputs_ae.keep K1225 nin0
  have x1232 := F_ranks_ae.keep K1225 nin0
  have x1233 := F_scores_ae.keep K1225 nin0
  have x1234 := F_values_ae.keep K1225 nin0
  have x1235 := V_ai.keep K1225 nin0
  have x1236 := V_ak.keep K1225 nin0
  have x1237 := V_asx.keep K1225 nin0
  have x1238 := V_av.keep K1225 nin0
  have sz1239 : n0 ≤ T1225.heap.size := Nat.le_trans Z0 K1225.1
  have kp1240 : Keep h0 T1225.heap [] := (Keep.refl h0 []).trans K1225 all0
  obtain ⟨fs, hr, hrun, hended, hW, hsame⟩ := X1225.leave (v := some (.ref r1225)) (fun h => by rw [Bd.returns] at h; cases h)
  refine ⟨_, _, pre0 _ ?_, hrun, hended, _, _, rfl, ?_, ⟨_, rfl⟩, hW, hsame.mono (by decide) (by decide)⟩
  · show own_S p e below s₁ (mkF m 0 #[.val (.ref a0), .val (.int 0)] []) _
    refine XS.aloadN X0.here hx rfl (hb hby d15_0) rfl rfl ?_
    show own_S p e below s₁ (mkF m 1 #[.val (.ref a0), .val (.int 0)] [(.ref a0)]) _
    refine XS.iloadN X0.here hx rfl (hb hby d15_1) rfl ?_
    show own_S p e below s₁ (mkF m 2 #[.val (.ref a0), .val (.int 0)] [.int 0, (.ref a0)]) _
    refine st1225.trans ?_
    show own_S p e below T1225 (mkF m 5 #[.val (.ref a0), .val (.int 0)] [(.ref r1225)]) _
    exact Jvm.RoadKit.retOut X1225 hx Bd.returns rfl (Or.inr (Or.inr (Or.inr (Or.inr ⟨rfl, rfl, rfl⟩)))) (hb hby d15_5) hr
  · show Q15_011 Z a0 sz ae ai ak asx av ki xi0 xi1 kk xk0 xk1 ks xs0 xs1 kv xv0 xv1 h0 n0 _ T1225.heap _
    exact ⟨r1225, rfl, N1225, kp1240, ge_r1225, gs_r1225, o1225_0, o1225_1, o1225_2, o1225_3, o1225_4⟩
theorem pn_0 : plainName "com/example/rank60/rank60/ExplanationsAddPinLaw" = true := by first | (simp [plainName, overriddenIn]; done) | decide +kernel
theorem ef_19_vvvvv0 (m : MethodId) (a0 : Addr) (p1 : Int32) (p2 : Int32) (r3 : UInt64) (r4 : UInt64) : entryFrame m #[(.ref a0), (.int p1), (.int p2), (.double r3), (.double r4), (.int (0 : Int32))] 9 = mkF m 0 #[.val (.ref a0), .val (.int p1), .val (.int p2), .val (.double r3), .second, .val (.double r4), .second, .val (.int 0), .unset] [] := by first | (simp [entryFrame, mkF, argsToLocals, Value.category]; done) | rfl
abbrev own_loc3 (a0 : Addr) (p1 : Int32) (p2 : Int32) (r3 : UInt64) (r4 : UInt64) : Array Slot := #[.val (.ref a0), .val (.int p1), .val (.int p2), .val (.double r3), .second, .val (.double r4), .second, .val (.int 0), .unset]
theorem d19_0 : decode method_2_code 0 = .ok (.iload 7, 2) := by decide +kernel
theorem d19_2 : decode method_2_code 2 = .ok (.ifCond .eq 20, 3) := by decide +kernel
theorem d19_22 : decode method_2_code 22 = .ok (.aload_n 0, 1) := by decide +kernel
theorem pd_0 : parseMethodDescriptor "()D" = some ⟨[], some .double⟩ := by decide +kernel
theorem d19_23 : decode method_2_code 23 = .ok (.invokevirtual 7, 3) := by decide +kernel
theorem d19_26 : decode method_2_code 26 = .ok (.aload_n 0, 1) := by decide +kernel
theorem d19_27 : decode method_2_code 27 = .ok (.invokevirtual 7, 3) := by decide +kernel
theorem d19_30 : decode method_2_code 30 = .ok (.dcmp .l, 1) := by decide +kernel
theorem d19_31 : decode method_2_code 31 = .ok (.ifCond .eq 7, 3) := by decide +kernel
theorem d19_34 : decode method_2_code 34 = .ok (.iconst 1, 1) := by decide +kernel
theorem d19_35 : decode method_2_code 35 = .ok (.goto 4, 3) := by decide +kernel
theorem d19_39 : decode method_2_code 39 = .ok (.istore 8, 2) := by decide +kernel
abbrev own_loc4 (a0 : Addr) (p1 : Int32) (p2 : Int32) (r3 : UInt64) (r4 : UInt64) : Array Slot := #[.val (.ref a0), .val (.int p1), .val (.int p2), .val (.double r3), .second, .val (.double r4), .second, .val (.int 0), .val (.int 1)]
theorem d19_41 : decode method_2_code 41 = .ok (.aload_n 0, 1) := by decide +kernel
theorem pd_1 : parseMethodDescriptor "()I" = some ⟨[], some .int⟩ := by decide +kernel
theorem d19_42 : decode method_2_code 42 = .ok (.invokevirtual 13, 3) := by decide +kernel
theorem d19_45 : decode method_2_code 45 = .ok (.iload_n 1, 1) := by decide +kernel
theorem d19_46 : decode method_2_code 46 = .ok (.if_icmp .ne 30, 3) := by decide +kernel
theorem d19_49 : decode method_2_code 49 = .ok (.aload_n 0, 1) := by decide +kernel
theorem d19_50 : decode method_2_code 50 = .ok (.invokevirtual 17, 3) := by decide +kernel
theorem d19_53 : decode method_2_code 53 = .ok (.iload_n 2, 1) := by decide +kernel
theorem d19_54 : decode method_2_code 54 = .ok (.if_icmp .ne 22, 3) := by decide +kernel
theorem d19_57 : decode method_2_code 57 = .ok (.iload 8, 2) := by decide +kernel
theorem d19_59 : decode method_2_code 59 = .ok (.ifCond .eq 17, 3) := by decide +kernel
theorem d19_62 : decode method_2_code 62 = .ok (.aload_n 0, 1) := by decide +kernel
theorem d19_63 : decode method_2_code 63 = .ok (.invokevirtual 20, 3) := by decide +kernel
theorem d19_66 : decode method_2_code 66 = .ok (.dload 5, 2) := by decide +kernel
theorem d19_68 : decode method_2_code 68 = .ok (.dcmp .l, 1) := by decide +kernel
theorem d19_69 : decode method_2_code 69 = .ok (.ifCond .ne 7, 3) := by decide +kernel
theorem d19_72 : decode method_2_code 72 = .ok (.iconst 1, 1) := by decide +kernel
theorem d19_73 : decode method_2_code 73 = .ok (.goto 4, 3) := by decide +kernel
theorem d19_77 : decode method_2_code 77 = .ok (.ireturn, 1) := by decide +kernel
def Q19_0 (Z : State) (a0 : Addr) (p1 : Int32) (p2 : Int32) (r3 : UInt64) (r4 : UInt64) (h0 : Heap) (n0 : Nat) (v : Option Value) (h : Heap) (L : List Loc) : Prop := v = some (.int (1 : Int32)) ∧ Fr n0 L ∧ h = h0
set_option maxRecDepth 65536 in
set_option maxHeartbeats 40000000 in
theorem rm19_0 (l : Launch) (Z : State) (ag : Array Value) (hw : ∀ d ∈ tables_1, d.before ag Z = true) (ws : List Jvm.Cond) (a0 : Addr) (p1 : Int32) (p2 : Int32) (r3 : UInt64) (r4 : UInt64) (h0 : Heap) (n0 : Nat) (Z0 : n0 ≤ h0.size) (E_a0 : Exa Z h0 a0 "com/example/rank60/rank60/FusedHit$Contribution") (F_input_a0 : Fld Z h0 a0 "com/example/rank60/rank60/FusedHit$Contribution" "input" "I" (.int p1)) (F_rank_a0 : Fld Z h0 a0 "com/example/rank60/rank60/FusedHit$Contribution" "rank" "I" (.int p2)) (F_score_a0 : Fld Z h0 a0 "com/example/rank60/rank60/FusedHit$Contribution" "score" "D" (.double (9221120237041090560 : UInt64))) (F_value_a0 : Fld Z h0 a0 "com/example/rank60/rank60/FusedHit$Contribution" "value" "D" (.double r4)) (nn3 : Jvm.Free.Fl.NoNaN64 r3) (nn4 : Jvm.Free.Fl.NoNaN64 r4) :
    MetFree l (⟨"com/example/rank60/rank60/ExplanationsAddPinLaw", "matches", "(Lcom/example/rank60/rank60/FusedHit$Contribution;IIDDZ)Z"⟩ : MethodName) (head1 (Jvm.Cond.code (⟨"com/example/rank60/rank60/ExplanationsAddPinLaw", "matches", "(Lcom/example/rank60/rank60/FusedHit$Contribution;IIDDZ)Z"⟩ : MethodName) method_2_code 9 (some .boolean) :: ws) ({ frames := 1, cells := 0, slots := 0, locals := 14 } : Room)) (fun a U => a = #[(.ref a0), (.int p1), (.int p2), (.double r3), (.double r4), (.int (0 : Int32))] ∧ Z.Warmed39 U.vm ∧ U.heap = h0) (fun _ _ _ _ _ => True) (fun _ U o U' => ∃ v L, o = .returned v ∧ Q19_0 Z a0 p1 p2 r3 r4 h0 n0 v U'.heap L ∧ FrameEnd U o U' L ({ frames := 1, cells := 0, slots := 0, locals := 14 } : Room).cells ({ frames := 1, cells := 0, slots := 0, locals := 14 } : Room).slots) := by
  refine MetFree.of_bodySF (plainFor_of_name pn_0) hisR ?_
  intro p e s m args below meth c s₁ Bd hml0 hP hK
  obtain ⟨rfl, hZ, hh⟩ := hP
  have hx := Bd.exec
  have hby := Bd.bytes
  have hml : c.maxLocals = 9 := hml0
  have hown : s.vm.findClass "com/example/rank60/rank60/ExplanationsAddPinLaw" = some m.cls := findClass_of_methodNamed Bd.named
  have hnm := (name_of_methodNamed Bd.named Bd.method).1
  have X0 : Stand p l e ({ frames := 1, cells := 0, slots := 0, locals := 14 } : Room) s m #[(.ref a0), (.int p1), (.int p2), (.double r3), (.double r4), (.int (0 : Int32))] below meth c s₁ [] 0 0 := Stand.of_body Bd
  have e0 : s₁.heap = h0 := by rw [← hh, Bd.state]; rfl
  have N0 := Fr.nil n0
  have pre0 : ∀ t, Steps p.tables e below (s₁.setTop (mkF m 0 #[.val (.ref a0), .val (.int p1), .val (.int p2), .val (.double r3), .second, .val (.double r4), .second, .val (.int 0), .unset] [])) t → Steps p.tables e below (s₁.setTop (entryFrame m #[(.ref a0), (.int p1), (.int p2), (.double r3), (.double r4), (.int (0 : Int32))] 9)) t := fun t k => castTop (ef_19_vvvvv0 m a0 p1 p2 r3 r4) k
  obtain ⟨cq1241, kq1241, q1241a, q1241b, q1241c⟩ := isOf hZ e0 E_a0
  obtain ⟨_, _, ⟨T1241, L1241, k1241, n1241⟩, -, X1241, ⟨Lc1241, hQ1241, l1241, y1241, z1241⟩, st1241⟩ := X0.virtualBack hx (y := (⟨"com/example/rank60/rank60/FusedHit$Contribution", "score", "()D"⟩ : MethodName)) (z := (⟨"com/example/rank60/rank60/FusedHit$Contribution", "score", "()D"⟩ : MethodName)) hown (mvT hZ (own_wk hw 157 rfl)) (mvT hZ (own_wk hw 158 rfl)) (notFace_of_selects (args := #[]) (mvT hZ (own_wk hw 160 rfl))) (mvT hZ (own_wk hw 160 rfl)) (mvT hZ (own_wk hw 159 rfl)) (by decide) (backOf (W := 0) (rm20 l Z ag hw [] a0 (9221120237041090560 : UInt64) h0 n0 Z0 F_score_a0) hZ (own_wk hw 161 rfl) (own_wk hw 129 rfl) (by decide) (by decide)) q1241a q1241c (g := (mkF m 23 (own_loc3 a0 p1 p2 r3 r4) [(.ref a0)])) rfl (by rw [hml]; rfl) (Steps.refl _) (argsL := []) (rest := []) (lenOf pd_0 rfl) rfl (by show 2 * 0 + _ ≤ _; exact Nat.le_of_eq rfl) (hb hby d19_23) (fun _ _ => ⟨rfl, e0, (by decide : 0 + 0 ≤ _), (by decide : 0 + 0 ≤ _)⟩)
  dsimp only [Pt.U, Pt.locs, Pt.cells, Pt.slots] at X1241 l1241 y1241 z1241 st1241 hQ1241
  subst l1241 y1241 z1241
  obtain ⟨rfl, N1241q, e1241⟩ := hQ1241
  have N1241 := Fr.app N0 N1241q
  obtain ⟨cq1242, kq1242, q1242a, q1242b, q1242c⟩ := isOf hZ e1241 E_a0
  obtain ⟨_, _, ⟨T1242, L1242, k1242, n1242⟩, -, X1242, ⟨Lc1242, hQ1242, l1242, y1242, z1242⟩, st1242⟩ := X1241.virtualBack hx (y := (⟨"com/example/rank60/rank60/FusedHit$Contribution", "score", "()D"⟩ : MethodName)) (z := (⟨"com/example/rank60/rank60/FusedHit$Contribution", "score", "()D"⟩ : MethodName)) hown (mvT hZ (own_wk hw 157 rfl)) (mvT hZ (own_wk hw 158 rfl)) (notFace_of_selects (args := #[]) (mvT hZ (own_wk hw 160 rfl))) (mvT hZ (own_wk hw 160 rfl)) (mvT hZ (own_wk hw 159 rfl)) (by decide) (backOf (W := 2) (rm20 l Z ag hw [] a0 (9221120237041090560 : UInt64) h0 n0 Z0 F_score_a0) hZ (own_wk hw 161 rfl) (own_wk hw 129 rfl) (by decide) (by decide)) q1242a q1242c (g := (mkF m 27 (own_loc3 a0 p1 p2 r3 r4) [(.ref a0), (.double (9221120237041090560 : UInt64))])) rfl (by rw [hml]; rfl) (Steps.refl _) (argsL := []) (rest := [(.double (9221120237041090560 : UInt64))]) (lenOf pd_0 rfl) rfl (by show 2 * 0 + _ ≤ _; exact Nat.le_of_eq rfl) (hb hby d19_27) (fun _ _ => ⟨rfl, e1241, (by decide : 0 + 0 ≤ _), (by decide : 0 + 0 ≤ _)⟩)
  dsimp only [Pt.U, Pt.locs, Pt.cells, Pt.slots] at X1242 l1242 y1242 z1242 st1242 hQ1242
  subst l1242 y1242 z1242
  obtain ⟨rfl, N1242q, e1242⟩ := hQ1242
  have N1242 := Fr.app N1241 N1242q
  obtain ⟨cq1243, kq1243, q1243a, q1243b, q1243c⟩ := isOf hZ e1242 E_a0
  obtain ⟨_, _, ⟨T1243, L1243, k1243, n1243⟩, -, X1243, ⟨Lc1243, hQ1243, l1243, y1243, z1243⟩, st1243⟩ := X1242.virtualBack hx (y := (⟨"com/example/rank60/rank60/FusedHit$Contribution", "input", "()I"⟩ : MethodName)) (z := (⟨"com/example/rank60/rank60/FusedHit$Contribution", "input", "()I"⟩ : MethodName)) hown (mvT hZ (own_wk hw 162 rfl)) (mvT hZ (own_wk hw 163 rfl)) (notFace_of_selects (args := #[]) (mvT hZ (own_wk hw 165 rfl))) (mvT hZ (own_wk hw 165 rfl)) (mvT hZ (own_wk hw 164 rfl)) (by decide) (backOf (W := 0) (rm21 l Z ag hw [] a0 p1 h0 n0 Z0 F_input_a0) hZ (own_wk hw 166 rfl) (own_wk hw 129 rfl) (by decide) (by decide)) q1243a q1243c (g := (mkF m 42 (own_loc4 a0 p1 p2 r3 r4) [(.ref a0)])) rfl (by rw [hml]; rfl) (Steps.refl _) (argsL := []) (rest := []) (lenOf pd_1 rfl) rfl (by show 2 * 0 + _ ≤ _; exact Nat.le_of_eq rfl) (hb hby d19_42) (fun _ _ => ⟨rfl, e1242, (by decide : 0 + 0 ≤ _), (by decide : 0 + 0 ≤ _)⟩)
  dsimp only [Pt.U, Pt.locs, Pt.cells, Pt.slots] at X1243 l1243 y1243 z1243 st1243 hQ1243
  subst l1243 y1243 z1243
  obtain ⟨rfl, N1243q, e1243⟩ := hQ1243
  have N1243 := Fr.app N1242 N1243q
  have cp1244 : ∀ target, own_S p e below T1243 (mkF m 50 (own_loc4 a0 p1 p2 r3 r4) [(.ref a0)]) target → own_S p e below s₁ (mkF m 0 (own_loc3 a0 p1 p2 r3 r4) []) target := by
    intro target kt
    show own_S p e below s₁ (mkF m 0 (own_loc3 a0 p1 p2 r3 r4) []) _
    refine XS.iload X0.here hx rfl (hb hby d19_0) rfl ?_
    show own_S p e below s₁ (mkF m 2 (own_loc3 a0 p1 p2 r3 r4) [.int 0]) _
    refine XS.ifYes X0.here hx rfl (pc0 := 2) (pc' := 22) rfl (hb hby d19_2) rfl ((if0 _ _).trans (teq (by decide : (0 : Int32) = (0 : Int32))).1) (by decide) (by decide) ?_
    show own_S p e below s₁ (mkF m 22 (own_loc3 a0 p1 p2 r3 r4) []) _
    refine XS.aloadN X0.here hx rfl (hb hby d19_22) rfl rfl ?_
    show own_S p e below s₁ (mkF m 23 (own_loc3 a0 p1 p2 r3 r4) [(.ref a0)]) _
    refine st1241.trans ?_
    show own_S p e below T1241 (mkF m 26 (own_loc3 a0 p1 p2 r3 r4) [(.double (9221120237041090560 : UInt64))]) _
    refine XS.aloadN X1241.here hx rfl (hb hby d19_26) rfl rfl ?_
    show own_S p e below T1241 (mkF m 27 (own_loc3 a0 p1 p2 r3 r4) [(.ref a0), (.double (9221120237041090560 : UInt64))]) _
    refine st1242.trans ?_
    show own_S p e below T1242 (mkF m 30 (own_loc3 a0 p1 p2 r3 r4) [(.double (9221120237041090560 : UInt64)), (.double (9221120237041090560 : UInt64))]) _
    refine XS.dcmpS X1242.here hx rfl (hb hby d19_30) rfl rfl ?_
    show own_S p e below T1242 (mkF m 31 (own_loc3 a0 p1 p2 r3 r4) [(.int (cmpValue (FP.dcmp (9221120237041090560 : UInt64) (9221120237041090560 : UInt64)) .l))]) _
    refine XS.ifNo X1242.here hx rfl (hb hby d19_31) rfl ((if0 _ _).trans (feq (show ¬ ((cmpValue (FP.dcmp (9221120237041090560 : UInt64) (9221120237041090560 : UInt64)) .l) = (0 : Int32)) from own_nan)).1) ?_
    show own_S p e below T1242 (mkF m 34 (own_loc3 a0 p1 p2 r3 r4) []) _
    refine XS.iconst X1242.here hx rfl (hb hby d19_34) ?_
    show own_S p e below T1242 (mkF m 35 (own_loc3 a0 p1 p2 r3 r4) [.int 1]) _
    refine XS.goto X1242.here hx rfl (pc0 := 35) (pc' := 39) rfl (hb hby d19_35) (by decide) (by decide) ?_
    show own_S p e below T1242 (mkF m 39 (own_loc3 a0 p1 p2 r3 r4) [.int 1]) _
    refine XS.istore X1242.here hx rfl (hb hby d19_39) rfl (l' := (own_loc4 a0 p1 p2 r3 r4)) rfl ?_
    show own_S p e below T1242 (mkF m 41 (own_loc4 a0 p1 p2 r3 r4) []) _
    refine XS.aloadN X1242.here hx rfl (hb hby d19_41) rfl rfl ?_
    show own_S p e below T1242 (mkF m 42 (own_loc4 a0 p1 p2 r3 r4) [(.ref a0)]) _
    refine st1243.trans ?_
    show own_S p e below T1243 (mkF m 45 (own_loc4 a0 p1 p2 r3 r4) [(.int p1)]) _
    refine XS.iloadN X1243.here hx rfl (hb hby d19_45) rfl ?_
    show own_S p e below T1243 (mkF m 46 (own_loc4 a0 p1 p2 r3 r4) [(.int p1), (.int p1)]) _
    refine XS.icmpNo X1243.here hx rfl (hb hby d19_46) rfl (teq (show p1 = p1 from rfl)).2 ?_
    show own_S p e below T1243 (mkF m 49 (own_loc4 a0 p1 p2 r3 r4) []) _
    refine XS.aloadN X1243.here hx rfl (hb hby d19_49) rfl rfl ?_
    exact kt
  obtain ⟨cq1245, kq1245, q1245a, q1245b, q1245c⟩ := isOf hZ e1243 E_a0
  obtain ⟨_, _, ⟨T1245, L1245, k1245, n1245⟩, -, X1245, ⟨Lc1245, hQ1245, l1245, y1245, z1245⟩, st1245⟩ := X1243.virtualBack hx (y := (⟨"com/example/rank60/rank60/FusedHit$Contribution", "rank", "()I"⟩ : MethodName)) (z := (⟨"com/example/rank60/rank60/FusedHit$Contribution", "rank", "()I"⟩ : MethodName)) hown (mvT hZ (own_wk hw 167 rfl)) (mvT hZ (own_wk hw 168 rfl)) (notFace_of_selects (args := #[]) (mvT hZ (own_wk hw 170 rfl))) (mvT hZ (own_wk hw 170 rfl)) (mvT hZ (own_wk hw 169 rfl)) (by decide) (backOf (W := 0) (rm22 l Z ag hw [] a0 p2 h0 n0 Z0 F_rank_a0) hZ (own_wk hw 171 rfl) (own_wk hw 129 rfl) (by decide) (by decide)) q1245a q1245c (g := (mkF m 50 (own_loc4 a0 p1 p2 r3 r4) [(.ref a0)])) rfl (by rw [hml]; rfl) (Steps.refl _) (argsL := []) (rest := []) (lenOf pd_1 rfl) rfl (by show 2 * 0 + _ ≤ _; exact Nat.le_of_eq rfl) (hb hby d19_50) (fun _ _ => ⟨rfl, e1243, (by decide : 0 + 0 ≤ _), (by decide : 0 + 0 ≤ _)⟩)
  dsimp only [Pt.U, Pt.locs, Pt.cells, Pt.slots] at X1245 l1245 y1245 z1245 st1245 hQ1245
  subst l1245 y1245 z1245
  obtain ⟨rfl, N1245q, e1245⟩ := hQ1245
  have N1245 := Fr.app N1243 N1245q
  obtain ⟨cq1246, kq1246, q1246a, q1246b, q1246c⟩ := isOf hZ e1245 E_a0
  obtain ⟨_, _, ⟨T1246, L1246, k1246, n1246⟩, -, X1246, ⟨Lc1246, hQ1246, l1246, y1246, z1246⟩, st1246⟩ := X1245.virtualBack hx (y := (⟨"com/example/rank60/rank60/FusedHit$Contribution", "value", "()D"⟩ : MethodName)) (z := (⟨"com/example/rank60/rank60/FusedHit$Contribution", "value", "()D"⟩ : MethodName)) hown (mvT hZ (own_wk hw 172 rfl)) (mvT hZ (own_wk hw 173 rfl)) (notFace_of_selects (args := #[]) (mvT hZ (own_wk hw 175 rfl))) (mvT hZ (own_wk hw 175 rfl)) (mvT hZ (own_wk hw 174 rfl)) (by decide) (backOf (W := 0) (rm23 l Z ag hw [] a0 r4 h0 n0 Z0 F_value_a0) hZ (own_wk hw 176 rfl) (own_wk hw 129 rfl) (by decide) (by decide)) q1246a q1246c (g := (mkF m 63 (own_loc4 a0 p1 p2 r3 r4) [(.ref a0)])) rfl (by rw [hml]; rfl) (Steps.refl _) (argsL := []) (rest := []) (lenOf pd_0 rfl) rfl (by show 2 * 0 + _ ≤ _; exact Nat.le_of_eq rfl) (hb hby d19_63) (fun _ _ => ⟨rfl, e1245, (by decide : 0 + 0 ≤ _), (by decide : 0 + 0 ≤ _)⟩)
  dsimp only [Pt.U, Pt.locs, Pt.cells, Pt.slots] at X1246 l1246 y1246 z1246 st1246 hQ1246
  subst l1246 y1246 z1246
  obtain ⟨rfl, N1246q, e1246⟩ := hQ1246
  have N1246 := Fr.app N1245 N1246q
  obtain ⟨fs, hr, hrun, hended, hW, hsame⟩ := X1246.leave (v := some (.int (1 : Int32))) (fun h => by rw [Bd.returns] at h; cases h)
  refine ⟨_, _, pre0 _ ?_, hrun, hended, _, _, rfl, ?_, ⟨_, rfl⟩, hW, hsame.mono (by decide) (by decide)⟩
  · show own_S p e below s₁ (mkF m 0 (own_loc3 a0 p1 p2 r3 r4) []) _
    refine cp1244 _ ?_
    show own_S p e below T1243 (mkF m 50 (own_loc4 a0 p1 p2 r3 r4) [(.ref a0)]) _
    refine st1245.trans ?_
    show own_S p e below T1245 (mkF m 53 (own_loc4 a0 p1 p2 r3 r4) [(.int p2)]) _
    refine XS.iloadN X1245.here hx rfl (hb hby d19_53) rfl ?_
    show own_S p e below T1245 (mkF m 54 (own_loc4 a0 p1 p2 r3 r4) [(.int p2), (.int p2)]) _
    refine XS.icmpNo X1245.here hx rfl (hb hby d19_54) rfl (teq (show p2 = p2 from rfl)).2 ?_
    show own_S p e below T1245 (mkF m 57 (own_loc4 a0 p1 p2 r3 r4) []) _
    refine XS.iload X1245.here hx rfl (hb hby d19_57) rfl ?_
    show own_S p e below T1245 (mkF m 59 (own_loc4 a0 p1 p2 r3 r4) [.int 1]) _
    refine XS.ifNo X1245.here hx rfl (hb hby d19_59) rfl ((if0 _ _).trans (feq (by decide : ¬ ((1 : Int32) = (0 : Int32)))).1) ?_
    show own_S p e below T1245 (mkF m 62 (own_loc4 a0 p1 p2 r3 r4) []) _
    refine XS.aloadN X1245.here hx rfl (hb hby d19_62) rfl rfl ?_
    show own_S p e below T1245 (mkF m 63 (own_loc4 a0 p1 p2 r3 r4) [(.ref a0)]) _
    refine st1246.trans ?_
    show own_S p e below T1246 (mkF m 66 (own_loc4 a0 p1 p2 r3 r4) [(.double r4)]) _
    refine XS.dload X1246.here hx rfl (hb hby d19_66) rfl ?_
    show own_S p e below T1246 (mkF m 68 (own_loc4 a0 p1 p2 r3 r4) [(.double r4), (.double r4)]) _
    refine XS.dcmpS X1246.here hx rfl (hb hby d19_68) rfl rfl ?_
    show own_S p e below T1246 (mkF m 69 (own_loc4 a0 p1 p2 r3 r4) [(.int (cmpValue (FP.dcmp r4 r4) .l))]) _
    refine XS.ifNo X1246.here hx rfl (hb hby d19_69) rfl ((if0 _ _).trans (teq (show (cmpValue (FP.dcmp r4 r4) .l) = (0 : Int32) from Jvm.RoadKit.dcmpV_self nn4 _)).2) ?_
    show own_S p e below T1246 (mkF m 72 (own_loc4 a0 p1 p2 r3 r4) []) _
    refine XS.iconst X1246.here hx rfl (hb hby d19_72) ?_
    show own_S p e below T1246 (mkF m 73 (own_loc4 a0 p1 p2 r3 r4) [.int 1]) _
    refine XS.goto X1246.here hx rfl (pc0 := 73) (pc' := 77) rfl (hb hby d19_73) (by decide) (by decide) ?_
    show own_S p e below T1246 (mkF m 77 (own_loc4 a0 p1 p2 r3 r4) [.int 1]) _
    exact retN X1246 hx (t := .boolean) Bd.returns (by simp) (hb hby d19_77) hr
  · show Q19_0 Z a0 p1 p2 r3 r4 h0 n0 _ T1246.heap _
    rw [e1246]
    exact ⟨rfl, N1246, rfl⟩
theorem ef_19_vvvvv1 (m : MethodId) (a0 : Addr) (p1 : Int32) (p2 : Int32) (r3 : UInt64) (r4 : UInt64) : entryFrame m #[(.ref a0), (.int p1), (.int p2), (.double r3), (.double r4), (.int (1 : Int32))] 9 = mkF m 0 #[.val (.ref a0), .val (.int p1), .val (.int p2), .val (.double r3), .second, .val (.double r4), .second, .val (.int 1), .unset] [] := by first | (simp [entryFrame, mkF, argsToLocals, Value.category]; done) | rfl
abbrev own_loc5 (a0 : Addr) (p1 : Int32) (p2 : Int32) (r3 : UInt64) (r4 : UInt64) : Array Slot := #[.val (.ref a0), .val (.int p1), .val (.int p2), .val (.double r3), .second, .val (.double r4), .second, .val (.int 1), .unset]
theorem d19_5 : decode method_2_code 5 = .ok (.aload_n 0, 1) := by decide +kernel
theorem d19_6 : decode method_2_code 6 = .ok (.invokevirtual 7, 3) := by decide +kernel
theorem d19_9 : decode method_2_code 9 = .ok (.dload_n 3, 1) := by decide +kernel
theorem d19_10 : decode method_2_code 10 = .ok (.dcmp .l, 1) := by decide +kernel
theorem d19_11 : decode method_2_code 11 = .ok (.ifCond .ne 7, 3) := by decide +kernel
theorem d19_14 : decode method_2_code 14 = .ok (.iconst 1, 1) := by decide +kernel
theorem d19_15 : decode method_2_code 15 = .ok (.goto 24, 3) := by decide +kernel
abbrev own_loc6 (a0 : Addr) (p1 : Int32) (p2 : Int32) (r3 : UInt64) (r4 : UInt64) : Array Slot := #[.val (.ref a0), .val (.int p1), .val (.int p2), .val (.double r3), .second, .val (.double r4), .second, .val (.int 1), .val (.int 1)]
def Q19_1 (Z : State) (a0 : Addr) (p1 : Int32) (p2 : Int32) (r3 : UInt64) (r4 : UInt64) (h0 : Heap) (n0 : Nat) (v : Option Value) (h : Heap) (L : List Loc) : Prop := v = some (.int (1 : Int32)) ∧ Fr n0 L ∧ h = h0
set_option maxRecDepth 65536 in
set_option maxHeartbeats 40000000 in
theorem rm19_1 (l : Launch) (Z : State) (ag : Array Value) (hw : ∀ d ∈ tables_1, d.before ag Z = true) (ws : List Jvm.Cond) (a0 : Addr) (p1 : Int32) (p2 : Int32) (r3 : UInt64) (r4 : UInt64) (h0 : Heap) (n0 : Nat) (Z0 : n0 ≤ h0.size) (E_a0 : Exa Z h0 a0 "com/example/rank60/rank60/FusedHit$Contribution") (F_input_a0 : Fld Z h0 a0 "com/example/rank60/rank60/FusedHit$Contribution" "input" "I" (.int p1)) (F_rank_a0 : Fld Z h0 a0 "com/example/rank60/rank60/FusedHit$Contribution" "rank" "I" (.int p2)) (F_score_a0 : Fld Z h0 a0 "com/example/rank60/rank60/FusedHit$Contribution" "score" "D" (.double r3)) (F_value_a0 : Fld Z h0 a0 "com/example/rank60/rank60/FusedHit$Contribution" "value" "D" (.double r4)) (nn3 : Jvm.Free.Fl.NoNaN64 r3) (nn4 : Jvm.Free.Fl.NoNaN64 r4) :
    MetFree l (⟨"com/example/rank60/rank60/ExplanationsAddPinLaw", "matches", "(Lcom/example/rank60/rank60/FusedHit$Contribution;IIDDZ)Z"⟩ : MethodName) (head1 (Jvm.Cond.code (⟨"com/example/rank60/rank60/ExplanationsAddPinLaw", "matches", "(Lcom/example/rank60/rank60/FusedHit$Contribution;IIDDZ)Z"⟩ : MethodName) method_2_code 9 (some .boolean) :: ws) ({ frames := 1, cells := 0, slots := 0, locals := 12 } : Room)) (fun a U => a = #[(.ref a0), (.int p1), (.int p2), (.double r3), (.double r4), (.int (1 : Int32))] ∧ Z.Warmed39 U.vm ∧ U.heap = h0) (fun _ _ _ _ _ => True) (fun _ U o U' => ∃ v L, o = .returned v ∧ Q19_1 Z a0 p1 p2 r3 r4 h0 n0 v U'.heap L ∧ FrameEnd U o U' L ({ frames := 1, cells := 0, slots := 0, locals := 12 } : Room).cells ({ frames := 1, cells := 0, slots := 0, locals := 12 } : Room).slots) := by
  refine MetFree.of_bodySF (plainFor_of_name pn_0) hisR ?_
  intro p e s m args below meth c s₁ Bd hml0 hP hK
  obtain ⟨rfl, hZ, hh⟩ := hP
  have hx := Bd.exec
  have hby := Bd.bytes
  have hml : c.maxLocals = 9 := hml0
  have hown : s.vm.findClass "com/example/rank60/rank60/ExplanationsAddPinLaw" = some m.cls := findClass_of_methodNamed Bd.named
  have hnm := (name_of_methodNamed Bd.named Bd.method).1
  have X0 : Stand p l e ({ frames := 1, cells := 0, slots := 0, locals := 12 } : Room) s m #[(.ref a0), (.int p1), (.int p2), (.double r3), (.double r4), (.int (1 : Int32))] below meth c s₁ [] 0 0 := Stand.of_body Bd
  have e0 : s₁.heap = h0 := by rw [← hh, Bd.state]; rfl
  have N0 := Fr.nil n0
  have pre0 : ∀ t, Steps p.tables e below (s₁.setTop (mkF m 0 #[.val (.ref a0), .val (.int p1), .val (.int p2), .val (.double r3), .second, .val (.double r4), .second, .val (.int 1), .unset] [])) t → Steps p.tables e below (s₁.setTop (entryFrame m #[(.ref a0), (.int p1), (.int p2), (.double r3), (.double r4), (.int (1 : Int32))] 9)) t := fun t k => castTop (ef_19_vvvvv1 m a0 p1 p2 r3 r4) k
  obtain ⟨cq1247, kq1247, q1247a, q1247b, q1247c⟩ := isOf hZ e0 E_a0
  obtain ⟨_, _, ⟨T1247, L1247, k1247, n1247⟩, -, X1247, ⟨Lc1247, hQ1247, l1247, y1247, z1247⟩, st1247⟩ := X0.virtualBack hx (y := (⟨"com/example/rank60/rank60/FusedHit$Contribution", "score", "()D"⟩ : MethodName)) (z := (⟨"com/example/rank60/rank60/FusedHit$Contribution", "score", "()D"⟩ : MethodName)) hown (mvT hZ (own_wk hw 157 rfl)) (mvT hZ (own_wk hw 158 rfl)) (notFace_of_selects (args := #[]) (mvT hZ (own_wk hw 160 rfl))) (mvT hZ (own_wk hw 160 rfl)) (mvT hZ (own_wk hw 159 rfl)) (by decide) (backOf (W := 0) (rm20 l Z ag hw [] a0 r3 h0 n0 Z0 F_score_a0) hZ (own_wk hw 161 rfl) (own_wk hw 129 rfl) (by decide) (by decide)) q1247a q1247c (g := (mkF m 6 (own_loc5 a0 p1 p2 r3 r4) [(.ref a0)])) rfl (by rw [hml]; rfl) (Steps.refl _) (argsL := []) (rest := []) (lenOf pd_0 rfl) rfl (by show 2 * 0 + _ ≤ _; exact Nat.le_of_eq rfl) (hb hby d19_6) (fun _ _ => ⟨rfl, e0, (by decide : 0 + 0 ≤ _), (by decide : 0 + 0 ≤ _)⟩)
  dsimp only [Pt.U, Pt.locs, Pt.cells, Pt.slots] at X1247 l1247 y1247 z1247 st1247 hQ1247
  subst l1247 y1247 z1247
  obtain ⟨rfl, N1247q, e1247⟩ := hQ1247
  have N1247 := Fr.app N0 N1247q
  obtain ⟨cq1248, kq1248, q1248a, q1248b, q1248c⟩ := isOf hZ e1247 E_a0
  obtain ⟨_, _, ⟨T1248, L1248, k1248, n1248⟩, -, X1248, ⟨Lc1248, hQ1248, l1248, y1248, z1248⟩, st1248⟩ := X1247.virtualBack hx (y := (⟨"com/example/rank60/rank60/FusedHit$Contribution", "input", "()I"⟩ : MethodName)) (z := (⟨"com/example/rank60/rank60/FusedHit$Contribution", "input", "()I"⟩ : MethodName)) hown (mvT hZ (own_wk hw 162 rfl)) (mvT hZ (own_wk hw 163 rfl)) (notFace_of_selects (args := #[]) (mvT hZ (own_wk hw 165 rfl))) (mvT hZ (own_wk hw 165 rfl)) (mvT hZ (own_wk hw 164 rfl)) (by decide) (backOf (W := 0) (rm21 l Z ag hw [] a0 p1 h0 n0 Z0 F_input_a0) hZ (own_wk hw 166 rfl) (own_wk hw 129 rfl) (by decide) (by decide)) q1248a q1248c (g := (mkF m 42 (own_loc6 a0 p1 p2 r3 r4) [(.ref a0)])) rfl (by rw [hml]; rfl) (Steps.refl _) (argsL := []) (rest := []) (lenOf pd_1 rfl) rfl (by show 2 * 0 + _ ≤ _; exact Nat.le_of_eq rfl) (hb hby d19_42) (fun _ _ => ⟨rfl, e1247, (by decide : 0 + 0 ≤ _), (by decide : 0 + 0 ≤ _)⟩)
  dsimp only [Pt.U, Pt.locs, Pt.cells, Pt.slots] at X1248 l1248 y1248 z1248 st1248 hQ1248
  subst l1248 y1248 z1248
  obtain ⟨rfl, N1248q, e1248⟩ := hQ1248
  have N1248 := Fr.app N1247 N1248q
  have cp1249 : ∀ target, own_S p e below T1248 (mkF m 50 (own_loc6 a0 p1 p2 r3 r4) [(.ref a0)]) target → own_S p e below s₁ (mkF m 0 (own_loc5 a0 p1 p2 r3 r4) []) target := by
    intro target kt
    show own_S p e below s₁ (mkF m 0 (own_loc5 a0 p1 p2 r3 r4) []) _
    refine XS.iload X0.here hx rfl (hb hby d19_0) rfl ?_
    show own_S p e below s₁ (mkF m 2 (own_loc5 a0 p1 p2 r3 r4) [.int 1]) _
    refine XS.ifNo X0.here hx rfl (hb hby d19_2) rfl ((if0 _ _).trans (feq (by decide : ¬ ((1 : Int32) = (0 : Int32)))).1) ?_
    show own_S p e below s₁ (mkF m 5 (own_loc5 a0 p1 p2 r3 r4) []) _
    refine XS.aloadN X0.here hx rfl (hb hby d19_5) rfl rfl ?_
    show own_S p e below s₁ (mkF m 6 (own_loc5 a0 p1 p2 r3 r4) [(.ref a0)]) _
    refine st1247.trans ?_
    show own_S p e below T1247 (mkF m 9 (own_loc5 a0 p1 p2 r3 r4) [(.double r3)]) _
    refine XS.dloadN X1247.here hx rfl (hb hby d19_9) rfl ?_
    show own_S p e below T1247 (mkF m 10 (own_loc5 a0 p1 p2 r3 r4) [(.double r3), (.double r3)]) _
    refine XS.dcmpS X1247.here hx rfl (hb hby d19_10) rfl rfl ?_
    show own_S p e below T1247 (mkF m 11 (own_loc5 a0 p1 p2 r3 r4) [(.int (cmpValue (FP.dcmp r3 r3) .l))]) _
    refine XS.ifNo X1247.here hx rfl (hb hby d19_11) rfl ((if0 _ _).trans (teq (show (cmpValue (FP.dcmp r3 r3) .l) = (0 : Int32) from Jvm.RoadKit.dcmpV_self nn3 _)).2) ?_
    show own_S p e below T1247 (mkF m 14 (own_loc5 a0 p1 p2 r3 r4) []) _
    refine XS.iconst X1247.here hx rfl (hb hby d19_14) ?_
    show own_S p e below T1247 (mkF m 15 (own_loc5 a0 p1 p2 r3 r4) [.int 1]) _
    refine XS.goto X1247.here hx rfl (pc0 := 15) (pc' := 39) rfl (hb hby d19_15) (by decide) (by decide) ?_
    show own_S p e below T1247 (mkF m 39 (own_loc5 a0 p1 p2 r3 r4) [.int 1]) _
    refine XS.istore X1247.here hx rfl (hb hby d19_39) rfl (l' := (own_loc6 a0 p1 p2 r3 r4)) rfl ?_
    show own_S p e below T1247 (mkF m 41 (own_loc6 a0 p1 p2 r3 r4) []) _
    refine XS.aloadN X1247.here hx rfl (hb hby d19_41) rfl rfl ?_
    show own_S p e below T1247 (mkF m 42 (own_loc6 a0 p1 p2 r3 r4) [(.ref a0)]) _
    refine st1248.trans ?_
    show own_S p e below T1248 (mkF m 45 (own_loc6 a0 p1 p2 r3 r4) [(.int p1)]) _
    refine XS.iloadN X1248.here hx rfl (hb hby d19_45) rfl ?_
    show own_S p e below T1248 (mkF m 46 (own_loc6 a0 p1 p2 r3 r4) [(.int p1), (.int p1)]) _
    refine XS.icmpNo X1248.here hx rfl (hb hby d19_46) rfl (teq (show p1 = p1 from rfl)).2 ?_
    show own_S p e below T1248 (mkF m 49 (own_loc6 a0 p1 p2 r3 r4) []) _
    refine XS.aloadN X1248.here hx rfl (hb hby d19_49) rfl rfl ?_
    exact kt
  obtain ⟨cq1250, kq1250, q1250a, q1250b, q1250c⟩ := isOf hZ e1248 E_a0
  obtain ⟨_, _, ⟨T1250, L1250, k1250, n1250⟩, -, X1250, ⟨Lc1250, hQ1250, l1250, y1250, z1250⟩, st1250⟩ := X1248.virtualBack hx (y := (⟨"com/example/rank60/rank60/FusedHit$Contribution", "rank", "()I"⟩ : MethodName)) (z := (⟨"com/example/rank60/rank60/FusedHit$Contribution", "rank", "()I"⟩ : MethodName)) hown (mvT hZ (own_wk hw 167 rfl)) (mvT hZ (own_wk hw 168 rfl)) (notFace_of_selects (args := #[]) (mvT hZ (own_wk hw 170 rfl))) (mvT hZ (own_wk hw 170 rfl)) (mvT hZ (own_wk hw 169 rfl)) (by decide) (backOf (W := 0) (rm22 l Z ag hw [] a0 p2 h0 n0 Z0 F_rank_a0) hZ (own_wk hw 171 rfl) (own_wk hw 129 rfl) (by decide) (by decide)) q1250a q1250c (g := (mkF m 50 (own_loc6 a0 p1 p2 r3 r4) [(.ref a0)])) rfl (by rw [hml]; rfl) (Steps.refl _) (argsL := []) (rest := []) (lenOf pd_1 rfl) rfl (by show 2 * 0 + _ ≤ _; exact Nat.le_of_eq rfl) (hb hby d19_50) (fun _ _ => ⟨rfl, e1248, (by decide : 0 + 0 ≤ _), (by decide : 0 + 0 ≤ _)⟩)
  dsimp only [Pt.U, Pt.locs, Pt.cells, Pt.slots] at X1250 l1250 y1250 z1250 st1250 hQ1250
  subst l1250 y1250 z1250
  obtain ⟨rfl, N1250q, e1250⟩ := hQ1250
  have N1250 := Fr.app N1248 N1250q
  obtain ⟨cq1251, kq1251, q1251a, q1251b, q1251c⟩ := isOf hZ e1250 E_a0
  obtain ⟨_, _, ⟨T1251, L1251, k1251, n1251⟩, -, X1251, ⟨Lc1251, hQ1251, l1251, y1251, z1251⟩, st1251⟩ := X1250.virtualBack hx (y := (⟨"com/example/rank60/rank60/FusedHit$Contribution", "value", "()D"⟩ : MethodName)) (z := (⟨"com/example/rank60/rank60/FusedHit$Contribution", "value", "()D"⟩ : MethodName)) hown (mvT hZ (own_wk hw 172 rfl)) (mvT hZ (own_wk hw 173 rfl)) (notFace_of_selects (args := #[]) (mvT hZ (own_wk hw 175 rfl))) (mvT hZ (own_wk hw 175 rfl)) (mvT hZ (own_wk hw 174 rfl)) (by decide) (backOf (W := 0) (rm23 l Z ag hw [] a0 r4 h0 n0 Z0 F_value_a0) hZ (own_wk hw 176 rfl) (own_wk hw 129 rfl) (by decide) (by decide)) q1251a q1251c (g := (mkF m 63 (own_loc6 a0 p1 p2 r3 r4) [(.ref a0)])) rfl (by rw [hml]; rfl) (Steps.refl _) (argsL := []) (rest := []) (lenOf pd_0 rfl) rfl (by show 2 * 0 + _ ≤ _; exact Nat.le_of_eq rfl) (hb hby d19_63) (fun _ _ => ⟨rfl, e1250, (by decide : 0 + 0 ≤ _), (by decide : 0 + 0 ≤ _)⟩)
  dsimp only [Pt.U, Pt.locs, Pt.cells, Pt.slots] at X1251 l1251 y1251 z1251 st1251 hQ1251
  subst l1251 y1251 z1251
  obtain ⟨rfl, N1251q, e1251⟩ := hQ1251
  have N1251 := Fr.app N1250 N1251q
  obtain ⟨fs, hr, hrun, hended, hW, hsame⟩ := X1251.leave (v := some (.int (1 : Int32))) (fun h => by rw [Bd.returns] at h; cases h)
  refine ⟨_, _, pre0 _ ?_, hrun, hended, _, _, rfl, ?_, ⟨_, rfl⟩, hW, hsame.mono (by decide) (by decide)⟩
  · show own_S p e below s₁ (mkF m 0 (own_loc5 a0 p1 p2 r3 r4) []) _
    refine cp1249 _ ?_
    show own_S p e below T1248 (mkF m 50 (own_loc6 a0 p1 p2 r3 r4) [(.ref a0)]) _
    refine st1250.trans ?_
    show own_S p e below T1250 (mkF m 53 (own_loc6 a0 p1 p2 r3 r4) [(.int p2)]) _
    refine XS.iloadN X1250.here hx rfl (hb hby d19_53) rfl ?_
    show own_S p e below T1250 (mkF m 54 (own_loc6 a0 p1 p2 r3 r4) [(.int p2), (.int p2)]) _
    refine XS.icmpNo X1250.here hx rfl (hb hby d19_54) rfl (teq (show p2 = p2 from rfl)).2 ?_
    show own_S p e below T1250 (mkF m 57 (own_loc6 a0 p1 p2 r3 r4) []) _
    refine XS.iload X1250.here hx rfl (hb hby d19_57) rfl ?_
    show own_S p e below T1250 (mkF m 59 (own_loc6 a0 p1 p2 r3 r4) [.int 1]) _
    refine XS.ifNo X1250.here hx rfl (hb hby d19_59) rfl ((if0 _ _).trans (feq (by decide : ¬ ((1 : Int32) = (0 : Int32)))).1) ?_
    show own_S p e below T1250 (mkF m 62 (own_loc6 a0 p1 p2 r3 r4) []) _
    refine XS.aloadN X1250.here hx rfl (hb hby d19_62) rfl rfl ?_
    show own_S p e below T1250 (mkF m 63 (own_loc6 a0 p1 p2 r3 r4) [(.ref a0)]) _
    refine st1251.trans ?_
    show own_S p e below T1251 (mkF m 66 (own_loc6 a0 p1 p2 r3 r4) [(.double r4)]) _
    refine XS.dload X1251.here hx rfl (hb hby d19_66) rfl ?_
    show own_S p e below T1251 (mkF m 68 (own_loc6 a0 p1 p2 r3 r4) [(.double r4), (.double r4)]) _
    refine XS.dcmpS X1251.here hx rfl (hb hby d19_68) rfl rfl ?_
    show own_S p e below T1251 (mkF m 69 (own_loc6 a0 p1 p2 r3 r4) [(.int (cmpValue (FP.dcmp r4 r4) .l))]) _
    refine XS.ifNo X1251.here hx rfl (hb hby d19_69) rfl ((if0 _ _).trans (teq (show (cmpValue (FP.dcmp r4 r4) .l) = (0 : Int32) from Jvm.RoadKit.dcmpV_self nn4 _)).2) ?_
    show own_S p e below T1251 (mkF m 72 (own_loc6 a0 p1 p2 r3 r4) []) _
    refine XS.iconst X1251.here hx rfl (hb hby d19_72) ?_
    show own_S p e below T1251 (mkF m 73 (own_loc6 a0 p1 p2 r3 r4) [.int 1]) _
    refine XS.goto X1251.here hx rfl (pc0 := 73) (pc' := 77) rfl (hb hby d19_73) (by decide) (by decide) ?_
    show own_S p e below T1251 (mkF m 77 (own_loc6 a0 p1 p2 r3 r4) [.int 1]) _
    exact retN X1251 hx (t := .boolean) Bd.returns (by simp) (hb hby d19_77) hr
  · show Q19_1 Z a0 p1 p2 r3 r4 h0 n0 _ T1251.heap _
    rw [e1251]
    exact ⟨rfl, N1251, rfl⟩
theorem ef_0 (m : MethodId) (p0 : Int32) (p1 : Int32) (p2 : Int32) (p3 : Int32) (p4 : Int32) (p5 : Int32) : entryFrame m #[(.int p0), (.int p1), (.int p2), (.int p3), (.int p4), (.int p5)] maxLocals = mkF m 0 #[.val (.int p0), .val (.int p1), .val (.int p2), .val (.int p3), .val (.int p4), .val (.int p5), .unset, .unset, .unset, .unset, .unset, .unset, .unset, .unset, .unset, .unset, .unset, .unset, .unset, .unset, .unset, .unset, .unset, .unset] [] := by first | (simp [entryFrame, mkF, argsToLocals, Value.category, maxLocals]; done) | rfl
abbrev own_loc7 (p0 : Int32) (p1 : Int32) (p2 : Int32) (p3 : Int32) (p4 : Int32) (p5 : Int32) : Array Slot := #[.val (.int p0), .val (.int p1), .val (.int p2), .val (.int p3), .val (.int p4), .val (.int p5), .unset, .unset, .unset, .unset, .unset, .unset, .unset, .unset, .unset, .unset, .unset, .unset, .unset, .unset, .unset, .unset, .unset, .unset]
abbrev own_loc8 (p0 : Int32) (p1 : Int32) (p2 : Int32) (p3 : Int32) (p4 : Int32) (p5 : Int32) : Array Slot := #[.val (.int p0), .val (.int p1), .val (.int p2), .val (.int p3), .val (.int p4), .val (.int p5), .val (.int 0), .unset, .unset, .unset, .unset, .unset, .unset, .unset, .unset, .unset, .unset, .unset, .unset, .unset, .unset, .unset, .unset, .unset]
abbrev own_loc9 (p0 : Int32) (p1 : Int32) (p2 : Int32) (p3 : Int32) (p4 : Int32) (p5 : Int32) : Array Slot := #[.val (.int p0), .val (.int p1), .val (.int p2), .val (.int p3), .val (.int p4), .val (.int p5), .val (.int 0), .val (.int ((own_ushr p5 (1 : Int32)) % (3 : Int32))), .unset, .unset, .unset, .unset, .unset, .unset, .unset, .unset, .unset, .unset, .unset, .unset, .unset, .unset, .unset, .unset]
abbrev own_loc10 (p0 : Int32) (p1 : Int32) (p2 : Int32) (p3 : Int32) (p4 : Int32) (p5 : Int32) : Array Slot := #[.val (.int p0), .val (.int p1), .val (.int p2), .val (.int p3), .val (.int p4), .val (.int p5), .val (.int 0), .val (.int ((own_ushr p5 (1 : Int32)) % (3 : Int32))), .val (.double (FP.i2d (p4.toInt8.toInt32))), .second, .unset, .unset, .unset, .unset, .unset, .unset, .unset, .unset, .unset, .unset, .unset, .unset, .unset, .unset]
abbrev own_loc11 (p0 : Int32) (p1 : Int32) (p2 : Int32) (p3 : Int32) (p4 : Int32) (p5 : Int32) : Array Slot := #[.val (.int p0), .val (.int p1), .val (.int p2), .val (.int p3), .val (.int p4), .val (.int p5), .val (.int 0), .val (.int ((own_ushr p5 (1 : Int32)) % (3 : Int32))), .val (.double (FP.i2d (p4.toInt8.toInt32))), .second, .val (.double (FP.i2d ((p4 >>> ((8 : Int32) &&& 31)).toInt8.toInt32))), .second, .unset, .unset, .unset, .unset, .unset, .unset, .unset, .unset, .unset, .unset, .unset, .unset]
abbrev own_loc12 (p0 : Int32) (p1 : Int32) (p2 : Int32) (p3 : Int32) (p4 : Int32) (p5 : Int32) : Array Slot := #[.val (.int p0), .val (.int p1), .val (.int p2), .val (.int p3), .val (.int p4), .val (.int p5), .val (.int 0), .val (.int ((own_ushr p5 (1 : Int32)) % (3 : Int32))), .val (.double (FP.i2d (p4.toInt8.toInt32))), .second, .val (.double (FP.i2d ((p4 >>> ((8 : Int32) &&& 31)).toInt8.toInt32))), .second, .val (.double (FP.i2d ((p4 >>> ((16 : Int32) &&& 31)).toInt8.toInt32))), .second, .unset, .unset, .unset, .unset, .unset, .unset, .unset, .unset, .unset, .unset]
abbrev own_loc13 (p0 : Int32) (p1 : Int32) (p2 : Int32) (p3 : Int32) (p4 : Int32) (p5 : Int32) : Array Slot := #[.val (.int p0), .val (.int p1), .val (.int p2), .val (.int p3), .val (.int p4), .val (.int p5), .val (.int 0), .val (.int ((own_ushr p5 (1 : Int32)) % (3 : Int32))), .val (.double (FP.i2d (p4.toInt8.toInt32))), .second, .val (.double (FP.i2d ((p4 >>> ((8 : Int32) &&& 31)).toInt8.toInt32))), .second, .val (.double (FP.i2d ((p4 >>> ((16 : Int32) &&& 31)).toInt8.toInt32))), .second, .val (.double (FP.i2d ((p4 >>> ((24 : Int32) &&& 31)).toInt8.toInt32))), .second, .unset, .unset, .unset, .unset, .unset, .unset, .unset, .unset]
theorem pd_9 : parseMethodDescriptor "(IIZ)V" = some ⟨[.int, .int, .boolean], none⟩ := by decide +kernel
abbrev own_loc14 (p0 : Int32) (p1 : Int32) (p2 : Int32) (p3 : Int32) (p4 : Int32) (p5 : Int32) (b1254 : Addr) : Array Slot := #[.val (.int p0), .val (.int p1), .val (.int p2), .val (.int p3), .val (.int p4), .val (.int p5), .val (.int 0), .val (.int ((own_ushr p5 (1 : Int32)) % (3 : Int32))), .val (.double (FP.i2d (p4.toInt8.toInt32))), .second, .val (.double (FP.i2d ((p4 >>> ((8 : Int32) &&& 31)).toInt8.toInt32))), .second, .val (.double (FP.i2d ((p4 >>> ((16 : Int32) &&& 31)).toInt8.toInt32))), .second, .val (.double (FP.i2d ((p4 >>> ((24 : Int32) &&& 31)).toInt8.toInt32))), .second, .val (.ref b1254), .unset, .unset, .unset, .unset, .unset, .unset, .unset]
abbrev own_loc15 (p0 : Int32) (p1 : Int32) (p2 : Int32) (p3 : Int32) (p4 : Int32) (p5 : Int32) (b1254 : Addr) (b1264 : Addr) : Array Slot := #[.val (.int p0), .val (.int p1), .val (.int p2), .val (.int p3), .val (.int p4), .val (.int p5), .val (.int 0), .val (.int ((own_ushr p5 (1 : Int32)) % (3 : Int32))), .val (.double (FP.i2d (p4.toInt8.toInt32))), .second, .val (.double (FP.i2d ((p4 >>> ((8 : Int32) &&& 31)).toInt8.toInt32))), .second, .val (.double (FP.i2d ((p4 >>> ((16 : Int32) &&& 31)).toInt8.toInt32))), .second, .val (.double (FP.i2d ((p4 >>> ((24 : Int32) &&& 31)).toInt8.toInt32))), .second, .val (.ref b1254), .val (.ref b1264), .unset, .unset, .unset, .unset, .unset, .unset]
abbrev own_loc16 (p0 : Int32) (p1 : Int32) (p2 : Int32) (p3 : Int32) (p4 : Int32) (p5 : Int32) (b1254 : Addr) (b1264 : Addr) (b1283 : Addr) : Array Slot := #[.val (.int p0), .val (.int p1), .val (.int p2), .val (.int p3), .val (.int p4), .val (.int p5), .val (.int 0), .val (.int ((own_ushr p5 (1 : Int32)) % (3 : Int32))), .val (.double (FP.i2d (p4.toInt8.toInt32))), .second, .val (.double (FP.i2d ((p4 >>> ((8 : Int32) &&& 31)).toInt8.toInt32))), .second, .val (.double (FP.i2d ((p4 >>> ((16 : Int32) &&& 31)).toInt8.toInt32))), .second, .val (.double (FP.i2d ((p4 >>> ((24 : Int32) &&& 31)).toInt8.toInt32))), .second, .val (.ref b1254), .val (.ref b1264), .val (.ref b1283), .unset, .unset, .unset, .unset, .unset]
theorem pd_12 : parseMethodDescriptor "([Ljava/lang/String;[DILcom/example/rank60/rank60/FusedList$Explanations;)V" = some ⟨[(.array (.object "java/lang/String")), (.array .double), .int, (.object "com/example/rank60/rank60/FusedList$Explanations")], none⟩ := by decide +kernel
abbrev own_loc17 (p0 : Int32) (p1 : Int32) (p2 : Int32) (p3 : Int32) (p4 : Int32) (p5 : Int32) (b1254 : Addr) (b1264 : Addr) (b1283 : Addr) (b1335 : Addr) : Array Slot := #[.val (.int p0), .val (.int p1), .val (.int p2), .val (.int p3), .val (.int p4), .val (.int p5), .val (.int 0), .val (.int ((own_ushr p5 (1 : Int32)) % (3 : Int32))), .val (.double (FP.i2d (p4.toInt8.toInt32))), .second, .val (.double (FP.i2d ((p4 >>> ((8 : Int32) &&& 31)).toInt8.toInt32))), .second, .val (.double (FP.i2d ((p4 >>> ((16 : Int32) &&& 31)).toInt8.toInt32))), .second, .val (.double (FP.i2d ((p4 >>> ((24 : Int32) &&& 31)).toInt8.toInt32))), .second, .val (.ref b1254), .val (.ref b1264), .val (.ref b1283), .val (.ref b1335), .unset, .unset, .unset, .unset]
abbrev own_loc18 (p0 : Int32) (p1 : Int32) (p2 : Int32) (p3 : Int32) (p4 : Int32) (p5 : Int32) (b1254 : Addr) (b1264 : Addr) (b1283 : Addr) (b1335 : Addr) (r1376 : Addr) : Array Slot := #[.val (.int p0), .val (.int p1), .val (.int p2), .val (.int p3), .val (.int p4), .val (.int p5), .val (.int 0), .val (.int ((own_ushr p5 (1 : Int32)) % (3 : Int32))), .val (.double (FP.i2d (p4.toInt8.toInt32))), .second, .val (.double (FP.i2d ((p4 >>> ((8 : Int32) &&& 31)).toInt8.toInt32))), .second, .val (.double (FP.i2d ((p4 >>> ((16 : Int32) &&& 31)).toInt8.toInt32))), .second, .val (.double (FP.i2d ((p4 >>> ((24 : Int32) &&& 31)).toInt8.toInt32))), .second, .val (.ref b1254), .val (.ref b1264), .val (.ref b1283), .val (.ref b1335), .val (.ref r1376), .unset, .unset, .unset]
abbrev own_loc19 (p0 : Int32) (p1 : Int32) (p2 : Int32) (p3 : Int32) (p4 : Int32) (p5 : Int32) (b1254 : Addr) (b1264 : Addr) (b1283 : Addr) (b1335 : Addr) (r1376 : Addr) (r1395 : Addr) : Array Slot := #[.val (.int p0), .val (.int p1), .val (.int p2), .val (.int p3), .val (.int p4), .val (.int p5), .val (.int 0), .val (.int ((own_ushr p5 (1 : Int32)) % (3 : Int32))), .val (.double (FP.i2d (p4.toInt8.toInt32))), .second, .val (.double (FP.i2d ((p4 >>> ((8 : Int32) &&& 31)).toInt8.toInt32))), .second, .val (.double (FP.i2d ((p4 >>> ((16 : Int32) &&& 31)).toInt8.toInt32))), .second, .val (.double (FP.i2d ((p4 >>> ((24 : Int32) &&& 31)).toInt8.toInt32))), .second, .val (.ref b1254), .val (.ref b1264), .val (.ref b1283), .val (.ref b1335), .val (.ref r1376), .val (.ref r1395), .unset, .unset]
theorem pd_4 : parseMethodDescriptor "(I)Ljava/lang/Object;" = some ⟨[.int], some (.object "java/lang/Object")⟩ := by decide +kernel
abbrev own_loc20 (p0 : Int32) (p1 : Int32) (p2 : Int32) (p3 : Int32) (p4 : Int32) (p5 : Int32) (b1254 : Addr) (b1264 : Addr) (b1283 : Addr) (b1335 : Addr) (r1376 : Addr) (r1395 : Addr) (r1421 : Addr) : Array Slot := #[.val (.int p0), .val (.int p1), .val (.int p2), .val (.int p3), .val (.int p4), .val (.int p5), .val (.int 0), .val (.int ((own_ushr p5 (1 : Int32)) % (3 : Int32))), .val (.double (FP.i2d (p4.toInt8.toInt32))), .second, .val (.double (FP.i2d ((p4 >>> ((8 : Int32) &&& 31)).toInt8.toInt32))), .second, .val (.double (FP.i2d ((p4 >>> ((16 : Int32) &&& 31)).toInt8.toInt32))), .second, .val (.double (FP.i2d ((p4 >>> ((24 : Int32) &&& 31)).toInt8.toInt32))), .second, .val (.ref b1254), .val (.ref b1264), .val (.ref b1283), .val (.ref b1335), .val (.ref r1376), .val (.ref r1395), .val (.ref r1421), .unset]
abbrev own_loc21 (p0 : Int32) (p1 : Int32) (p2 : Int32) (p3 : Int32) (p4 : Int32) (p5 : Int32) (b1254 : Addr) (b1264 : Addr) (b1283 : Addr) (b1335 : Addr) (r1376 : Addr) (r1395 : Addr) (r1421 : Addr) (r1450 : Addr) : Array Slot := #[.val (.int p0), .val (.int p1), .val (.int p2), .val (.int p3), .val (.int p4), .val (.int p5), .val (.int 0), .val (.int ((own_ushr p5 (1 : Int32)) % (3 : Int32))), .val (.double (FP.i2d (p4.toInt8.toInt32))), .second, .val (.double (FP.i2d ((p4 >>> ((8 : Int32) &&& 31)).toInt8.toInt32))), .second, .val (.double (FP.i2d ((p4 >>> ((16 : Int32) &&& 31)).toInt8.toInt32))), .second, .val (.double (FP.i2d ((p4 >>> ((24 : Int32) &&& 31)).toInt8.toInt32))), .second, .val (.ref b1254), .val (.ref b1264), .val (.ref b1283), .val (.ref b1335), .val (.ref r1376), .val (.ref r1395), .val (.ref r1421), .val (.ref r1450)]
theorem pd_10 : parseMethodDescriptor "(Lcom/example/rank60/rank60/FusedHit$Contribution;IIDDZ)Z" = some ⟨[(.object "com/example/rank60/rank60/FusedHit$Contribution"), .int, .int, .double, .double, .boolean], some .boolean⟩ := by decide +kernel
abbrev own_loc22 (p0 : Int32) (p1 : Int32) (p2 : Int32) (p3 : Int32) (p4 : Int32) (p5 : Int32) (b1254 : Addr) (b1264 : Addr) (b1283 : Addr) (b1517 : Addr) : Array Slot := #[.val (.int p0), .val (.int p1), .val (.int p2), .val (.int p3), .val (.int p4), .val (.int p5), .val (.int 0), .val (.int ((own_ushr p5 (1 : Int32)) % (3 : Int32))), .val (.double (FP.i2d (p4.toInt8.toInt32))), .second, .val (.double (FP.i2d ((p4 >>> ((8 : Int32) &&& 31)).toInt8.toInt32))), .second, .val (.double (FP.i2d ((p4 >>> ((16 : Int32) &&& 31)).toInt8.toInt32))), .second, .val (.double (FP.i2d ((p4 >>> ((24 : Int32) &&& 31)).toInt8.toInt32))), .second, .val (.ref b1254), .val (.ref b1264), .val (.ref b1283), .val (.ref b1517), .unset, .unset, .unset, .unset]
abbrev own_loc23 (p0 : Int32) (p1 : Int32) (p2 : Int32) (p3 : Int32) (p4 : Int32) (p5 : Int32) (b1254 : Addr) (b1264 : Addr) (b1283 : Addr) (b1517 : Addr) (r1557 : Addr) : Array Slot := #[.val (.int p0), .val (.int p1), .val (.int p2), .val (.int p3), .val (.int p4), .val (.int p5), .val (.int 0), .val (.int ((own_ushr p5 (1 : Int32)) % (3 : Int32))), .val (.double (FP.i2d (p4.toInt8.toInt32))), .second, .val (.double (FP.i2d ((p4 >>> ((8 : Int32) &&& 31)).toInt8.toInt32))), .second, .val (.double (FP.i2d ((p4 >>> ((16 : Int32) &&& 31)).toInt8.toInt32))), .second, .val (.double (FP.i2d ((p4 >>> ((24 : Int32) &&& 31)).toInt8.toInt32))), .second, .val (.ref b1254), .val (.ref b1264), .val (.ref b1283), .val (.ref b1517), .val (.ref r1557), .unset, .unset, .unset]
abbrev own_loc24 (p0 : Int32) (p1 : Int32) (p2 : Int32) (p3 : Int32) (p4 : Int32) (p5 : Int32) (b1254 : Addr) (b1264 : Addr) (b1283 : Addr) (b1517 : Addr) (r1557 : Addr) (r1577 : Addr) : Array Slot := #[.val (.int p0), .val (.int p1), .val (.int p2), .val (.int p3), .val (.int p4), .val (.int p5), .val (.int 0), .val (.int ((own_ushr p5 (1 : Int32)) % (3 : Int32))), .val (.double (FP.i2d (p4.toInt8.toInt32))), .second, .val (.double (FP.i2d ((p4 >>> ((8 : Int32) &&& 31)).toInt8.toInt32))), .second, .val (.double (FP.i2d ((p4 >>> ((16 : Int32) &&& 31)).toInt8.toInt32))), .second, .val (.double (FP.i2d ((p4 >>> ((24 : Int32) &&& 31)).toInt8.toInt32))), .second, .val (.ref b1254), .val (.ref b1264), .val (.ref b1283), .val (.ref b1517), .val (.ref r1557), .val (.ref r1577), .unset, .unset]
abbrev own_loc25 (p0 : Int32) (p1 : Int32) (p2 : Int32) (p3 : Int32) (p4 : Int32) (p5 : Int32) (b1254 : Addr) (b1264 : Addr) (b1283 : Addr) (b1517 : Addr) (r1557 : Addr) (r1577 : Addr) (r1603 : Addr) : Array Slot := #[.val (.int p0), .val (.int p1), .val (.int p2), .val (.int p3), .val (.int p4), .val (.int p5), .val (.int 0), .val (.int ((own_ushr p5 (1 : Int32)) % (3 : Int32))), .val (.double (FP.i2d (p4.toInt8.toInt32))), .second, .val (.double (FP.i2d ((p4 >>> ((8 : Int32) &&& 31)).toInt8.toInt32))), .second, .val (.double (FP.i2d ((p4 >>> ((16 : Int32) &&& 31)).toInt8.toInt32))), .second, .val (.double (FP.i2d ((p4 >>> ((24 : Int32) &&& 31)).toInt8.toInt32))), .second, .val (.ref b1254), .val (.ref b1264), .val (.ref b1283), .val (.ref b1517), .val (.ref r1557), .val (.ref r1577), .val (.ref r1603), .unset]
abbrev own_loc26 (p0 : Int32) (p1 : Int32) (p2 : Int32) (p3 : Int32) (p4 : Int32) (p5 : Int32) (b1254 : Addr) (b1264 : Addr) (b1283 : Addr) (b1517 : Addr) (r1557 : Addr) (r1577 : Addr) (r1603 : Addr) (r1631 : Addr) : Array Slot := #[.val (.int p0), .val (.int p1), .val (.int p2), .val (.int p3), .val (.int p4), .val (.int p5), .val (.int 0), .val (.int ((own_ushr p5 (1 : Int32)) % (3 : Int32))), .val (.double (FP.i2d (p4.toInt8.toInt32))), .second, .val (.double (FP.i2d ((p4 >>> ((8 : Int32) &&& 31)).toInt8.toInt32))), .second, .val (.double (FP.i2d ((p4 >>> ((16 : Int32) &&& 31)).toInt8.toInt32))), .second, .val (.double (FP.i2d ((p4 >>> ((24 : Int32) &&& 31)).toInt8.toInt32))), .second, .val (.ref b1254), .val (.ref b1264), .val (.ref b1283), .val (.ref b1517), .val (.ref r1557), .val (.ref r1577), .val (.ref r1603), .val (.ref r1631)]
abbrev own_loc27 (p0 : Int32) (p1 : Int32) (p2 : Int32) (p3 : Int32) (p4 : Int32) (p5 : Int32) (b1254 : Addr) (b1264 : Addr) (b1283 : Addr) (b1690 : Addr) : Array Slot := #[.val (.int p0), .val (.int p1), .val (.int p2), .val (.int p3), .val (.int p4), .val (.int p5), .val (.int 0), .val (.int ((own_ushr p5 (1 : Int32)) % (3 : Int32))), .val (.double (FP.i2d (p4.toInt8.toInt32))), .second, .val (.double (FP.i2d ((p4 >>> ((8 : Int32) &&& 31)).toInt8.toInt32))), .second, .val (.double (FP.i2d ((p4 >>> ((16 : Int32) &&& 31)).toInt8.toInt32))), .second, .val (.double (FP.i2d ((p4 >>> ((24 : Int32) &&& 31)).toInt8.toInt32))), .second, .val (.ref b1254), .val (.ref b1264), .val (.ref b1283), .val (.ref b1690), .unset, .unset, .unset, .unset]
abbrev own_loc28 (p0 : Int32) (p1 : Int32) (p2 : Int32) (p3 : Int32) (p4 : Int32) (p5 : Int32) (b1254 : Addr) (b1264 : Addr) (b1283 : Addr) (b1690 : Addr) (r1730 : Addr) : Array Slot := #[.val (.int p0), .val (.int p1), .val (.int p2), .val (.int p3), .val (.int p4), .val (.int p5), .val (.int 0), .val (.int ((own_ushr p5 (1 : Int32)) % (3 : Int32))), .val (.double (FP.i2d (p4.toInt8.toInt32))), .second, .val (.double (FP.i2d ((p4 >>> ((8 : Int32) &&& 31)).toInt8.toInt32))), .second, .val (.double (FP.i2d ((p4 >>> ((16 : Int32) &&& 31)).toInt8.toInt32))), .second, .val (.double (FP.i2d ((p4 >>> ((24 : Int32) &&& 31)).toInt8.toInt32))), .second, .val (.ref b1254), .val (.ref b1264), .val (.ref b1283), .val (.ref b1690), .val (.ref r1730), .unset, .unset, .unset]
abbrev own_loc29 (p0 : Int32) (p1 : Int32) (p2 : Int32) (p3 : Int32) (p4 : Int32) (p5 : Int32) (b1254 : Addr) (b1264 : Addr) (b1283 : Addr) (b1690 : Addr) (r1730 : Addr) (r1750 : Addr) : Array Slot := #[.val (.int p0), .val (.int p1), .val (.int p2), .val (.int p3), .val (.int p4), .val (.int p5), .val (.int 0), .val (.int ((own_ushr p5 (1 : Int32)) % (3 : Int32))), .val (.double (FP.i2d (p4.toInt8.toInt32))), .second, .val (.double (FP.i2d ((p4 >>> ((8 : Int32) &&& 31)).toInt8.toInt32))), .second, .val (.double (FP.i2d ((p4 >>> ((16 : Int32) &&& 31)).toInt8.toInt32))), .second, .val (.double (FP.i2d ((p4 >>> ((24 : Int32) &&& 31)).toInt8.toInt32))), .second, .val (.ref b1254), .val (.ref b1264), .val (.ref b1283), .val (.ref b1690), .val (.ref r1730), .val (.ref r1750), .unset, .unset]
abbrev own_loc30 (p0 : Int32) (p1 : Int32) (p2 : Int32) (p3 : Int32) (p4 : Int32) (p5 : Int32) (b1254 : Addr) (b1264 : Addr) (b1283 : Addr) (b1690 : Addr) (r1730 : Addr) (r1750 : Addr) (r1776 : Addr) : Array Slot := #[.val (.int p0), .val (.int p1), .val (.int p2), .val (.int p3), .val (.int p4), .val (.int p5), .val (.int 0), .val (.int ((own_ushr p5 (1 : Int32)) % (3 : Int32))), .val (.double (FP.i2d (p4.toInt8.toInt32))), .second, .val (.double (FP.i2d ((p4 >>> ((8 : Int32) &&& 31)).toInt8.toInt32))), .second, .val (.double (FP.i2d ((p4 >>> ((16 : Int32) &&& 31)).toInt8.toInt32))), .second, .val (.double (FP.i2d ((p4 >>> ((24 : Int32) &&& 31)).toInt8.toInt32))), .second, .val (.ref b1254), .val (.ref b1264), .val (.ref b1283), .val (.ref b1690), .val (.ref r1730), .val (.ref r1750), .val (.ref r1776), .unset]
abbrev own_loc31 (p0 : Int32) (p1 : Int32) (p2 : Int32) (p3 : Int32) (p4 : Int32) (p5 : Int32) (b1254 : Addr) (b1264 : Addr) (b1283 : Addr) (b1690 : Addr) (r1730 : Addr) (r1750 : Addr) (r1776 : Addr) (r1804 : Addr) : Array Slot := #[.val (.int p0), .val (.int p1), .val (.int p2), .val (.int p3), .val (.int p4), .val (.int p5), .val (.int 0), .val (.int ((own_ushr p5 (1 : Int32)) % (3 : Int32))), .val (.double (FP.i2d (p4.toInt8.toInt32))), .second, .val (.double (FP.i2d ((p4 >>> ((8 : Int32) &&& 31)).toInt8.toInt32))), .second, .val (.double (FP.i2d ((p4 >>> ((16 : Int32) &&& 31)).toInt8.toInt32))), .second, .val (.double (FP.i2d ((p4 >>> ((24 : Int32) &&& 31)).toInt8.toInt32))), .second, .val (.ref b1254), .val (.ref b1264), .val (.ref b1283), .val (.ref b1690), .val (.ref r1730), .val (.ref r1750), .val (.ref r1776), .val (.ref r1804)]
abbrev own_loc32 (p0 : Int32) (p1 : Int32) (p2 : Int32) (p3 : Int32) (p4 : Int32) (p5 : Int32) : Array Slot := #[.val (.int p0), .val (.int p1), .val (.int p2), .val (.int p3), .val (.int p4), .val (.int p5), .val (.int 1), .unset, .unset, .unset, .unset, .unset, .unset, .unset, .unset, .unset, .unset, .unset, .unset, .unset, .unset, .unset, .unset, .unset]
abbrev own_loc33 (p0 : Int32) (p1 : Int32) (p2 : Int32) (p3 : Int32) (p4 : Int32) (p5 : Int32) : Array Slot := #[.val (.int p0), .val (.int p1), .val (.int p2), .val (.int p3), .val (.int p4), .val (.int p5), .val (.int 1), .val (.int ((own_ushr p5 (1 : Int32)) % (3 : Int32))), .unset, .unset, .unset, .unset, .unset, .unset, .unset, .unset, .unset, .unset, .unset, .unset, .unset, .unset, .unset, .unset]
abbrev own_loc34 (p0 : Int32) (p1 : Int32) (p2 : Int32) (p3 : Int32) (p4 : Int32) (p5 : Int32) : Array Slot := #[.val (.int p0), .val (.int p1), .val (.int p2), .val (.int p3), .val (.int p4), .val (.int p5), .val (.int 1), .val (.int ((own_ushr p5 (1 : Int32)) % (3 : Int32))), .val (.double (FP.i2d (p4.toInt8.toInt32))), .second, .unset, .unset, .unset, .unset, .unset, .unset, .unset, .unset, .unset, .unset, .unset, .unset, .unset, .unset]
abbrev own_loc35 (p0 : Int32) (p1 : Int32) (p2 : Int32) (p3 : Int32) (p4 : Int32) (p5 : Int32) : Array Slot := #[.val (.int p0), .val (.int p1), .val (.int p2), .val (.int p3), .val (.int p4), .val (.int p5), .val (.int 1), .val (.int ((own_ushr p5 (1 : Int32)) % (3 : Int32))), .val (.double (FP.i2d (p4.toInt8.toInt32))), .second, .val (.double (FP.i2d ((p4 >>> ((8 : Int32) &&& 31)).toInt8.toInt32))), .second, .unset, .unset, .unset, .unset, .unset, .unset, .unset, .unset, .unset, .unset, .unset, .unset]
abbrev own_loc36 (p0 : Int32) (p1 : Int32) (p2 : Int32) (p3 : Int32) (p4 : Int32) (p5 : Int32) : Array Slot := #[.val (.int p0), .val (.int p1), .val (.int p2), .val (.int p3), .val (.int p4), .val (.int p5), .val (.int 1), .val (.int ((own_ushr p5 (1 : Int32)) % (3 : Int32))), .val (.double (FP.i2d (p4.toInt8.toInt32))), .second, .val (.double (FP.i2d ((p4 >>> ((8 : Int32) &&& 31)).toInt8.toInt32))), .second, .val (.double (FP.i2d ((p4 >>> ((16 : Int32) &&& 31)).toInt8.toInt32))), .second, .unset, .unset, .unset, .unset, .unset, .unset, .unset, .unset, .unset, .unset]
abbrev own_loc37 (p0 : Int32) (p1 : Int32) (p2 : Int32) (p3 : Int32) (p4 : Int32) (p5 : Int32) : Array Slot := #[.val (.int p0), .val (.int p1), .val (.int p2), .val (.int p3), .val (.int p4), .val (.int p5), .val (.int 1), .val (.int ((own_ushr p5 (1 : Int32)) % (3 : Int32))), .val (.double (FP.i2d (p4.toInt8.toInt32))), .second, .val (.double (FP.i2d ((p4 >>> ((8 : Int32) &&& 31)).toInt8.toInt32))), .second, .val (.double (FP.i2d ((p4 >>> ((16 : Int32) &&& 31)).toInt8.toInt32))), .second, .val (.double (FP.i2d ((p4 >>> ((24 : Int32) &&& 31)).toInt8.toInt32))), .second, .unset, .unset, .unset, .unset, .unset, .unset, .unset, .unset]
abbrev own_loc38 (p0 : Int32) (p1 : Int32) (p2 : Int32) (p3 : Int32) (p4 : Int32) (p5 : Int32) (b1840 : Addr) : Array Slot := #[.val (.int p0), .val (.int p1), .val (.int p2), .val (.int p3), .val (.int p4), .val (.int p5), .val (.int 1), .val (.int ((own_ushr p5 (1 : Int32)) % (3 : Int32))), .val (.double (FP.i2d (p4.toInt8.toInt32))), .second, .val (.double (FP.i2d ((p4 >>> ((8 : Int32) &&& 31)).toInt8.toInt32))), .second, .val (.double (FP.i2d ((p4 >>> ((16 : Int32) &&& 31)).toInt8.toInt32))), .second, .val (.double (FP.i2d ((p4 >>> ((24 : Int32) &&& 31)).toInt8.toInt32))), .second, .val (.ref b1840), .unset, .unset, .unset, .unset, .unset, .unset, .unset]
abbrev own_loc39 (p0 : Int32) (p1 : Int32) (p2 : Int32) (p3 : Int32) (p4 : Int32) (p5 : Int32) (b1840 : Addr) (b1851 : Addr) : Array Slot := #[.val (.int p0), .val (.int p1), .val (.int p2), .val (.int p3), .val (.int p4), .val (.int p5), .val (.int 1), .val (.int ((own_ushr p5 (1 : Int32)) % (3 : Int32))), .val (.double (FP.i2d (p4.toInt8.toInt32))), .second, .val (.double (FP.i2d ((p4 >>> ((8 : Int32) &&& 31)).toInt8.toInt32))), .second, .val (.double (FP.i2d ((p4 >>> ((16 : Int32) &&& 31)).toInt8.toInt32))), .second, .val (.double (FP.i2d ((p4 >>> ((24 : Int32) &&& 31)).toInt8.toInt32))), .second, .val (.ref b1840), .val (.ref b1851), .unset, .unset, .unset, .unset, .unset, .unset]
abbrev own_loc40 (p0 : Int32) (p1 : Int32) (p2 : Int32) (p3 : Int32) (p4 : Int32) (p5 : Int32) (b1840 : Addr) (b1851 : Addr) (b1872 : Addr) : Array Slot := #[.val (.int p0), .val (.int p1), .val (.int p2), .val (.int p3), .val (.int p4), .val (.int p5), .val (.int 1), .val (.int ((own_ushr p5 (1 : Int32)) % (3 : Int32))), .val (.double (FP.i2d (p4.toInt8.toInt32))), .second, .val (.double (FP.i2d ((p4 >>> ((8 : Int32) &&& 31)).toInt8.toInt32))), .second, .val (.double (FP.i2d ((p4 >>> ((16 : Int32) &&& 31)).toInt8.toInt32))), .second, .val (.double (FP.i2d ((p4 >>> ((24 : Int32) &&& 31)).toInt8.toInt32))), .second, .val (.ref b1840), .val (.ref b1851), .val (.ref b1872), .unset, .unset, .unset, .unset, .unset]
abbrev own_loc41 (p0 : Int32) (p1 : Int32) (p2 : Int32) (p3 : Int32) (p4 : Int32) (p5 : Int32) (b1840 : Addr) (b1851 : Addr) (b1872 : Addr) (b1928 : Addr) : Array Slot := #[.val (.int p0), .val (.int p1), .val (.int p2), .val (.int p3), .val (.int p4), .val (.int p5), .val (.int 1), .val (.int ((own_ushr p5 (1 : Int32)) % (3 : Int32))), .val (.double (FP.i2d (p4.toInt8.toInt32))), .second, .val (.double (FP.i2d ((p4 >>> ((8 : Int32) &&& 31)).toInt8.toInt32))), .second, .val (.double (FP.i2d ((p4 >>> ((16 : Int32) &&& 31)).toInt8.toInt32))), .second, .val (.double (FP.i2d ((p4 >>> ((24 : Int32) &&& 31)).toInt8.toInt32))), .second, .val (.ref b1840), .val (.ref b1851), .val (.ref b1872), .val (.ref b1928), .unset, .unset, .unset, .unset]
abbrev own_loc42 (p0 : Int32) (p1 : Int32) (p2 : Int32) (p3 : Int32) (p4 : Int32) (p5 : Int32) (b1840 : Addr) (b1851 : Addr) (b1872 : Addr) (b1928 : Addr) (r1972 : Addr) : Array Slot := #[.val (.int p0), .val (.int p1), .val (.int p2), .val (.int p3), .val (.int p4), .val (.int p5), .val (.int 1), .val (.int ((own_ushr p5 (1 : Int32)) % (3 : Int32))), .val (.double (FP.i2d (p4.toInt8.toInt32))), .second, .val (.double (FP.i2d ((p4 >>> ((8 : Int32) &&& 31)).toInt8.toInt32))), .second, .val (.double (FP.i2d ((p4 >>> ((16 : Int32) &&& 31)).toInt8.toInt32))), .second, .val (.double (FP.i2d ((p4 >>> ((24 : Int32) &&& 31)).toInt8.toInt32))), .second, .val (.ref b1840), .val (.ref b1851), .val (.ref b1872), .val (.ref b1928), .val (.ref r1972), .unset, .unset, .unset]
abbrev own_loc43 (p0 : Int32) (p1 : Int32) (p2 : Int32) (p3 : Int32) (p4 : Int32) (p5 : Int32) (b1840 : Addr) (b1851 : Addr) (b1872 : Addr) (b1928 : Addr) (r1972 : Addr) (r1992 : Addr) : Array Slot := #[.val (.int p0), .val (.int p1), .val (.int p2), .val (.int p3), .val (.int p4), .val (.int p5), .val (.int 1), .val (.int ((own_ushr p5 (1 : Int32)) % (3 : Int32))), .val (.double (FP.i2d (p4.toInt8.toInt32))), .second, .val (.double (FP.i2d ((p4 >>> ((8 : Int32) &&& 31)).toInt8.toInt32))), .second, .val (.double (FP.i2d ((p4 >>> ((16 : Int32) &&& 31)).toInt8.toInt32))), .second, .val (.double (FP.i2d ((p4 >>> ((24 : Int32) &&& 31)).toInt8.toInt32))), .second, .val (.ref b1840), .val (.ref b1851), .val (.ref b1872), .val (.ref b1928), .val (.ref r1972), .val (.ref r1992), .unset, .unset]
abbrev own_loc44 (p0 : Int32) (p1 : Int32) (p2 : Int32) (p3 : Int32) (p4 : Int32) (p5 : Int32) (b1840 : Addr) (b1851 : Addr) (b1872 : Addr) (b1928 : Addr) (r1972 : Addr) (r1992 : Addr) (r2019 : Addr) : Array Slot := #[.val (.int p0), .val (.int p1), .val (.int p2), .val (.int p3), .val (.int p4), .val (.int p5), .val (.int 1), .val (.int ((own_ushr p5 (1 : Int32)) % (3 : Int32))), .val (.double (FP.i2d (p4.toInt8.toInt32))), .second, .val (.double (FP.i2d ((p4 >>> ((8 : Int32) &&& 31)).toInt8.toInt32))), .second, .val (.double (FP.i2d ((p4 >>> ((16 : Int32) &&& 31)).toInt8.toInt32))), .second, .val (.double (FP.i2d ((p4 >>> ((24 : Int32) &&& 31)).toInt8.toInt32))), .second, .val (.ref b1840), .val (.ref b1851), .val (.ref b1872), .val (.ref b1928), .val (.ref r1972), .val (.ref r1992), .val (.ref r2019), .unset]
abbrev own_loc45 (p0 : Int32) (p1 : Int32) (p2 : Int32) (p3 : Int32) (p4 : Int32) (p5 : Int32) (b1840 : Addr) (b1851 : Addr) (b1872 : Addr) (b1928 : Addr) (r1972 : Addr) (r1992 : Addr) (r2019 : Addr) (r2049 : Addr) : Array Slot := #[.val (.int p0), .val (.int p1), .val (.int p2), .val (.int p3), .val (.int p4), .val (.int p5), .val (.int 1), .val (.int ((own_ushr p5 (1 : Int32)) % (3 : Int32))), .val (.double (FP.i2d (p4.toInt8.toInt32))), .second, .val (.double (FP.i2d ((p4 >>> ((8 : Int32) &&& 31)).toInt8.toInt32))), .second, .val (.double (FP.i2d ((p4 >>> ((16 : Int32) &&& 31)).toInt8.toInt32))), .second, .val (.double (FP.i2d ((p4 >>> ((24 : Int32) &&& 31)).toInt8.toInt32))), .second, .val (.ref b1840), .val (.ref b1851), .val (.ref b1872), .val (.ref b1928), .val (.ref r1972), .val (.ref r1992), .val (.ref r2019), .val (.ref r2049)]
abbrev own_loc46 (p0 : Int32) (p1 : Int32) (p2 : Int32) (p3 : Int32) (p4 : Int32) (p5 : Int32) (b1840 : Addr) (b1851 : Addr) (b1872 : Addr) (b2119 : Addr) : Array Slot := #[.val (.int p0), .val (.int p1), .val (.int p2), .val (.int p3), .val (.int p4), .val (.int p5), .val (.int 1), .val (.int ((own_ushr p5 (1 : Int32)) % (3 : Int32))), .val (.double (FP.i2d (p4.toInt8.toInt32))), .second, .val (.double (FP.i2d ((p4 >>> ((8 : Int32) &&& 31)).toInt8.toInt32))), .second, .val (.double (FP.i2d ((p4 >>> ((16 : Int32) &&& 31)).toInt8.toInt32))), .second, .val (.double (FP.i2d ((p4 >>> ((24 : Int32) &&& 31)).toInt8.toInt32))), .second, .val (.ref b1840), .val (.ref b1851), .val (.ref b1872), .val (.ref b2119), .unset, .unset, .unset, .unset]
abbrev own_loc47 (p0 : Int32) (p1 : Int32) (p2 : Int32) (p3 : Int32) (p4 : Int32) (p5 : Int32) (b1840 : Addr) (b1851 : Addr) (b1872 : Addr) (b2119 : Addr) (r2162 : Addr) : Array Slot := #[.val (.int p0), .val (.int p1), .val (.int p2), .val (.int p3), .val (.int p4), .val (.int p5), .val (.int 1), .val (.int ((own_ushr p5 (1 : Int32)) % (3 : Int32))), .val (.double (FP.i2d (p4.toInt8.toInt32))), .second, .val (.double (FP.i2d ((p4 >>> ((8 : Int32) &&& 31)).toInt8.toInt32))), .second, .val (.double (FP.i2d ((p4 >>> ((16 : Int32) &&& 31)).toInt8.toInt32))), .second, .val (.double (FP.i2d ((p4 >>> ((24 : Int32) &&& 31)).toInt8.toInt32))), .second, .val (.ref b1840), .val (.ref b1851), .val (.ref b1872), .val (.ref b2119), .val (.ref r2162), .unset, .unset, .unset]
abbrev own_loc48 (p0 : Int32) (p1 : Int32) (p2 : Int32) (p3 : Int32) (p4 : Int32) (p5 : Int32) (b1840 : Addr) (b1851 : Addr) (b1872 : Addr) (b2119 : Addr) (r2162 : Addr) (r2183 : Addr) : Array Slot := #[.val (.int p0), .val (.int p1), .val (.int p2), .val (.int p3), .val (.int p4), .val (.int p5), .val (.int 1), .val (.int ((own_ushr p5 (1 : Int32)) % (3 : Int32))), .val (.double (FP.i2d (p4.toInt8.toInt32))), .second, .val (.double (FP.i2d ((p4 >>> ((8 : Int32) &&& 31)).toInt8.toInt32))), .second, .val (.double (FP.i2d ((p4 >>> ((16 : Int32) &&& 31)).toInt8.toInt32))), .second, .val (.double (FP.i2d ((p4 >>> ((24 : Int32) &&& 31)).toInt8.toInt32))), .second, .val (.ref b1840), .val (.ref b1851), .val (.ref b1872), .val (.ref b2119), .val (.ref r2162), .val (.ref r2183), .unset, .unset]
abbrev own_loc49 (p0 : Int32) (p1 : Int32) (p2 : Int32) (p3 : Int32) (p4 : Int32) (p5 : Int32) (b1840 : Addr) (b1851 : Addr) (b1872 : Addr) (b2119 : Addr) (r2162 : Addr) (r2183 : Addr) (r2210 : Addr) : Array Slot := #[.val (.int p0), .val (.int p1), .val (.int p2), .val (.int p3), .val (.int p4), .val (.int p5), .val (.int 1), .val (.int ((own_ushr p5 (1 : Int32)) % (3 : Int32))), .val (.double (FP.i2d (p4.toInt8.toInt32))), .second, .val (.double (FP.i2d ((p4 >>> ((8 : Int32) &&& 31)).toInt8.toInt32))), .second, .val (.double (FP.i2d ((p4 >>> ((16 : Int32) &&& 31)).toInt8.toInt32))), .second, .val (.double (FP.i2d ((p4 >>> ((24 : Int32) &&& 31)).toInt8.toInt32))), .second, .val (.ref b1840), .val (.ref b1851), .val (.ref b1872), .val (.ref b2119), .val (.ref r2162), .val (.ref r2183), .val (.ref r2210), .unset]
abbrev own_loc50 (p0 : Int32) (p1 : Int32) (p2 : Int32) (p3 : Int32) (p4 : Int32) (p5 : Int32) (b1840 : Addr) (b1851 : Addr) (b1872 : Addr) (b2119 : Addr) (r2162 : Addr) (r2183 : Addr) (r2210 : Addr) (r2239 : Addr) : Array Slot := #[.val (.int p0), .val (.int p1), .val (.int p2), .val (.int p3), .val (.int p4), .val (.int p5), .val (.int 1), .val (.int ((own_ushr p5 (1 : Int32)) % (3 : Int32))), .val (.double (FP.i2d (p4.toInt8.toInt32))), .second, .val (.double (FP.i2d ((p4 >>> ((8 : Int32) &&& 31)).toInt8.toInt32))), .second, .val (.double (FP.i2d ((p4 >>> ((16 : Int32) &&& 31)).toInt8.toInt32))), .second, .val (.double (FP.i2d ((p4 >>> ((24 : Int32) &&& 31)).toInt8.toInt32))), .second, .val (.ref b1840), .val (.ref b1851), .val (.ref b1872), .val (.ref b2119), .val (.ref r2162), .val (.ref r2183), .val (.ref r2210), .val (.ref r2239)]
abbrev own_loc51 (p0 : Int32) (p1 : Int32) (p2 : Int32) (p3 : Int32) (p4 : Int32) (p5 : Int32) (b1840 : Addr) (b1851 : Addr) (b1872 : Addr) (b2301 : Addr) : Array Slot := #[.val (.int p0), .val (.int p1), .val (.int p2), .val (.int p3), .val (.int p4), .val (.int p5), .val (.int 1), .val (.int ((own_ushr p5 (1 : Int32)) % (3 : Int32))), .val (.double (FP.i2d (p4.toInt8.toInt32))), .second, .val (.double (FP.i2d ((p4 >>> ((8 : Int32) &&& 31)).toInt8.toInt32))), .second, .val (.double (FP.i2d ((p4 >>> ((16 : Int32) &&& 31)).toInt8.toInt32))), .second, .val (.double (FP.i2d ((p4 >>> ((24 : Int32) &&& 31)).toInt8.toInt32))), .second, .val (.ref b1840), .val (.ref b1851), .val (.ref b1872), .val (.ref b2301), .unset, .unset, .unset, .unset]
abbrev own_loc52 (p0 : Int32) (p1 : Int32) (p2 : Int32) (p3 : Int32) (p4 : Int32) (p5 : Int32) (b1840 : Addr) (b1851 : Addr) (b1872 : Addr) (b2301 : Addr) (r2344 : Addr) : Array Slot := #[.val (.int p0), .val (.int p1), .val (.int p2), .val (.int p3), .val (.int p4), .val (.int p5), .val (.int 1), .val (.int ((own_ushr p5 (1 : Int32)) % (3 : Int32))), .val (.double (FP.i2d (p4.toInt8.toInt32))), .second, .val (.double (FP.i2d ((p4 >>> ((8 : Int32) &&& 31)).toInt8.toInt32))), .second, .val (.double (FP.i2d ((p4 >>> ((16 : Int32) &&& 31)).toInt8.toInt32))), .second, .val (.double (FP.i2d ((p4 >>> ((24 : Int32) &&& 31)).toInt8.toInt32))), .second, .val (.ref b1840), .val (.ref b1851), .val (.ref b1872), .val (.ref b2301), .val (.ref r2344), .unset, .unset, .unset]
abbrev own_loc53 (p0 : Int32) (p1 : Int32) (p2 : Int32) (p3 : Int32) (p4 : Int32) (p5 : Int32) (b1840 : Addr) (b1851 : Addr) (b1872 : Addr) (b2301 : Addr) (r2344 : Addr) (r2365 : Addr) : Array Slot := #[.val (.int p0), .val (.int p1), .val (.int p2), .val (.int p3), .val (.int p4), .val (.int p5), .val (.int 1), .val (.int ((own_ushr p5 (1 : Int32)) % (3 : Int32))), .val (.double (FP.i2d (p4.toInt8.toInt32))), .second, .val (.double (FP.i2d ((p4 >>> ((8 : Int32) &&& 31)).toInt8.toInt32))), .second, .val (.double (FP.i2d ((p4 >>> ((16 : Int32) &&& 31)).toInt8.toInt32))), .second, .val (.double (FP.i2d ((p4 >>> ((24 : Int32) &&& 31)).toInt8.toInt32))), .second, .val (.ref b1840), .val (.ref b1851), .val (.ref b1872), .val (.ref b2301), .val (.ref r2344), .val (.ref r2365), .unset, .unset]
abbrev own_loc54 (p0 : Int32) (p1 : Int32) (p2 : Int32) (p3 : Int32) (p4 : Int32) (p5 : Int32) (b1840 : Addr) (b1851 : Addr) (b1872 : Addr) (b2301 : Addr) (r2344 : Addr) (r2365 : Addr) (r2392 : Addr) : Array Slot := #[.val (.int p0), .val (.int p1), .val (.int p2), .val (.int p3), .val (.int p4), .val (.int p5), .val (.int 1), .val (.int ((own_ushr p5 (1 : Int32)) % (3 : Int32))), .val (.double (FP.i2d (p4.toInt8.toInt32))), .second, .val (.double (FP.i2d ((p4 >>> ((8 : Int32) &&& 31)).toInt8.toInt32))), .second, .val (.double (FP.i2d ((p4 >>> ((16 : Int32) &&& 31)).toInt8.toInt32))), .second, .val (.double (FP.i2d ((p4 >>> ((24 : Int32) &&& 31)).toInt8.toInt32))), .second, .val (.ref b1840), .val (.ref b1851), .val (.ref b1872), .val (.ref b2301), .val (.ref r2344), .val (.ref r2365), .val (.ref r2392), .unset]
abbrev own_loc55 (p0 : Int32) (p1 : Int32) (p2 : Int32) (p3 : Int32) (p4 : Int32) (p5 : Int32) (b1840 : Addr) (b1851 : Addr) (b1872 : Addr) (b2301 : Addr) (r2344 : Addr) (r2365 : Addr) (r2392 : Addr) (r2421 : Addr) : Array Slot := #[.val (.int p0), .val (.int p1), .val (.int p2), .val (.int p3), .val (.int p4), .val (.int p5), .val (.int 1), .val (.int ((own_ushr p5 (1 : Int32)) % (3 : Int32))), .val (.double (FP.i2d (p4.toInt8.toInt32))), .second, .val (.double (FP.i2d ((p4 >>> ((8 : Int32) &&& 31)).toInt8.toInt32))), .second, .val (.double (FP.i2d ((p4 >>> ((16 : Int32) &&& 31)).toInt8.toInt32))), .second, .val (.double (FP.i2d ((p4 >>> ((24 : Int32) &&& 31)).toInt8.toInt32))), .second, .val (.ref b1840), .val (.ref b1851), .val (.ref b1872), .val (.ref b2301), .val (.ref r2344), .val (.ref r2365), .val (.ref r2392), .val (.ref r2421)]
def Q0 (n0 : Nat) (v : Option Value) (h : Heap) (L : List Loc) : Prop := v = some (.int 1) ∧ Fr n0 L
set_option maxRecDepth 65536 in
set_option maxHeartbeats 40000000 in
theorem rm0 (l : Launch) (Z : State) (ag : Array Value) (hw : ∀ d ∈ tables_1, d.before ag Z = true) (ws : List Jvm.Cond) (p0 : Int32) (p1 : Int32) (p2 : Int32) (p3 : Int32) (p4 : Int32) (p5 : Int32) (h0 : Heap) (n0 : Nat) (Z0 : n0 ≤ h0.size) :
    MetFree l x (head1 (Jvm.Cond.code x code maxLocals ret :: ws) room_1) (fun a U => a = #[(.int p0), (.int p1), (.int p2), (.int p3), (.int p4), (.int p5)] ∧ Z.Warmed39 U.vm ∧ U.heap = h0) (fun _ _ _ _ _ => True) (fun _ U o U' => ∃ v L, o = .returned v ∧ Q0 n0 v U'.heap L ∧ FrameEnd U o U' L 13 45) := by
  refine MetFree.of_bodySF (plainFor_of_name pn_0) hisR ?_
  intro p e s m args below meth c s₁ Bd hml0 hP hK
  obtain ⟨rfl, hZ, hh⟩ := hP
  have hx := Bd.exec
  have hby := Bd.bytes
  have hml : c.maxLocals = 24 := hml0
  have hown : s.vm.findClass "com/example/rank60/rank60/ExplanationsAddPinLaw" = some m.cls := findClass_of_methodNamed Bd.named
  have hnm := (name_of_methodNamed Bd.named Bd.method).1
  have X0 : Stand p l e room_1 s m #[(.int p0), (.int p1), (.int p2), (.int p3), (.int p4), (.int p5)] below meth c s₁ [] 0 0 := Stand.of_body Bd
  have e0 : s₁.heap = h0 := by rw [← hh, Bd.state]; rfl
  have N0 := Fr.nil n0
  have pre0 : ∀ t, Steps p.tables e below (s₁.setTop (mkF m 0 #[.val (.int p0), .val (.int p1), .val (.int p2), .val (.int p3), .val (.int p4), .val (.int p5), .unset, .unset, .unset, .unset, .unset, .unset, .unset, .unset, .unset, .unset, .unset, .unset, .unset, .unset, .unset, .unset, .unset, .unset] [])) t → Steps p.tables e below (s₁.setTop (entryFrame m #[(.int p0), (.int p1), (.int p2), (.int p3), (.int p4), (.int p5)] maxLocals)) t := fun t k => castTop (ef_0 m p0 p1 p2 p3 p4 p5) k
  have cp1253 : ∀ target, own_S p e below s₁ (mkF m 4 (own_loc7 p0 p1 p2 p3 p4 p5) [(.int (p5 &&& (1 : Int32)))]) target → own_S p e below s₁ (mkF m 0 (own_loc7 p0 p1 p2 p3 p4 p5) []) target := by
    intro target kt
    show own_S p e below s₁ (mkF m 0 (own_loc7 p0 p1 p2 p3 p4 p5) []) _
    refine XS.iload X0.here hx rfl (hb hby at_0) rfl ?_
    show own_S p e below s₁ (mkF m 2 (own_loc7 p0 p1 p2 p3 p4 p5) [(.int p5)]) _
    refine XS.iconst X0.here hx rfl (hb hby at_2) ?_
    show own_S p e below s₁ (mkF m 3 (own_loc7 p0 p1 p2 p3 p4 p5) [.int 1, (.int p5)]) _
    refine XS.iand X0.here hx rfl (hb hby at_3) rfl ?_
    exact kt
  by_cases hc1252 : (p5 &&& (1 : Int32)) = (0 : Int32)
  · obtain ⟨T1254, h1254, X1254, e1254, E1254, A1254, D1254, -, st1254⟩ := newO X0 hx hZ hown (own_wk hw 0 rfl) (own_wk hw 1 rfl) (own_wk hw 2 rfl) e0 (g := (mkF m 55 (own_loc13 p0 p1 p2 p3 p4 p5) [])) rfl (hb hby at_55) (by decide) (by decide)
    obtain ⟨b1254, g1254⟩ : ∃ z, z = h0.size := ⟨_, rfl⟩
    have ge_b1254 : n0 ≤ b1254 := Nat.le_trans Z0 (Nat.le_of_eq g1254.symm)
    rw [← g1254] at A1254 D1254 st1254
    have sz1255 : n0 ≤ h1254.size := Nat.le_trans Z0 E1254.1
    have F1254_starts : Fld Z h1254 b1254 "com/example/rank60/rank60/FusedList$Explanations" "starts" "[I" .null := D1254 (Or.inr (own_wk hw 11 rfl)) (ty := (.array .int)) (by decide)
    have F1254_inputs : Fld Z h1254 b1254 "com/example/rank60/rank60/FusedList$Explanations" "inputs" "[I" .null := D1254 (Or.inr (own_wk hw 13 rfl)) (ty := (.array .int)) (by decide)
    have F1254_ranks : Fld Z h1254 b1254 "com/example/rank60/rank60/FusedList$Explanations" "ranks" "[I" .null := D1254 (Or.inr (own_wk hw 15 rfl)) (ty := (.array .int)) (by decide)
    have F1254_scores : Fld Z h1254 b1254 "com/example/rank60/rank60/FusedList$Explanations" "scores" "[D" .null := D1254 (Or.inr (own_wk hw 18 rfl)) (ty := (.array .double)) (by decide)
    have F1254_values : Fld Z h1254 b1254 "com/example/rank60/rank60/FusedList$Explanations" "values" "[D" .null := D1254 (Or.inr (own_wk hw 20 rfl)) (ty := (.array .double)) (by decide)
    have F1254_count : Fld Z h1254 b1254 "com/example/rank60/rank60/FusedList$Explanations" "count" "I" (.int (0 : Int32)) := D1254 (Or.inl (own_wk hw 29 rfl)) (ty := .int) (by decide)
    have F1254_documents : Fld Z h1254 b1254 "com/example/rank60/rank60/FusedList$Explanations" "documents" "I" (.int (0 : Int32)) := D1254 (Or.inl (own_wk hw 36 rfl)) (ty := .int) (by decide)
    have cp1256 : ∀ target, own_S p e below T1254 (mkF m 63 (own_loc13 p0 p1 p2 p3 p4 p5) [.int 0, .int 2, .int 2, (.ref b1254), (.ref b1254)]) target → own_S p e below s₁ (mkF m 0 (own_loc7 p0 p1 p2 p3 p4 p5) []) target := by
      intro target kt
      show own_S p e below s₁ (mkF m 0 (own_loc7 p0 p1 p2 p3 p4 p5) []) _
      refine cp1253 _ ?_
      show own_S p e below s₁ (mkF m 4 (own_loc7 p0 p1 p2 p3 p4 p5) [(.int (p5 &&& (1 : Int32)))]) _
      refine XS.ifYes X0.here hx rfl (pc0 := 4) (pc' := 11) rfl (hb hby at_4) rfl ((if0 _ _).trans (teq hc1252).1) (by decide) (by decide) ?_
      show own_S p e below s₁ (mkF m 11 (own_loc7 p0 p1 p2 p3 p4 p5) []) _
      refine XS.iconst X0.here hx rfl (hb hby at_11) ?_
      show own_S p e below s₁ (mkF m 12 (own_loc7 p0 p1 p2 p3 p4 p5) [.int 0]) _
      refine XS.istore X0.here hx rfl (hb hby at_12) rfl (l' := (own_loc8 p0 p1 p2 p3 p4 p5)) rfl ?_
      show own_S p e below s₁ (mkF m 14 (own_loc8 p0 p1 p2 p3 p4 p5) []) _
      refine XS.iload X0.here hx rfl (hb hby at_14) rfl ?_
      show own_S p e below s₁ (mkF m 16 (own_loc8 p0 p1 p2 p3 p4 p5) [(.int p5)]) _
      refine XS.iconst X0.here hx rfl (hb hby at_16) ?_
      show own_S p e below s₁ (mkF m 17 (own_loc8 p0 p1 p2 p3 p4 p5) [.int 1, (.int p5)]) _
      refine XS.iushr X0.here hx rfl (hb hby at_17) rfl ?_
      show own_S p e below s₁ (mkF m 18 (own_loc8 p0 p1 p2 p3 p4 p5) [(.int (own_ushr p5 (1 : Int32)))]) _
      refine XS.iconst X0.here hx rfl (hb hby at_18) ?_
      show own_S p e below s₁ (mkF m 19 (own_loc8 p0 p1 p2 p3 p4 p5) [.int 3, (.int (own_ushr p5 (1 : Int32)))]) _
      refine iremM X0 hx rfl (hb hby at_19) rfl (by decide) ?_
      show own_S p e below s₁ (mkF m 20 (own_loc8 p0 p1 p2 p3 p4 p5) [(.int ((own_ushr p5 (1 : Int32)) % (3 : Int32)))]) _
      refine XS.istore X0.here hx rfl (hb hby at_20) rfl (l' := (own_loc9 p0 p1 p2 p3 p4 p5)) rfl ?_
      show own_S p e below s₁ (mkF m 22 (own_loc9 p0 p1 p2 p3 p4 p5) []) _
      refine XS.iload X0.here hx rfl (hb hby at_22) rfl ?_
      show own_S p e below s₁ (mkF m 24 (own_loc9 p0 p1 p2 p3 p4 p5) [(.int p4)]) _
      refine XS.i2b X0.here hx rfl (hb hby at_24) rfl ?_
      show own_S p e below s₁ (mkF m 25 (own_loc9 p0 p1 p2 p3 p4 p5) [(.int (p4.toInt8.toInt32))]) _
      refine XS.i2dS X0.here hx rfl (hb hby at_25) rfl rfl ?_
      show own_S p e below s₁ (mkF m 26 (own_loc9 p0 p1 p2 p3 p4 p5) [(.double (FP.i2d (p4.toInt8.toInt32)))]) _
      refine XS.dstore X0.here hx rfl (hb hby at_26) rfl (l' := (own_loc10 p0 p1 p2 p3 p4 p5)) rfl ?_
      show own_S p e below s₁ (mkF m 28 (own_loc10 p0 p1 p2 p3 p4 p5) []) _
      refine XS.iload X0.here hx rfl (hb hby at_28) rfl ?_
      show own_S p e below s₁ (mkF m 30 (own_loc10 p0 p1 p2 p3 p4 p5) [(.int p4)]) _
      refine XS.bipush X0.here hx rfl (hb hby at_30) ?_
      show own_S p e below s₁ (mkF m 32 (own_loc10 p0 p1 p2 p3 p4 p5) [.int 8, (.int p4)]) _
      refine XS.ishr X0.here hx rfl (hb hby at_32) rfl ?_
      show own_S p e below s₁ (mkF m 33 (own_loc10 p0 p1 p2 p3 p4 p5) [(.int (p4 >>> ((8 : Int32) &&& 31)))]) _
      refine XS.i2b X0.here hx rfl (hb hby at_33) rfl ?_
      show own_S p e below s₁ (mkF m 34 (own_loc10 p0 p1 p2 p3 p4 p5) [(.int ((p4 >>> ((8 : Int32) &&& 31)).toInt8.toInt32))]) _
      refine XS.i2dS X0.here hx rfl (hb hby at_34) rfl rfl ?_
      show own_S p e below s₁ (mkF m 35 (own_loc10 p0 p1 p2 p3 p4 p5) [(.double (FP.i2d ((p4 >>> ((8 : Int32) &&& 31)).toInt8.toInt32)))]) _
      refine XS.dstore X0.here hx rfl (hb hby at_35) rfl (l' := (own_loc11 p0 p1 p2 p3 p4 p5)) rfl ?_
      show own_S p e below s₁ (mkF m 37 (own_loc11 p0 p1 p2 p3 p4 p5) []) _
      refine XS.iload X0.here hx rfl (hb hby at_37) rfl ?_
      show own_S p e below s₁ (mkF m 39 (own_loc11 p0 p1 p2 p3 p4 p5) [(.int p4)]) _
      refine XS.bipush X0.here hx rfl (hb hby at_39) ?_
      show own_S p e below s₁ (mkF m 41 (own_loc11 p0 p1 p2 p3 p4 p5) [.int 16, (.int p4)]) _
      refine XS.ishr X0.here hx rfl (hb hby at_41) rfl ?_
      show own_S p e below s₁ (mkF m 42 (own_loc11 p0 p1 p2 p3 p4 p5) [(.int (p4 >>> ((16 : Int32) &&& 31)))]) _
      refine XS.i2b X0.here hx rfl (hb hby at_42) rfl ?_
      show own_S p e below s₁ (mkF m 43 (own_loc11 p0 p1 p2 p3 p4 p5) [(.int ((p4 >>> ((16 : Int32) &&& 31)).toInt8.toInt32))]) _
      refine XS.i2dS X0.here hx rfl (hb hby at_43) rfl rfl ?_
      show own_S p e below s₁ (mkF m 44 (own_loc11 p0 p1 p2 p3 p4 p5) [(.double (FP.i2d ((p4 >>> ((16 : Int32) &&& 31)).toInt8.toInt32)))]) _
      refine XS.dstore X0.here hx rfl (hb hby at_44) rfl (l' := (own_loc12 p0 p1 p2 p3 p4 p5)) rfl ?_
      show own_S p e below s₁ (mkF m 46 (own_loc12 p0 p1 p2 p3 p4 p5) []) _
      refine XS.iload X0.here hx rfl (hb hby at_46) rfl ?_
      show own_S p e below s₁ (mkF m 48 (own_loc12 p0 p1 p2 p3 p4 p5) [(.int p4)]) _
      refine XS.bipush X0.here hx rfl (hb hby at_48) ?_
      show own_S p e below s₁ (mkF m 50 (own_loc12 p0 p1 p2 p3 p4 p5) [.int 24, (.int p4)]) _
      refine XS.ishr X0.here hx rfl (hb hby at_50) rfl ?_
      show own_S p e below s₁ (mkF m 51 (own_loc12 p0 p1 p2 p3 p4 p5) [(.int (p4 >>> ((24 : Int32) &&& 31)))]) _
      refine XS.i2b X0.here hx rfl (hb hby at_51) rfl ?_
      show own_S p e below s₁ (mkF m 52 (own_loc12 p0 p1 p2 p3 p4 p5) [(.int ((p4 >>> ((24 : Int32) &&& 31)).toInt8.toInt32))]) _
      refine XS.i2dS X0.here hx rfl (hb hby at_52) rfl rfl ?_
      show own_S p e below s₁ (mkF m 53 (own_loc12 p0 p1 p2 p3 p4 p5) [(.double (FP.i2d ((p4 >>> ((24 : Int32) &&& 31)).toInt8.toInt32)))]) _
      refine XS.dstore X0.here hx rfl (hb hby at_53) rfl (l' := (own_loc13 p0 p1 p2 p3 p4 p5)) rfl ?_
      show own_S p e below s₁ (mkF m 55 (own_loc13 p0 p1 p2 p3 p4 p5) []) _
      refine st1254 _ ?_
      show own_S p e below T1254 (mkF m 58 (own_loc13 p0 p1 p2 p3 p4 p5) [(.ref b1254)]) _
      refine XS.dup X1254.here hx rfl (hb hby at_58) rfl rfl ?_
      show own_S p e below T1254 (mkF m 59 (own_loc13 p0 p1 p2 p3 p4 p5) [(.ref b1254), (.ref b1254)]) _
      refine XS.iconst X1254.here hx rfl (hb hby at_59) ?_
      show own_S p e below T1254 (mkF m 60 (own_loc13 p0 p1 p2 p3 p4 p5) [.int 2, (.ref b1254), (.ref b1254)]) _
      refine XS.iconst X1254.here hx rfl (hb hby at_60) ?_
      show own_S p e below T1254 (mkF m 61 (own_loc13 p0 p1 p2 p3 p4 p5) [.int 2, .int 2, (.ref b1254), (.ref b1254)]) _
      refine XS.iload X1254.here hx rfl (hb hby at_61) rfl ?_
      exact kt
    obtain ⟨_, _, ⟨T1257, L1257, k1257, n1257⟩, -, X1257, ⟨Lc1257, hQ1257, l1257, y1257, z1257⟩, st1257⟩ := X1254.specialBack hx (y := (⟨"com/example/rank60/rank60/FusedList$Explanations", "<init>", "(IIZ)V"⟩ : MethodName)) rfl hown (mvT hZ (own_wk hw 3 rfl)) (mvT hZ (own_wk hw 4 rfl)) (mvT hZ (own_wk hw 5 rfl)) (by decide) (backOf (W := 1) (rm1_0 l Z ag hw [] b1254  h1254 n0 sz1255 A1254 ge_b1254 F1254_starts F1254_inputs F1254_ranks F1254_scores F1254_values F1254_count F1254_documents) hZ (own_wk hw 5 rfl) (own_wk hw 2 rfl) (by decide) (by decide)) (g := (mkF m 63 (own_loc13 p0 p1 p2 p3 p4 p5) [.int 0, .int 2, .int 2, (.ref b1254), (.ref b1254)])) rfl (by rw [hml]; rfl) (Steps.refl _) (a := b1254) (argsL := [(.int (2 : Int32)), (.int (2 : Int32)), (.int (0 : Int32))]) (rest := [(.ref b1254)]) (lenOf pd_9 rfl) rfl (by show 2 * 0 + _ ≤ _; exact Nat.le_of_eq rfl) (hb hby at_63) (fun _ _ => ⟨rfl, e1254, (by decide : 1 + 4 ≤ _), (by decide : 7 + 9 ≤ _)⟩)
    dsimp only [Pt.U, Pt.locs, Pt.cells, Pt.slots] at X1257 l1257 y1257 z1257 st1257 hQ1257
    subst l1257 y1257 z1257
    obtain ⟨u0_1257, u1_1257, u2_1257, u4_1257, ku0_1257, ku1_1257, ku2_1257, ku4_1257, rfl, N1257q, K1257, gq_u0_1257, gq_u1_1257, gq_u2_1257, gq_u4_1257, ne1257_0, ne1257_1, ne1257_2, ne1257_3, ne1257_4, ne1257_5, o1257_0, o1257_1, o1257_2, o1257_3, o1257_4, o1257_5, o1257_6, o1257_7, o1257_8, o1257_9, o1257_10, o1257_11⟩ := hQ1257
    have N1257 := Fr.app N0 N1257q
    have ne1258 : b1254 ≠ u0_1257 := Nat.ne_of_lt (Nat.lt_of_lt_of_le A1254.lt gq_u0_1257)
    have ge_u0_1257 : n0 ≤ u0_1257 := Nat.le_trans sz1255 gq_u0_1257
    have ne1259 : b1254 ≠ u1_1257 := Nat.ne_of_lt (Nat.lt_of_lt_of_le A1254.lt gq_u1_1257)
    have ge_u1_1257 : n0 ≤ u1_1257 := Nat.le_trans sz1255 gq_u1_1257
    have ne1260 : b1254 ≠ u2_1257 := Nat.ne_of_lt (Nat.lt_of_lt_of_le A1254.lt gq_u2_1257)
    have ge_u2_1257 : n0 ≤ u2_1257 := Nat.le_trans sz1255 gq_u2_1257
    have ne1261 : b1254 ≠ u4_1257 := Nat.ne_of_lt (Nat.lt_of_lt_of_le A1254.lt gq_u4_1257)
    have ge_u4_1257 : n0 ≤ u4_1257 := Nat.le_trans sz1255 gq_u4_1257
    have x1262 := A1254.keep K1257
    have sz1263 : n0 ≤ T1257.heap.size := Nat.le_trans sz1255 K1257.1
    obtain ⟨T1264, h1264, k1264, X1264, e1264, E1264, A1264, O1264, st1264⟩ := newR X1257 hx hZ hown (own_wk hw 21 rfl) (own_wk hw 22 rfl) rfl (g := (mkF m 69 (own_loc14 p0 p1 p2 p3 p4 p5 b1254) [.int 2])) rfl (hb hby at_69) rfl (by decide) (cap := 2) (by decide) (by decide) (by decide) (by decide)
    obtain ⟨b1264, g1264⟩ : ∃ z, z = T1257.heap.size := ⟨_, rfl⟩
    have ne1265 : b1254 ≠ b1264 := Nat.ne_of_lt (Nat.lt_of_lt_of_le o1257_0.lt (Nat.le_of_eq g1264.symm))
    have ne1266 : u0_1257 ≠ b1264 := Nat.ne_of_lt (Nat.lt_of_lt_of_le o1257_8.lt (Nat.le_of_eq g1264.symm))
    have ne1267 : u1_1257 ≠ b1264 := Nat.ne_of_lt (Nat.lt_of_lt_of_le o1257_9.lt (Nat.le_of_eq g1264.symm))
    have ne1268 : u2_1257 ≠ b1264 := Nat.ne_of_lt (Nat.lt_of_lt_of_le o1257_10.lt (Nat.le_of_eq g1264.symm))
    have ne1269 : u4_1257 ≠ b1264 := Nat.ne_of_lt (Nat.lt_of_lt_of_le o1257_11.lt (Nat.le_of_eq g1264.symm))
    have ge_b1264 : n0 ≤ b1264 := Nat.le_trans sz1263 (Nat.le_of_eq g1264.symm)
    rw [← g1264] at A1264 st1264
    have x1270 := o1257_0.ext E1264
    have x1271 := o1257_1.ext E1264
    have x1272 := o1257_2.ext E1264
    have x1273 := o1257_3.ext E1264
    have x1274 := o1257_4.ext E1264
    have x1275 := o1257_5.ext E1264
    have x1276 := o1257_6.ext E1264
    have x1277 := o1257_7.ext E1264
    have x1278 := o1257_8.ext E1264
    have x1279 := o1257_9.ext E1264
    have x1280 := o1257_10.ext E1264
    have x1281 := o1257_11.ext E1264
    have sz1282 : n0 ≤ h1264.size := Nat.le_trans sz1263 E1264.1
    have V1264 : Arv Z h1264 b1264 k1264 (.object "java/lang/String") (2 : Int32) [.null, .null] .null := (Arv.new A1264 (by decide)).pad (pad_rep [] .null 2)
    obtain ⟨T1283, h1283, k1283, X1283, e1283, E1283, A1283, st1283⟩ := newP X1264 hx hZ (own_wk hw 16 rfl) e1264 (g := (mkF m 75 (own_loc15 p0 p1 p2 p3 p4 p5 b1254 b1264) [.int 2])) rfl (hb hby at_75) rfl (by decide) (cap := 2) (by decide) (by decide) (by decide) (by decide)
    obtain ⟨b1283, g1283⟩ : ∃ z, z = h1264.size := ⟨_, rfl⟩
    have ne1284 : b1254 ≠ b1283 := Nat.ne_of_lt (Nat.lt_of_lt_of_le x1270.lt (Nat.le_of_eq g1283.symm))
    have ne1285 : u0_1257 ≠ b1283 := Nat.ne_of_lt (Nat.lt_of_lt_of_le x1278.lt (Nat.le_of_eq g1283.symm))
    have ne1286 : u1_1257 ≠ b1283 := Nat.ne_of_lt (Nat.lt_of_lt_of_le x1279.lt (Nat.le_of_eq g1283.symm))
    have ne1287 : u2_1257 ≠ b1283 := Nat.ne_of_lt (Nat.lt_of_lt_of_le x1280.lt (Nat.le_of_eq g1283.symm))
    have ne1288 : u4_1257 ≠ b1283 := Nat.ne_of_lt (Nat.lt_of_lt_of_le x1281.lt (Nat.le_of_eq g1283.symm))
    have ne1289 : b1264 ≠ b1283 := Nat.ne_of_lt (Nat.lt_of_lt_of_le V1264.lt (Nat.le_of_eq g1283.symm))
    have ge_b1283 : n0 ≤ b1283 := Nat.le_trans sz1282 (Nat.le_of_eq g1283.symm)
    rw [← g1283] at A1283 st1283
    have x1290 := x1270.ext E1283
    have x1291 := x1271.ext E1283
    have x1292 := x1272.ext E1283
    have x1293 := x1273.ext E1283
    have x1294 := x1274.ext E1283
    have x1295 := x1275.ext E1283
    have x1296 := x1276.ext E1283
    have x1297 := x1277.ext E1283
    have x1298 := x1278.ext E1283
    have x1299 := x1279.ext E1283
    have x1300 := x1280.ext E1283
    have x1301 := x1281.ext E1283
    have x1302 := V1264.ext E1283
    have sz1303 : n0 ≤ h1283.size := Nat.le_trans sz1282 E1283.1
    have V1283 : Arv Z h1283 b1283 k1283 .double (2 : Int32) [(.double (FP.l2d 0)), (.double (FP.l2d 0))] (.double (FP.l2d 0)) := (Arv.newD A1283 (by decide)).pad (pad_rep [] (.double (FP.l2d 0)) 2)
    have cp1305 : ∀ target, own_S p e below T1283 (mkF m 81 (own_loc16 p0 p1 p2 p3 p4 p5 b1254 b1264 b1283) [(.int ((own_ushr p5 (1 : Int32)) % (3 : Int32)))]) target → own_S p e below s₁ (mkF m 0 (own_loc7 p0 p1 p2 p3 p4 p5) []) target := by
      intro target kt
      show own_S p e below s₁ (mkF m 0 (own_loc7 p0 p1 p2 p3 p4 p5) []) _
      refine cp1256 _ ?_
      show own_S p e below T1254 (mkF m 63 (own_loc13 p0 p1 p2 p3 p4 p5) [.int 0, .int 2, .int 2, (.ref b1254), (.ref b1254)]) _
      refine st1257.trans ?_
      show own_S p e below T1257 (mkF m 66 (own_loc13 p0 p1 p2 p3 p4 p5) [(.ref b1254)]) _
      refine XS.astore X1257.here hx rfl (hb hby at_66) rfl rfl (l' := (own_loc14 p0 p1 p2 p3 p4 p5 b1254)) rfl ?_
      show own_S p e below T1257 (mkF m 68 (own_loc14 p0 p1 p2 p3 p4 p5 b1254) []) _
      refine XS.iconst X1257.here hx rfl (hb hby at_68) ?_
      show own_S p e below T1257 (mkF m 69 (own_loc14 p0 p1 p2 p3 p4 p5 b1254) [.int 2]) _
      refine st1264 _ ?_
      show own_S p e below T1264 (mkF m 72 (own_loc14 p0 p1 p2 p3 p4 p5 b1254) [(.ref b1264)]) _
      refine XS.astore X1264.here hx rfl (hb hby at_72) rfl rfl (l' := (own_loc15 p0 p1 p2 p3 p4 p5 b1254 b1264)) rfl ?_
      show own_S p e below T1264 (mkF m 74 (own_loc15 p0 p1 p2 p3 p4 p5 b1254 b1264) []) _
      refine XS.iconst X1264.here hx rfl (hb hby at_74) ?_
      show own_S p e below T1264 (mkF m 75 (own_loc15 p0 p1 p2 p3 p4 p5 b1254 b1264) [.int 2]) _
      refine st1283 _ ?_
      show own_S p e below T1283 (mkF m 77 (own_loc15 p0 p1 p2 p3 p4 p5 b1254 b1264) [(.ref b1283)]) _
      refine XS.astore X1283.here hx rfl (hb hby at_77) rfl rfl (l' := (own_loc16 p0 p1 p2 p3 p4 p5 b1254 b1264 b1283)) rfl ?_
      show own_S p e below T1283 (mkF m 79 (own_loc16 p0 p1 p2 p3 p4 p5 b1254 b1264 b1283) []) _
      refine XS.iload X1283.here hx rfl (hb hby at_79) rfl ?_
      exact kt
    by_cases hc1304 : ((own_ushr p5 (1 : Int32)) % (3 : Int32)) = (0 : Int32)
    · obtain ⟨cq1306, kq1306, q1306a, q1306b, q1306c⟩ := isOf hZ e1283 x1290
      obtain ⟨_, _, ⟨T1306, L1306, k1306, n1306⟩, -, X1306, ⟨Lc1306, hQ1306, l1306, y1306, z1306⟩, st1306⟩ := X1283.virtualBack hx (y := (⟨"com/example/rank60/rank60/FusedList$Explanations", "endDocument", "()V"⟩ : MethodName)) (z := (⟨"com/example/rank60/rank60/FusedList$Explanations", "endDocument", "()V"⟩ : MethodName)) hown (mvT hZ (own_wk hw 30 rfl)) (mvT hZ (own_wk hw 31 rfl)) (notFace_of_selects (args := #[]) (mvT hZ (own_wk hw 33 rfl))) (mvT hZ (own_wk hw 33 rfl)) (mvT hZ (own_wk hw 32 rfl)) (by decide) (backOf (W := 0) (rm4_0 l Z ag hw [] b1254 u0_1257 (0 : Int32) u1_1257 u2_1257 u4_1257 .null ku0_1257 (0 : Int32) (0 : Int32) (0 : Int32) h1283 n0 sz1303 x1290 x1291 x1297 x1296 x1292 x1293 x1294 x1295 x1298 ge_b1254 ge_u0_1257 ne1258) hZ (own_wk hw 34 rfl) (own_wk hw 2 rfl) (by decide) (by decide)) q1306a q1306c (g := (mkF m 86 (own_loc16 p0 p1 p2 p3 p4 p5 b1254 b1264 b1283) [(.ref b1254)])) rfl (by rw [hml]; rfl) (Steps.refl _) (argsL := []) (rest := []) (lenOf pd_2 rfl) rfl (by show 2 * 0 + _ ≤ _; exact Nat.le_of_eq rfl) (hb hby at_86) (fun _ _ => ⟨rfl, e1283, (by decide : 7 + 0 ≤ _), (by decide : 20 + 0 ≤ _)⟩)
      dsimp only [Pt.U, Pt.locs, Pt.cells, Pt.slots] at X1306 l1306 y1306 z1306 st1306 hQ1306
      subst l1306 y1306 z1306
      obtain ⟨rfl, N1306q, K1306, o1306_0, o1306_1, o1306_2, o1306_3, o1306_4, o1306_5, o1306_6, o1306_7⟩ := hQ1306
      have N1306 := Fr.app N1257 N1306q
      have x1307 := x1290.keep K1306
      have x1308 := x1299.keep K1306 (ninS (Ne.symm ne1259) (ninS (Ne.symm ne1257_0) nin0))
      have x1309 := x1300.keep K1306 (ninS (Ne.symm ne1260) (ninS (Ne.symm ne1257_1) nin0))
      have x1310 := x1301.keep K1306 (ninS (Ne.symm ne1261) (ninS (Ne.symm ne1257_2) nin0))
      have x1311 := x1302.keep K1306 (ninS (Ne.symm ne1265) (ninS (Ne.symm ne1266) nin0))
      have x1312 := V1283.keep K1306 (ninS (Ne.symm ne1284) (ninS (Ne.symm ne1285) nin0))
      have sz1313 : n0 ≤ T1306.heap.size := Nat.le_trans sz1303 K1306.1
      obtain ⟨cq1314, kq1314, q1314a, q1314b, q1314c⟩ := isOf hZ rfl x1307
      obtain ⟨_, _, ⟨T1314, L1314, k1314, n1314⟩, -, X1314, ⟨Lc1314, hQ1314, l1314, y1314, z1314⟩, st1314⟩ := X1306.virtualBack hx (y := (⟨"com/example/rank60/rank60/FusedList$Explanations", "add", "(IIDD)V"⟩ : MethodName)) (z := (⟨"com/example/rank60/rank60/FusedList$Explanations", "add", "(IIDD)V"⟩ : MethodName)) hown (mvT hZ (own_wk hw 23 rfl)) (mvT hZ (own_wk hw 24 rfl)) (notFace_of_selects (args := #[]) (mvT hZ (own_wk hw 26 rfl))) (mvT hZ (own_wk hw 26 rfl)) (mvT hZ (own_wk hw 25 rfl)) (by decide) (backOf (W := 0) (rm3_00 l Z ag hw [] b1254 p0 p1 (FP.i2d (p4.toInt8.toInt32)) (FP.i2d ((p4 >>> ((8 : Int32) &&& 31)).toInt8.toInt32)) u1_1257 u2_1257 u4_1257 (1 : Int32) u0_1257 ku1_1257 (0 : Int32) (0 : Int32) ku2_1257 (0 : Int32) (0 : Int32) ku4_1257 (FP.l2d 0) (FP.l2d 0) T1306.heap n0 sz1313 x1307 o1306_3 o1306_4 o1306_5 o1306_6 o1306_2 o1306_1 o1306_0 x1308 x1309 x1310 ge_b1254 ge_u1_1257 ge_u2_1257 ge_u4_1257 ne1259 ne1260 ne1261 ne1257_3 ne1257_4 ne1257_5) hZ (own_wk hw 27 rfl) (own_wk hw 2 rfl) (by decide) (by decide)) q1314a q1314c (g := (mkF m 97 (own_loc16 p0 p1 p2 p3 p4 p5 b1254 b1264 b1283) [(.double (FP.i2d ((p4 >>> ((8 : Int32) &&& 31)).toInt8.toInt32))), (.double (FP.i2d (p4.toInt8.toInt32))), (.int p1), (.int p0), (.ref b1254)])) rfl (by rw [hml]; rfl) (Steps.refl _) (argsL := [(.int p0), (.int p1), (.double (FP.i2d (p4.toInt8.toInt32))), (.double (FP.i2d ((p4 >>> ((8 : Int32) &&& 31)).toInt8.toInt32)))]) (rest := []) (lenOf pd_7 rfl) rfl (by show 2 * 0 + _ ≤ _; exact Nat.le_of_eq rfl) (hb hby at_97) (fun _ _ => ⟨rfl, rfl, (by decide : 7 + 0 ≤ _), (by decide : 20 + 0 ≤ _)⟩)
      dsimp only [Pt.U, Pt.locs, Pt.cells, Pt.slots] at X1314 l1314 y1314 z1314 st1314 hQ1314
      subst l1314 y1314 z1314
      obtain ⟨rfl, N1314q, K1314, o1314_0, o1314_1, o1314_2, o1314_3, o1314_4, o1314_5, o1314_6, o1314_7, o1314_8, o1314_9⟩ := hQ1314
      have N1314 := Fr.app N1306 N1314q
      have x1315 := x1307.keep K1314
      have x1316 := x1311.keep K1314 (ninS (Ne.symm ne1265) (ninS (Ne.symm ne1267) (ninS (Ne.symm ne1268) (ninS (Ne.symm ne1269) nin0))))
      have x1317 := x1312.keep K1314 (ninS (Ne.symm ne1284) (ninS (Ne.symm ne1286) (ninS (Ne.symm ne1287) (ninS (Ne.symm ne1288) nin0))))
      have x1318 := o1306_7.keep K1314 (ninS (Ne.symm ne1258) (ninS ne1257_0 (ninS ne1257_1 (ninS ne1257_2 nin0))))
      have sz1319 : n0 ≤ T1314.heap.size := Nat.le_trans sz1313 K1314.1
      have cp1320 : ∀ target, own_S p e below T1314 (mkF m 119 (own_loc16 p0 p1 p2 p3 p4 p5 b1254 b1264 b1283) [(.double (FP.i2d ((p4 >>> ((24 : Int32) &&& 31)).toInt8.toInt32))), (.double (FP.i2d ((p4 >>> ((16 : Int32) &&& 31)).toInt8.toInt32))), (.int p3), (.int p2), (.ref b1254)]) target → own_S p e below s₁ (mkF m 0 (own_loc7 p0 p1 p2 p3 p4 p5) []) target := by
        intro target kt
        show own_S p e below s₁ (mkF m 0 (own_loc7 p0 p1 p2 p3 p4 p5) []) _
        refine cp1305 _ ?_
        show own_S p e below T1283 (mkF m 81 (own_loc16 p0 p1 p2 p3 p4 p5 b1254 b1264 b1283) [(.int ((own_ushr p5 (1 : Int32)) % (3 : Int32)))]) _
        refine XS.ifNo X1283.here hx rfl (hb hby at_81) rfl ((if0 _ _).trans (teq hc1304).2) ?_
        show own_S p e below T1283 (mkF m 84 (own_loc16 p0 p1 p2 p3 p4 p5 b1254 b1264 b1283) []) _
        refine XS.aload X1283.here hx rfl (hb hby at_84) rfl rfl ?_
        show own_S p e below T1283 (mkF m 86 (own_loc16 p0 p1 p2 p3 p4 p5 b1254 b1264 b1283) [(.ref b1254)]) _
        refine st1306.trans ?_
        show own_S p e below T1306 (mkF m 89 (own_loc16 p0 p1 p2 p3 p4 p5 b1254 b1264 b1283) []) _
        refine XS.aload X1306.here hx rfl (hb hby at_89) rfl rfl ?_
        show own_S p e below T1306 (mkF m 91 (own_loc16 p0 p1 p2 p3 p4 p5 b1254 b1264 b1283) [(.ref b1254)]) _
        refine XS.iloadN X1306.here hx rfl (hb hby at_91) rfl ?_
        show own_S p e below T1306 (mkF m 92 (own_loc16 p0 p1 p2 p3 p4 p5 b1254 b1264 b1283) [(.int p0), (.ref b1254)]) _
        refine XS.iloadN X1306.here hx rfl (hb hby at_92) rfl ?_
        show own_S p e below T1306 (mkF m 93 (own_loc16 p0 p1 p2 p3 p4 p5 b1254 b1264 b1283) [(.int p1), (.int p0), (.ref b1254)]) _
        refine XS.dload X1306.here hx rfl (hb hby at_93) rfl ?_
        show own_S p e below T1306 (mkF m 95 (own_loc16 p0 p1 p2 p3 p4 p5 b1254 b1264 b1283) [(.double (FP.i2d (p4.toInt8.toInt32))), (.int p1), (.int p0), (.ref b1254)]) _
        refine XS.dload X1306.here hx rfl (hb hby at_95) rfl ?_
        show own_S p e below T1306 (mkF m 97 (own_loc16 p0 p1 p2 p3 p4 p5 b1254 b1264 b1283) [(.double (FP.i2d ((p4 >>> ((8 : Int32) &&& 31)).toInt8.toInt32))), (.double (FP.i2d (p4.toInt8.toInt32))), (.int p1), (.int p0), (.ref b1254)]) _
        refine st1314.trans ?_
        show own_S p e below T1314 (mkF m 100 (own_loc16 p0 p1 p2 p3 p4 p5 b1254 b1264 b1283) []) _
        refine XS.iload X1314.here hx rfl (hb hby at_100) rfl ?_
        show own_S p e below T1314 (mkF m 102 (own_loc16 p0 p1 p2 p3 p4 p5 b1254 b1264 b1283) [(.int ((own_ushr p5 (1 : Int32)) % (3 : Int32)))]) _
        refine XS.iconst X1314.here hx rfl (hb hby at_102) ?_
        show own_S p e below T1314 (mkF m 103 (own_loc16 p0 p1 p2 p3 p4 p5 b1254 b1264 b1283) [.int 1, (.int ((own_ushr p5 (1 : Int32)) % (3 : Int32)))]) _
        refine XS.icmpYes X1314.here hx rfl (pc0 := 103) (pc' := 111) rfl (hb hby at_103) rfl (feq (show ¬ (((own_ushr p5 (1 : Int32)) % (3 : Int32)) = (1 : Int32)) from (fun q => absurd (hc1304.symm.trans q) (by decide)))).2 (by decide) (by decide) ?_
        show own_S p e below T1314 (mkF m 111 (own_loc16 p0 p1 p2 p3 p4 p5 b1254 b1264 b1283) []) _
        refine XS.aload X1314.here hx rfl (hb hby at_111) rfl rfl ?_
        show own_S p e below T1314 (mkF m 113 (own_loc16 p0 p1 p2 p3 p4 p5 b1254 b1264 b1283) [(.ref b1254)]) _
        refine XS.iloadN X1314.here hx rfl (hb hby at_113) rfl ?_
        show own_S p e below T1314 (mkF m 114 (own_loc16 p0 p1 p2 p3 p4 p5 b1254 b1264 b1283) [(.int p2), (.ref b1254)]) _
        refine XS.iloadN X1314.here hx rfl (hb hby at_114) rfl ?_
        show own_S p e below T1314 (mkF m 115 (own_loc16 p0 p1 p2 p3 p4 p5 b1254 b1264 b1283) [(.int p3), (.int p2), (.ref b1254)]) _
        refine XS.dload X1314.here hx rfl (hb hby at_115) rfl ?_
        show own_S p e below T1314 (mkF m 117 (own_loc16 p0 p1 p2 p3 p4 p5 b1254 b1264 b1283) [(.double (FP.i2d ((p4 >>> ((16 : Int32) &&& 31)).toInt8.toInt32))), (.int p3), (.int p2), (.ref b1254)]) _
        refine XS.dload X1314.here hx rfl (hb hby at_117) rfl ?_
        exact kt
      obtain ⟨cq1321, kq1321, q1321a, q1321b, q1321c⟩ := isOf hZ rfl x1315
      obtain ⟨_, _, ⟨T1321, L1321, k1321, n1321⟩, -, X1321, ⟨Lc1321, hQ1321, l1321, y1321, z1321⟩, st1321⟩ := X1314.virtualBack hx (y := (⟨"com/example/rank60/rank60/FusedList$Explanations", "add", "(IIDD)V"⟩ : MethodName)) (z := (⟨"com/example/rank60/rank60/FusedList$Explanations", "add", "(IIDD)V"⟩ : MethodName)) hown (mvT hZ (own_wk hw 23 rfl)) (mvT hZ (own_wk hw 24 rfl)) (notFace_of_selects (args := #[]) (mvT hZ (own_wk hw 26 rfl))) (mvT hZ (own_wk hw 26 rfl)) (mvT hZ (own_wk hw 25 rfl)) (by decide) (backOf (W := 0) (rm3_10 l Z ag hw [] b1254 p2 p3 (FP.i2d ((p4 >>> ((16 : Int32) &&& 31)).toInt8.toInt32)) (FP.i2d ((p4 >>> ((24 : Int32) &&& 31)).toInt8.toInt32)) u1_1257 u2_1257 u4_1257 (1 : Int32) u0_1257 ku1_1257 p0 (0 : Int32) ku2_1257 p1 (0 : Int32) ku4_1257 (FP.i2d ((p4 >>> ((8 : Int32) &&& 31)).toInt8.toInt32)) (FP.l2d 0) T1314.heap n0 sz1319 x1315 o1314_0 o1314_1 o1314_2 o1314_3 o1314_6 o1314_4 o1314_5 o1314_7 o1314_8 o1314_9 ge_b1254 ge_u1_1257 ge_u2_1257 ge_u4_1257 ne1259 ne1260 ne1261 ne1257_3 ne1257_4 ne1257_5) hZ (own_wk hw 27 rfl) (own_wk hw 2 rfl) (by decide) (by decide)) q1321a q1321c (g := (mkF m 119 (own_loc16 p0 p1 p2 p3 p4 p5 b1254 b1264 b1283) [(.double (FP.i2d ((p4 >>> ((24 : Int32) &&& 31)).toInt8.toInt32))), (.double (FP.i2d ((p4 >>> ((16 : Int32) &&& 31)).toInt8.toInt32))), (.int p3), (.int p2), (.ref b1254)])) rfl (by rw [hml]; rfl) (Steps.refl _) (argsL := [(.int p2), (.int p3), (.double (FP.i2d ((p4 >>> ((16 : Int32) &&& 31)).toInt8.toInt32))), (.double (FP.i2d ((p4 >>> ((24 : Int32) &&& 31)).toInt8.toInt32)))]) (rest := []) (lenOf pd_7 rfl) rfl (by show 2 * 0 + _ ≤ _; exact Nat.le_of_eq rfl) (hb hby at_119) (fun _ _ => ⟨rfl, rfl, (by decide : 7 + 0 ≤ _), (by decide : 20 + 0 ≤ _)⟩)
      dsimp only [Pt.U, Pt.locs, Pt.cells, Pt.slots] at X1321 l1321 y1321 z1321 st1321 hQ1321
      subst l1321 y1321 z1321
      obtain ⟨rfl, N1321q, K1321, o1321_0, o1321_1, o1321_2, o1321_3, o1321_4, o1321_5, o1321_6, o1321_7, o1321_8, o1321_9⟩ := hQ1321
      have N1321 := Fr.app N1314 N1321q
      have x1322 := x1315.keep K1321
      have x1323 := x1316.keep K1321 (ninS (Ne.symm ne1265) (ninS (Ne.symm ne1267) (ninS (Ne.symm ne1268) (ninS (Ne.symm ne1269) nin0))))
      have x1324 := x1317.keep K1321 (ninS (Ne.symm ne1284) (ninS (Ne.symm ne1286) (ninS (Ne.symm ne1287) (ninS (Ne.symm ne1288) nin0))))
      have x1325 := x1318.keep K1321 (ninS (Ne.symm ne1258) (ninS ne1257_0 (ninS ne1257_1 (ninS ne1257_2 nin0))))
      have sz1326 : n0 ≤ T1321.heap.size := Nat.le_trans sz1319 K1321.1
      obtain ⟨cq1327, kq1327, q1327a, q1327b, q1327c⟩ := isOf hZ rfl x1322
      obtain ⟨_, _, ⟨T1327, L1327, k1327, n1327⟩, -, X1327, ⟨Lc1327, hQ1327, l1327, y1327, z1327⟩, st1327⟩ := X1321.virtualBack hx (y := (⟨"com/example/rank60/rank60/FusedList$Explanations", "endDocument", "()V"⟩ : MethodName)) (z := (⟨"com/example/rank60/rank60/FusedList$Explanations", "endDocument", "()V"⟩ : MethodName)) hown (mvT hZ (own_wk hw 30 rfl)) (mvT hZ (own_wk hw 31 rfl)) (notFace_of_selects (args := #[]) (mvT hZ (own_wk hw 33 rfl))) (mvT hZ (own_wk hw 33 rfl)) (mvT hZ (own_wk hw 32 rfl)) (by decide) (backOf (W := 0) (rm4_1 l Z ag hw [] b1254 u0_1257 (2 : Int32) u1_1257 u2_1257 u4_1257 .null ku0_1257 (0 : Int32) (0 : Int32) (0 : Int32) T1321.heap n0 sz1326 x1322 o1321_5 o1321_4 o1321_6 o1321_0 o1321_1 o1321_2 o1321_3 x1325 ge_b1254 ge_u0_1257 ne1258) hZ (own_wk hw 34 rfl) (own_wk hw 2 rfl) (by decide) (by decide)) q1327a q1327c (g := (mkF m 135 (own_loc16 p0 p1 p2 p3 p4 p5 b1254 b1264 b1283) [(.ref b1254)])) rfl (by rw [hml]; rfl) (Steps.refl _) (argsL := []) (rest := []) (lenOf pd_2 rfl) rfl (by show 2 * 0 + _ ≤ _; exact Nat.le_of_eq rfl) (hb hby at_135) (fun _ _ => ⟨rfl, rfl, (by decide : 7 + 0 ≤ _), (by decide : 20 + 0 ≤ _)⟩)
      dsimp only [Pt.U, Pt.locs, Pt.cells, Pt.slots] at X1327 l1327 y1327 z1327 st1327 hQ1327
      subst l1327 y1327 z1327
      obtain ⟨rfl, N1327q, K1327, o1327_0, o1327_1, o1327_2, o1327_3, o1327_4, o1327_5, o1327_6, o1327_7⟩ := hQ1327
      have N1327 := Fr.app N1321 N1327q
      have x1328 := x1322.keep K1327
      have x1329 := x1323.keep K1327 (ninS (Ne.symm ne1265) (ninS (Ne.symm ne1266) nin0))
      have x1330 := x1324.keep K1327 (ninS (Ne.symm ne1284) (ninS (Ne.symm ne1285) nin0))
      have x1331 := o1321_7.keep K1327 (ninS (Ne.symm ne1259) (ninS (Ne.symm ne1257_0) nin0))
      have x1332 := o1321_8.keep K1327 (ninS (Ne.symm ne1260) (ninS (Ne.symm ne1257_1) nin0))
      have x1333 := o1321_9.keep K1327 (ninS (Ne.symm ne1261) (ninS (Ne.symm ne1257_2) nin0))
      have sz1334 : n0 ≤ T1327.heap.size := Nat.le_trans sz1326 K1327.1
      obtain ⟨T1335, h1335, X1335, e1335, E1335, A1335, D1335, -, st1335⟩ := newO X1327 hx hZ hown (own_wk hw 37 rfl) (own_wk hw 38 rfl) (own_wk hw 39 rfl) rfl (g := (mkF m 138 (own_loc16 p0 p1 p2 p3 p4 p5 b1254 b1264 b1283) [])) rfl (hb hby at_138) (by decide) (by decide)
      obtain ⟨b1335, g1335⟩ : ∃ z, z = T1327.heap.size := ⟨_, rfl⟩
      have ne1336 : b1254 ≠ b1335 := Nat.ne_of_lt (Nat.lt_of_lt_of_le x1328.lt (Nat.le_of_eq g1335.symm))
      have ne1337 : u0_1257 ≠ b1335 := Nat.ne_of_lt (Nat.lt_of_lt_of_le o1327_7.lt (Nat.le_of_eq g1335.symm))
      have ne1338 : u1_1257 ≠ b1335 := Nat.ne_of_lt (Nat.lt_of_lt_of_le x1331.lt (Nat.le_of_eq g1335.symm))
      have ne1339 : u2_1257 ≠ b1335 := Nat.ne_of_lt (Nat.lt_of_lt_of_le x1332.lt (Nat.le_of_eq g1335.symm))
      have ne1340 : u4_1257 ≠ b1335 := Nat.ne_of_lt (Nat.lt_of_lt_of_le x1333.lt (Nat.le_of_eq g1335.symm))
      have ne1341 : b1264 ≠ b1335 := Nat.ne_of_lt (Nat.lt_of_lt_of_le x1329.lt (Nat.le_of_eq g1335.symm))
      have ne1342 : b1283 ≠ b1335 := Nat.ne_of_lt (Nat.lt_of_lt_of_le x1330.lt (Nat.le_of_eq g1335.symm))
      have ge_b1335 : n0 ≤ b1335 := Nat.le_trans sz1334 (Nat.le_of_eq g1335.symm)
      rw [← g1335] at A1335 D1335 st1335
      have x1343 := x1328.ext E1335
      have x1344 := x1329.ext E1335
      have x1345 := x1330.ext E1335
      have x1346 := x1331.ext E1335
      have x1347 := x1332.ext E1335
      have x1348 := x1333.ext E1335
      have x1349 := o1327_0.ext E1335
      have x1350 := o1327_1.ext E1335
      have x1351 := o1327_2.ext E1335
      have x1352 := o1327_3.ext E1335
      have x1353 := o1327_4.ext E1335
      have x1354 := o1327_5.ext E1335
      have x1355 := o1327_6.ext E1335
      have x1356 := o1327_7.ext E1335
      have sz1357 : n0 ≤ h1335.size := Nat.le_trans sz1334 E1335.1
      have F1335_modCount : Fld Z h1335 b1335 "java/util/AbstractList" "modCount" "I" (.int (0 : Int32)) := D1335 (Or.inl (own_wk hw 59 rfl)) (ty := .int) (by decide)
      have F1335_ids : Fld Z h1335 b1335 "com/example/rank60/rank60/FusedList" "ids" "[Ljava/lang/String;" .null := D1335 (Or.inr (own_wk hw 61 rfl)) (ty := (.array (.object "java/lang/String"))) (by decide)
      have F1335_documents : Fld Z h1335 b1335 "com/example/rank60/rank60/FusedList" "documents" "[I" .null := D1335 (Or.inr (own_wk hw 63 rfl)) (ty := (.array .int)) (by decide)
      have F1335_numbering : Fld Z h1335 b1335 "com/example/rank60/rank60/FusedList" "numbering" "Lcom/example/rank60/rank60/DocumentNumbering;" .null := D1335 (Or.inr (own_wk hw 65 rfl)) (ty := (.object "com/example/rank60/rank60/DocumentNumbering")) (by decide)
      have F1335_scores : Fld Z h1335 b1335 "com/example/rank60/rank60/FusedList" "scores" "[D" .null := D1335 (Or.inr (own_wk hw 67 rfl)) (ty := (.array .double)) (by decide)
      have F1335_firstRank : Fld Z h1335 b1335 "com/example/rank60/rank60/FusedList" "firstRank" "I" (.int (0 : Int32)) := D1335 (Or.inr (own_wk hw 69 rfl)) (ty := .int) (by decide)
      have F1335_explanations : Fld Z h1335 b1335 "com/example/rank60/rank60/FusedList" "explanations" "Lcom/example/rank60/rank60/FusedList$Explanations;" .null := D1335 (Or.inr (own_wk hw 71 rfl)) (ty := (.object "com/example/rank60/rank60/FusedList$Explanations")) (by decide)
      have cp1358 : ∀ target, own_S p e below T1335 (mkF m 149 (own_loc16 p0 p1 p2 p3 p4 p5 b1254 b1264 b1283) [(.ref b1254), .int 1, (.ref b1283), (.ref b1264), (.ref b1335), (.ref b1335)]) target → own_S p e below s₁ (mkF m 0 (own_loc7 p0 p1 p2 p3 p4 p5) []) target := by
        intro target kt
        show own_S p e below s₁ (mkF m 0 (own_loc7 p0 p1 p2 p3 p4 p5) []) _
        refine cp1320 _ ?_
        show own_S p e below T1314 (mkF m 119 (own_loc16 p0 p1 p2 p3 p4 p5 b1254 b1264 b1283) [(.double (FP.i2d ((p4 >>> ((24 : Int32) &&& 31)).toInt8.toInt32))), (.double (FP.i2d ((p4 >>> ((16 : Int32) &&& 31)).toInt8.toInt32))), (.int p3), (.int p2), (.ref b1254)]) _
        refine st1321.trans ?_
        show own_S p e below T1321 (mkF m 122 (own_loc16 p0 p1 p2 p3 p4 p5 b1254 b1264 b1283) []) _
        refine XS.iload X1321.here hx rfl (hb hby at_122) rfl ?_
        show own_S p e below T1321 (mkF m 124 (own_loc16 p0 p1 p2 p3 p4 p5 b1254 b1264 b1283) [(.int ((own_ushr p5 (1 : Int32)) % (3 : Int32)))]) _
        refine XS.iconst X1321.here hx rfl (hb hby at_124) ?_
        show own_S p e below T1321 (mkF m 125 (own_loc16 p0 p1 p2 p3 p4 p5 b1254 b1264 b1283) [.int 2, (.int ((own_ushr p5 (1 : Int32)) % (3 : Int32)))]) _
        refine XS.icmpYes X1321.here hx rfl (pc0 := 125) (pc' := 133) rfl (hb hby at_125) rfl (feq (show ¬ (((own_ushr p5 (1 : Int32)) % (3 : Int32)) = (2 : Int32)) from (fun q => absurd (hc1304.symm.trans q) (by decide)))).2 (by decide) (by decide) ?_
        show own_S p e below T1321 (mkF m 133 (own_loc16 p0 p1 p2 p3 p4 p5 b1254 b1264 b1283) []) _
        refine XS.aload X1321.here hx rfl (hb hby at_133) rfl rfl ?_
        show own_S p e below T1321 (mkF m 135 (own_loc16 p0 p1 p2 p3 p4 p5 b1254 b1264 b1283) [(.ref b1254)]) _
        refine st1327.trans ?_
        show own_S p e below T1327 (mkF m 138 (own_loc16 p0 p1 p2 p3 p4 p5 b1254 b1264 b1283) []) _
        refine st1335 _ ?_
        show own_S p e below T1335 (mkF m 141 (own_loc16 p0 p1 p2 p3 p4 p5 b1254 b1264 b1283) [(.ref b1335)]) _
        refine XS.dup X1335.here hx rfl (hb hby at_141) rfl rfl ?_
        show own_S p e below T1335 (mkF m 142 (own_loc16 p0 p1 p2 p3 p4 p5 b1254 b1264 b1283) [(.ref b1335), (.ref b1335)]) _
        refine XS.aload X1335.here hx rfl (hb hby at_142) rfl rfl ?_
        show own_S p e below T1335 (mkF m 144 (own_loc16 p0 p1 p2 p3 p4 p5 b1254 b1264 b1283) [(.ref b1264), (.ref b1335), (.ref b1335)]) _
        refine XS.aload X1335.here hx rfl (hb hby at_144) rfl rfl ?_
        show own_S p e below T1335 (mkF m 146 (own_loc16 p0 p1 p2 p3 p4 p5 b1254 b1264 b1283) [(.ref b1283), (.ref b1264), (.ref b1335), (.ref b1335)]) _
        refine XS.iconst X1335.here hx rfl (hb hby at_146) ?_
        show own_S p e below T1335 (mkF m 147 (own_loc16 p0 p1 p2 p3 p4 p5 b1254 b1264 b1283) [.int 1, (.ref b1283), (.ref b1264), (.ref b1335), (.ref b1335)]) _
        refine XS.aload X1335.here hx rfl (hb hby at_147) rfl rfl ?_
        exact kt
      obtain ⟨_, _, ⟨T1359, L1359, k1359, n1359⟩, -, X1359, ⟨Lc1359, hQ1359, l1359, y1359, z1359⟩, st1359⟩ := X1335.specialBack hx (y := (⟨"com/example/rank60/rank60/FusedList", "<init>", "([Ljava/lang/String;[DILcom/example/rank60/rank60/FusedList$Explanations;)V"⟩ : MethodName)) rfl hown (mvT hZ (own_wk hw 40 rfl)) (mvT hZ (own_wk hw 41 rfl)) (mvT hZ (own_wk hw 42 rfl)) (by decide) (backOf (W := 1) (rm5 l Z ag hw [] b1335 b1264 b1283 (1 : Int32) b1254  h1335 n0 sz1357 A1335 F1335_modCount F1335_ids F1335_documents F1335_numbering F1335_scores F1335_explanations F1335_firstRank ge_b1335) hZ (own_wk hw 42 rfl) (own_wk hw 39 rfl) (by decide) (by decide)) (g := (mkF m 149 (own_loc16 p0 p1 p2 p3 p4 p5 b1254 b1264 b1283) [(.ref b1254), .int 1, (.ref b1283), (.ref b1264), (.ref b1335), (.ref b1335)])) rfl (by rw [hml]; rfl) (Steps.refl _) (a := b1335) (argsL := [(.ref b1264), (.ref b1283), (.int (1 : Int32)), (.ref b1254)]) (rest := [(.ref b1335)]) (lenOf pd_12 rfl) rfl (by show 2 * 0 + _ ≤ _; exact Nat.le_of_eq rfl) (hb hby at_149) (fun _ _ => ⟨rfl, e1335, (by decide : 8 + 0 ≤ _), (by decide : 27 + 0 ≤ _)⟩)
      dsimp only [Pt.U, Pt.locs, Pt.cells, Pt.slots] at X1359 l1359 y1359 z1359 st1359 hQ1359
      subst l1359 y1359 z1359
      obtain ⟨rfl, N1359q, K1359, o1359_0, o1359_1⟩ := hQ1359
      have N1359 := Fr.app N1327 N1359q
      have x1360 := x1343.keep K1359
      have x1361 := x1344.keep K1359 (ninS ne1341 nin0)
      have x1362 := x1345.keep K1359 (ninS ne1342 nin0)
      have x1363 := x1346.keep K1359 (ninS ne1338 nin0)
      have x1364 := x1347.keep K1359 (ninS ne1339 nin0)
      have x1365 := x1348.keep K1359 (ninS ne1340 nin0)
      have x1366 := x1349.keep K1359 (ninS ne1336 nin0)
      have x1367 := x1350.keep K1359 (ninS ne1336 nin0)
      have x1368 := x1351.keep K1359 (ninS ne1336 nin0)
      have x1369 := x1352.keep K1359 (ninS ne1336 nin0)
      have x1370 := x1353.keep K1359 (ninS ne1336 nin0)
      have x1371 := x1354.keep K1359 (ninS ne1336 nin0)
      have x1372 := x1355.keep K1359 (ninS ne1336 nin0)
      have x1373 := x1356.keep K1359 (ninS ne1337 nin0)
      have x1374 := A1335.keep K1359
      have sz1375 : n0 ≤ T1359.heap.size := Nat.le_trans sz1357 K1359.1
      obtain ⟨cq1376, kq1376, q1376a, q1376b, q1376c⟩ := isOf hZ rfl x1374
      obtain ⟨_, _, ⟨T1376, L1376, k1376, n1376⟩, -, X1376, ⟨Lc1376, hQ1376, l1376, y1376, z1376⟩, st1376⟩ := X1359.virtualBack hx (y := (⟨"com/example/rank60/rank60/FusedList", "contributions", "(I)Ljava/util/List;"⟩ : MethodName)) (z := (⟨"com/example/rank60/rank60/FusedList", "contributions", "(I)Ljava/util/List;"⟩ : MethodName)) hown (mvT hZ (own_wk hw 72 rfl)) (mvT hZ (own_wk hw 73 rfl)) (notFace_of_selects (args := #[]) (mvT hZ (own_wk hw 75 rfl))) (mvT hZ (own_wk hw 75 rfl)) (mvT hZ (own_wk hw 74 rfl)) (by decide) (backOf (W := 0) (rm9_0 l Z ag hw [] b1335 b1283 k1283 (FP.l2d 0) (FP.l2d 0) b1254 u0_1257 ku0_1257 (0 : Int32) (0 : Int32) (2 : Int32) T1359.heap n0 sz1375 x1374 o1359_0 x1362 o1359_1 x1360 x1366 x1373) hZ (own_wk hw 76 rfl) (own_wk hw 39 rfl) (by decide) (by decide)) q1376a q1376c (g := (mkF m 157 (own_loc17 p0 p1 p2 p3 p4 p5 b1254 b1264 b1283 b1335) [.int 0, (.ref b1335)])) rfl (by rw [hml]; rfl) (Steps.refl _) (argsL := [(.int (0 : Int32))]) (rest := []) (lenOf pd_5 rfl) rfl (by show 2 * 0 + _ ≤ _; exact Nat.le_of_eq rfl) (hb hby at_157) (fun _ _ => ⟨rfl, rfl, (by decide : 8 + 1 ≤ _), (by decide : 27 + 4 ≤ _)⟩)
      dsimp only [Pt.U, Pt.locs, Pt.cells, Pt.slots] at X1376 l1376 y1376 z1376 st1376 hQ1376
      subst l1376 y1376 z1376
      obtain ⟨r1376, rfl, N1376q, K1376, ge_r1376, gq_r1376, o1376_0, o1376_1, o1376_2, o1376_3⟩ := hQ1376
      have N1376 := Fr.app N1359 N1376q
      have x1377 := x1360.keep K1376
      have x1378 := x1361.keep K1376 nin0
      have x1379 := x1362.keep K1376 nin0
      have x1380 := x1363.keep K1376 nin0
      have x1381 := x1364.keep K1376 nin0
      have x1382 := x1365.keep K1376 nin0
      have x1383 := x1366.keep K1376 nin0
      have x1384 := x1367.keep K1376 nin0
      have x1385 := x1368.keep K1376 nin0
      have x1386 := x1369.keep K1376 nin0
      have x1387 := x1370.keep K1376 nin0
      have x1388 := x1371.keep K1376 nin0
      have x1389 := x1372.keep K1376 nin0
      have x1390 := x1373.keep K1376 nin0
      have x1391 := x1374.keep K1376
      have x1392 := o1359_0.keep K1376 nin0
      have x1393 := o1359_1.keep K1376 nin0
      have sz1394 : n0 ≤ T1376.heap.size := Nat.le_trans sz1375 K1376.1
      obtain ⟨cq1395, kq1395, q1395a, q1395b, q1395c⟩ := isOf hZ rfl x1391
      obtain ⟨_, _, ⟨T1395, L1395, k1395, n1395⟩, -, X1395, ⟨Lc1395, hQ1395, l1395, y1395, z1395⟩, st1395⟩ := X1376.virtualBack hx (y := (⟨"com/example/rank60/rank60/FusedList", "contributions", "(I)Ljava/util/List;"⟩ : MethodName)) (z := (⟨"com/example/rank60/rank60/FusedList", "contributions", "(I)Ljava/util/List;"⟩ : MethodName)) hown (mvT hZ (own_wk hw 72 rfl)) (mvT hZ (own_wk hw 73 rfl)) (notFace_of_selects (args := #[]) (mvT hZ (own_wk hw 75 rfl))) (mvT hZ (own_wk hw 75 rfl)) (mvT hZ (own_wk hw 74 rfl)) (by decide) (backOf (W := 0) (rm9_1 l Z ag hw [] b1335 b1283 k1283 (FP.l2d 0) (FP.l2d 0) b1254 u0_1257 ku0_1257 (0 : Int32) (0 : Int32) (2 : Int32) T1376.heap n0 sz1394 x1391 x1392 x1379 x1393 x1377 x1383 x1390) hZ (own_wk hw 76 rfl) (own_wk hw 39 rfl) (by decide) (by decide)) q1395a q1395c (g := (mkF m 165 (own_loc18 p0 p1 p2 p3 p4 p5 b1254 b1264 b1283 b1335 r1376) [.int 1, (.ref b1335)])) rfl (by rw [hml]; rfl) (Steps.refl _) (argsL := [(.int (1 : Int32))]) (rest := []) (lenOf pd_5 rfl) rfl (by show 2 * 0 + _ ≤ _; exact Nat.le_of_eq rfl) (hb hby at_165) (fun _ _ => ⟨rfl, rfl, (by decide : 9 + 1 ≤ _), (by decide : 31 + 4 ≤ _)⟩)
      dsimp only [Pt.U, Pt.locs, Pt.cells, Pt.slots] at X1395 l1395 y1395 z1395 st1395 hQ1395
      subst l1395 y1395 z1395
      obtain ⟨r1395, rfl, N1395q, K1395, ge_r1395, gq_r1395, o1395_0, o1395_1, o1395_2, o1395_3⟩ := hQ1395
      have N1395 := Fr.app N1376 N1395q
      have x1396 := x1377.keep K1395
      have x1397 := x1378.keep K1395 nin0
      have x1398 := x1379.keep K1395 nin0
      have x1399 := x1380.keep K1395 nin0
      have x1400 := x1381.keep K1395 nin0
      have x1401 := x1382.keep K1395 nin0
      have x1402 := x1383.keep K1395 nin0
      have x1403 := x1384.keep K1395 nin0
      have x1404 := x1385.keep K1395 nin0
      have x1405 := x1386.keep K1395 nin0
      have x1406 := x1387.keep K1395 nin0
      have x1407 := x1388.keep K1395 nin0
      have x1408 := x1389.keep K1395 nin0
      have x1409 := x1390.keep K1395 nin0
      have x1410 := x1391.keep K1395
      have x1411 := x1392.keep K1395 nin0
      have x1412 := x1393.keep K1395 nin0
      have x1413 := o1376_0.keep K1395
      have x1414 := o1376_1.keep K1395 nin0
      have x1415 := o1376_2.keep K1395 nin0
      have x1416 := o1376_3.keep K1395 nin0
      have sz1417 : n0 ≤ T1395.heap.size := Nat.le_trans sz1394 K1395.1
      obtain ⟨cq1418, kq1418, q1418a, q1418b, q1418c⟩ := isOf hZ rfl x1413
      obtain ⟨_, _, ⟨T1418, L1418, k1418, n1418⟩, -, X1418, ⟨Lc1418, hQ1418, l1418, y1418, z1418⟩, st1418⟩ := X1395.interfaceBack hx (xi := (⟨"java/util/List", "size", "()I"⟩ : MethodName)) (y := (⟨"com/example/rank60/rank60/FusedList$Explanations$DocumentContributions", "size", "()I"⟩ : MethodName)) hown (mvT hZ (own_wk hw 104 rfl)) (mvT hZ (own_wk hw 105 rfl)) (mvT hZ (own_wk hw 106 rfl)) (mvT hZ (own_wk hw 107 rfl)) (mvT hZ (own_wk hw 108 rfl)) (mvT hZ (own_wk hw 109 rfl)) (mvT hZ (own_wk hw 110 rfl)) (mvT hZ (own_wk hw 111 rfl)) (by decide) (backOf (W := 0) (rm14 l Z ag hw [] r1376 ((0 : Int32) - (0 : Int32)) T1395.heap n0 sz1417 x1416) hZ (own_wk hw 112 rfl) (own_wk hw 91 rfl) (by decide) (by decide)) q1418a q1418b q1418c (g := (mkF m 172 (own_loc19 p0 p1 p2 p3 p4 p5 b1254 b1264 b1283 b1335 r1376 r1395) [(.ref r1376)])) rfl (by rw [hml]; rfl) (Steps.refl _) (argsL := []) (rest := []) (lenOf pd_1 rfl) rfl (by show 2 * 0 + _ ≤ _; exact Nat.le_of_eq rfl) (hb hby at_172) (fun _ _ => ⟨rfl, rfl, (by decide : 10 + 0 ≤ _), (by decide : 35 + 0 ≤ _)⟩)
      dsimp only [Pt.U, Pt.locs, Pt.cells, Pt.slots] at X1418 l1418 y1418 z1418 st1418 hQ1418
      subst l1418 y1418 z1418
      obtain ⟨rfl, N1418q, e1418⟩ := hQ1418
      have N1418 := Fr.app N1395 N1418q
      have cp1419 : ∀ target, own_S p e below T1418 (mkF m 184 (own_loc19 p0 p1 p2 p3 p4 p5 b1254 b1264 b1283 b1335 r1376 r1395) [(.ref r1395)]) target → own_S p e below s₁ (mkF m 0 (own_loc7 p0 p1 p2 p3 p4 p5) []) target := by
        intro target kt
        show own_S p e below s₁ (mkF m 0 (own_loc7 p0 p1 p2 p3 p4 p5) []) _
        refine cp1358 _ ?_
        show own_S p e below T1335 (mkF m 149 (own_loc16 p0 p1 p2 p3 p4 p5 b1254 b1264 b1283) [(.ref b1254), .int 1, (.ref b1283), (.ref b1264), (.ref b1335), (.ref b1335)]) _
        refine st1359.trans ?_
        show own_S p e below T1359 (mkF m 152 (own_loc16 p0 p1 p2 p3 p4 p5 b1254 b1264 b1283) [(.ref b1335)]) _
        refine XS.astore X1359.here hx rfl (hb hby at_152) rfl rfl (l' := (own_loc17 p0 p1 p2 p3 p4 p5 b1254 b1264 b1283 b1335)) rfl ?_
        show own_S p e below T1359 (mkF m 154 (own_loc17 p0 p1 p2 p3 p4 p5 b1254 b1264 b1283 b1335) []) _
        refine XS.aload X1359.here hx rfl (hb hby at_154) rfl rfl ?_
        show own_S p e below T1359 (mkF m 156 (own_loc17 p0 p1 p2 p3 p4 p5 b1254 b1264 b1283 b1335) [(.ref b1335)]) _
        refine XS.iconst X1359.here hx rfl (hb hby at_156) ?_
        show own_S p e below T1359 (mkF m 157 (own_loc17 p0 p1 p2 p3 p4 p5 b1254 b1264 b1283 b1335) [.int 0, (.ref b1335)]) _
        refine st1376.trans ?_
        show own_S p e below T1376 (mkF m 160 (own_loc17 p0 p1 p2 p3 p4 p5 b1254 b1264 b1283 b1335) [(.ref r1376)]) _
        refine XS.astore X1376.here hx rfl (hb hby at_160) rfl rfl (l' := (own_loc18 p0 p1 p2 p3 p4 p5 b1254 b1264 b1283 b1335 r1376)) rfl ?_
        show own_S p e below T1376 (mkF m 162 (own_loc18 p0 p1 p2 p3 p4 p5 b1254 b1264 b1283 b1335 r1376) []) _
        refine XS.aload X1376.here hx rfl (hb hby at_162) rfl rfl ?_
        show own_S p e below T1376 (mkF m 164 (own_loc18 p0 p1 p2 p3 p4 p5 b1254 b1264 b1283 b1335 r1376) [(.ref b1335)]) _
        refine XS.iconst X1376.here hx rfl (hb hby at_164) ?_
        show own_S p e below T1376 (mkF m 165 (own_loc18 p0 p1 p2 p3 p4 p5 b1254 b1264 b1283 b1335 r1376) [.int 1, (.ref b1335)]) _
        refine st1395.trans ?_
        show own_S p e below T1395 (mkF m 168 (own_loc18 p0 p1 p2 p3 p4 p5 b1254 b1264 b1283 b1335 r1376) [(.ref r1395)]) _
        refine XS.astore X1395.here hx rfl (hb hby at_168) rfl rfl (l' := (own_loc19 p0 p1 p2 p3 p4 p5 b1254 b1264 b1283 b1335 r1376 r1395)) rfl ?_
        show own_S p e below T1395 (mkF m 170 (own_loc19 p0 p1 p2 p3 p4 p5 b1254 b1264 b1283 b1335 r1376 r1395) []) _
        refine XS.aload X1395.here hx rfl (hb hby at_170) rfl rfl ?_
        show own_S p e below T1395 (mkF m 172 (own_loc19 p0 p1 p2 p3 p4 p5 b1254 b1264 b1283 b1335 r1376 r1395) [(.ref r1376)]) _
        refine st1418.trans ?_
        show own_S p e below T1418 (mkF m 177 (own_loc19 p0 p1 p2 p3 p4 p5 b1254 b1264 b1283 b1335 r1376 r1395) [(.int ((0 : Int32) - (0 : Int32)))]) _
        refine XS.iload X1418.here hx rfl (hb hby at_177) rfl ?_
        show own_S p e below T1418 (mkF m 179 (own_loc19 p0 p1 p2 p3 p4 p5 b1254 b1264 b1283 b1335 r1376 r1395) [(.int ((own_ushr p5 (1 : Int32)) % (3 : Int32))), (.int ((0 : Int32) - (0 : Int32)))]) _
        refine XS.icmpNo X1418.here hx rfl (hb hby at_179) rfl (teq (show ((0 : Int32) - (0 : Int32)) = ((own_ushr p5 (1 : Int32)) % (3 : Int32)) from (by rw [hc1304]; first | done | decide))).2 ?_
        show own_S p e below T1418 (mkF m 182 (own_loc19 p0 p1 p2 p3 p4 p5 b1254 b1264 b1283 b1335 r1376 r1395) []) _
        refine XS.aload X1418.here hx rfl (hb hby at_182) rfl rfl ?_
        exact kt
      obtain ⟨cq1420, kq1420, q1420a, q1420b, q1420c⟩ := isOf hZ e1418 o1395_0
      obtain ⟨_, _, ⟨T1420, L1420, k1420, n1420⟩, -, X1420, ⟨Lc1420, hQ1420, l1420, y1420, z1420⟩, st1420⟩ := X1418.interfaceBack hx (xi := (⟨"java/util/List", "size", "()I"⟩ : MethodName)) (y := (⟨"com/example/rank60/rank60/FusedList$Explanations$DocumentContributions", "size", "()I"⟩ : MethodName)) hown (mvT hZ (own_wk hw 104 rfl)) (mvT hZ (own_wk hw 105 rfl)) (mvT hZ (own_wk hw 106 rfl)) (mvT hZ (own_wk hw 107 rfl)) (mvT hZ (own_wk hw 108 rfl)) (mvT hZ (own_wk hw 109 rfl)) (mvT hZ (own_wk hw 110 rfl)) (mvT hZ (own_wk hw 111 rfl)) (by decide) (backOf (W := 0) (rm14 l Z ag hw [] r1395 ((2 : Int32) - (0 : Int32)) T1395.heap n0 sz1417 o1395_3) hZ (own_wk hw 112 rfl) (own_wk hw 91 rfl) (by decide) (by decide)) q1420a q1420b q1420c (g := (mkF m 184 (own_loc19 p0 p1 p2 p3 p4 p5 b1254 b1264 b1283 b1335 r1376 r1395) [(.ref r1395)])) rfl (by rw [hml]; rfl) (Steps.refl _) (argsL := []) (rest := []) (lenOf pd_1 rfl) rfl (by show 2 * 0 + _ ≤ _; exact Nat.le_of_eq rfl) (hb hby at_184) (fun _ _ => ⟨rfl, e1418, (by decide : 10 + 0 ≤ _), (by decide : 35 + 0 ≤ _)⟩)
      dsimp only [Pt.U, Pt.locs, Pt.cells, Pt.slots] at X1420 l1420 y1420 z1420 st1420 hQ1420
      subst l1420 y1420 z1420
      obtain ⟨rfl, N1420q, e1420⟩ := hQ1420
      have N1420 := Fr.app N1418 N1420q
      obtain ⟨cq1421, kq1421, q1421a, q1421b, q1421c⟩ := isOf hZ e1420 o1395_0
      obtain ⟨_, _, ⟨T1421, L1421, k1421, n1421⟩, -, X1421, ⟨Lc1421, hQ1421, l1421, y1421, z1421⟩, st1421⟩ := X1420.interfaceBack hx (xi := (⟨"java/util/List", "get", "(I)Ljava/lang/Object;"⟩ : MethodName)) (y := (⟨"com/example/rank60/rank60/FusedList$Explanations$DocumentContributions", "get", "(I)Ljava/lang/Object;"⟩ : MethodName)) hown (mvT hZ (own_wk hw 113 rfl)) (mvT hZ (own_wk hw 114 rfl)) (mvT hZ (own_wk hw 115 rfl)) (mvT hZ (own_wk hw 116 rfl)) (mvT hZ (own_wk hw 117 rfl)) (mvT hZ (own_wk hw 118 rfl)) (mvT hZ (own_wk hw 119 rfl)) (mvT hZ (own_wk hw 111 rfl)) (by decide) (backOf (W := 0) (rm15_000 l Z ag hw [] r1395 ((2 : Int32) - (0 : Int32)) b1254 u1_1257 u2_1257 u4_1257 ku1_1257 p0 p2 ku2_1257 p1 p3 ku4_1257 (FP.i2d ((p4 >>> ((8 : Int32) &&& 31)).toInt8.toInt32)) (FP.i2d ((p4 >>> ((24 : Int32) &&& 31)).toInt8.toInt32)) T1395.heap n0 sz1417 o1395_0 o1395_2 o1395_3 o1395_1 x1396 x1405 x1406 x1408 x1407 x1399 x1400 x1401 (by decide)) hZ (own_wk hw 120 rfl) (own_wk hw 91 rfl) (by decide) (by decide)) q1421a q1421b q1421c (g := (mkF m 206 (own_loc19 p0 p1 p2 p3 p4 p5 b1254 b1264 b1283 b1335 r1376 r1395) [.int 0, (.ref r1395)])) rfl (by rw [hml]; rfl) (Steps.refl _) (argsL := [(.int (0 : Int32))]) (rest := []) (lenOf pd_4 rfl) rfl (by show 2 * 0 + _ ≤ _; exact Nat.le_of_eq rfl) (hb hby at_206) (fun _ _ => ⟨rfl, e1420, (by decide : 10 + 1 ≤ _), (by decide : 35 + 4 ≤ _)⟩)
      dsimp only [Pt.U, Pt.locs, Pt.cells, Pt.slots] at X1421 l1421 y1421 z1421 st1421 hQ1421
      subst l1421 y1421 z1421
      obtain ⟨r1421, rfl, N1421q, K1421, ge_r1421, gq_r1421, o1421_0, o1421_1, o1421_2, o1421_3, o1421_4⟩ := hQ1421
      have N1421 := Fr.app N1420 N1421q
      have x1422 := x1396.keep K1421
      have x1423 := x1397.keep K1421 nin0
      have x1424 := x1398.keep K1421 nin0
      have x1425 := x1399.keep K1421 nin0
      have x1426 := x1400.keep K1421 nin0
      have x1427 := x1401.keep K1421 nin0
      have x1428 := x1402.keep K1421 nin0
      have x1429 := x1403.keep K1421 nin0
      have x1430 := x1404.keep K1421 nin0
      have x1431 := x1405.keep K1421 nin0
      have x1432 := x1406.keep K1421 nin0
      have x1433 := x1407.keep K1421 nin0
      have x1434 := x1408.keep K1421 nin0
      have x1435 := x1409.keep K1421 nin0
      have x1436 := x1410.keep K1421
      have x1437 := x1411.keep K1421 nin0
      have x1438 := x1412.keep K1421 nin0
      have x1439 := x1413.keep K1421
      have x1440 := x1414.keep K1421 nin0
      have x1441 := x1415.keep K1421 nin0
      have x1442 := x1416.keep K1421 nin0
      have x1443 := o1395_0.keep K1421
      have x1444 := o1395_1.keep K1421 nin0
      have x1445 := o1395_2.keep K1421 nin0
      have x1446 := o1395_3.keep K1421 nin0
      have sz1447 : n0 ≤ T1421.heap.size := Nat.le_trans sz1417 K1421.1
      obtain ⟨T1448, X1448, e1448, st1448⟩ := castY X1421 hx hZ hown (own_wk hw 151 rfl) rfl (Ins.self o1421_0) (g := (mkF m 211 (own_loc19 p0 p1 p2 p3 p4 p5 b1254 b1264 b1283 b1335 r1376 r1395) [(.ref r1421)])) rfl rfl (hb hby at_211)
      have cp1449 : ∀ target, own_S p e below T1448 (mkF m 219 (own_loc20 p0 p1 p2 p3 p4 p5 b1254 b1264 b1283 b1335 r1376 r1395 r1421) [.int 1, (.ref r1395)]) target → own_S p e below s₁ (mkF m 0 (own_loc7 p0 p1 p2 p3 p4 p5) []) target := by
        intro target kt
        show own_S p e below s₁ (mkF m 0 (own_loc7 p0 p1 p2 p3 p4 p5) []) _
        refine cp1419 _ ?_
        show own_S p e below T1418 (mkF m 184 (own_loc19 p0 p1 p2 p3 p4 p5 b1254 b1264 b1283 b1335 r1376 r1395) [(.ref r1395)]) _
        refine st1420.trans ?_
        show own_S p e below T1420 (mkF m 189 (own_loc19 p0 p1 p2 p3 p4 p5 b1254 b1264 b1283 b1335 r1376 r1395) [(.int ((2 : Int32) - (0 : Int32)))]) _
        refine XS.iconst X1420.here hx rfl (hb hby at_189) ?_
        show own_S p e below T1420 (mkF m 190 (own_loc19 p0 p1 p2 p3 p4 p5 b1254 b1264 b1283 b1335 r1376 r1395) [.int 2, (.int ((2 : Int32) - (0 : Int32)))]) _
        refine XS.iload X1420.here hx rfl (hb hby at_190) rfl ?_
        show own_S p e below T1420 (mkF m 192 (own_loc19 p0 p1 p2 p3 p4 p5 b1254 b1264 b1283 b1335 r1376 r1395) [(.int ((own_ushr p5 (1 : Int32)) % (3 : Int32))), .int 2, (.int ((2 : Int32) - (0 : Int32)))]) _
        refine XS.isub X1420.here hx rfl (hb hby at_192) rfl ?_
        show own_S p e below T1420 (mkF m 193 (own_loc19 p0 p1 p2 p3 p4 p5 b1254 b1264 b1283 b1335 r1376 r1395) [(.int ((2 : Int32) - ((own_ushr p5 (1 : Int32)) % (3 : Int32)))), (.int ((2 : Int32) - (0 : Int32)))]) _
        refine XS.icmpYes X1420.here hx rfl (pc0 := 193) (pc' := 198) rfl (hb hby at_193) rfl (teq (show ((2 : Int32) - (0 : Int32)) = ((2 : Int32) - ((own_ushr p5 (1 : Int32)) % (3 : Int32))) from (by rw [hc1304]; first | done | decide))).1 (by decide) (by decide) ?_
        show own_S p e below T1420 (mkF m 198 (own_loc19 p0 p1 p2 p3 p4 p5 b1254 b1264 b1283 b1335 r1376 r1395) []) _
        refine XS.iload X1420.here hx rfl (hb hby at_198) rfl ?_
        show own_S p e below T1420 (mkF m 200 (own_loc19 p0 p1 p2 p3 p4 p5 b1254 b1264 b1283 b1335 r1376 r1395) [(.int ((own_ushr p5 (1 : Int32)) % (3 : Int32)))]) _
        refine XS.ifNo X1420.here hx rfl (hb hby at_200) rfl ((if0 _ _).trans (teq hc1304).2) ?_
        show own_S p e below T1420 (mkF m 203 (own_loc19 p0 p1 p2 p3 p4 p5 b1254 b1264 b1283 b1335 r1376 r1395) []) _
        refine XS.aload X1420.here hx rfl (hb hby at_203) rfl rfl ?_
        show own_S p e below T1420 (mkF m 205 (own_loc19 p0 p1 p2 p3 p4 p5 b1254 b1264 b1283 b1335 r1376 r1395) [(.ref r1395)]) _
        refine XS.iconst X1420.here hx rfl (hb hby at_205) ?_
        show own_S p e below T1420 (mkF m 206 (own_loc19 p0 p1 p2 p3 p4 p5 b1254 b1264 b1283 b1335 r1376 r1395) [.int 0, (.ref r1395)]) _
        refine st1421.trans ?_
        show own_S p e below T1421 (mkF m 211 (own_loc19 p0 p1 p2 p3 p4 p5 b1254 b1264 b1283 b1335 r1376 r1395) [(.ref r1421)]) _
        refine st1448 _ ?_
        show own_S p e below T1448 (mkF m 214 (own_loc19 p0 p1 p2 p3 p4 p5 b1254 b1264 b1283 b1335 r1376 r1395) [(.ref r1421)]) _
        refine XS.astore X1448.here hx rfl (hb hby at_214) rfl rfl (l' := (own_loc20 p0 p1 p2 p3 p4 p5 b1254 b1264 b1283 b1335 r1376 r1395 r1421)) rfl ?_
        show own_S p e below T1448 (mkF m 216 (own_loc20 p0 p1 p2 p3 p4 p5 b1254 b1264 b1283 b1335 r1376 r1395 r1421) []) _
        refine XS.aload X1448.here hx rfl (hb hby at_216) rfl rfl ?_
        show own_S p e below T1448 (mkF m 218 (own_loc20 p0 p1 p2 p3 p4 p5 b1254 b1264 b1283 b1335 r1376 r1395 r1421) [(.ref r1395)]) _
        refine XS.iconst X1448.here hx rfl (hb hby at_218) ?_
        exact kt
      obtain ⟨cq1450, kq1450, q1450a, q1450b, q1450c⟩ := isOf hZ e1448 x1443
      obtain ⟨_, _, ⟨T1450, L1450, k1450, n1450⟩, -, X1450, ⟨Lc1450, hQ1450, l1450, y1450, z1450⟩, st1450⟩ := X1448.interfaceBack hx (xi := (⟨"java/util/List", "get", "(I)Ljava/lang/Object;"⟩ : MethodName)) (y := (⟨"com/example/rank60/rank60/FusedList$Explanations$DocumentContributions", "get", "(I)Ljava/lang/Object;"⟩ : MethodName)) hown (mvT hZ (own_wk hw 113 rfl)) (mvT hZ (own_wk hw 114 rfl)) (mvT hZ (own_wk hw 115 rfl)) (mvT hZ (own_wk hw 116 rfl)) (mvT hZ (own_wk hw 117 rfl)) (mvT hZ (own_wk hw 118 rfl)) (mvT hZ (own_wk hw 119 rfl)) (mvT hZ (own_wk hw 111 rfl)) (by decide) (backOf (W := 0) (rm15_100 l Z ag hw [] r1395 ((2 : Int32) - (0 : Int32)) b1254 u1_1257 u2_1257 u4_1257 ku1_1257 p0 p2 ku2_1257 p1 p3 ku4_1257 (FP.i2d ((p4 >>> ((8 : Int32) &&& 31)).toInt8.toInt32)) (FP.i2d ((p4 >>> ((24 : Int32) &&& 31)).toInt8.toInt32)) T1421.heap n0 sz1447 x1443 x1445 x1446 x1444 x1422 x1431 x1432 x1434 x1433 x1425 x1426 x1427 (by decide)) hZ (own_wk hw 120 rfl) (own_wk hw 91 rfl) (by decide) (by decide)) q1450a q1450b q1450c (g := (mkF m 219 (own_loc20 p0 p1 p2 p3 p4 p5 b1254 b1264 b1283 b1335 r1376 r1395 r1421) [.int 1, (.ref r1395)])) rfl (by rw [hml]; rfl) (Steps.refl _) (argsL := [(.int (1 : Int32))]) (rest := []) (lenOf pd_4 rfl) rfl (by show 2 * 0 + _ ≤ _; exact Nat.le_of_eq rfl) (hb hby at_219) (fun _ _ => ⟨rfl, e1448, (by decide : 11 + 1 ≤ _), (by decide : 39 + 4 ≤ _)⟩)
      dsimp only [Pt.U, Pt.locs, Pt.cells, Pt.slots] at X1450 l1450 y1450 z1450 st1450 hQ1450
      subst l1450 y1450 z1450
      obtain ⟨r1450, rfl, N1450q, K1450, ge_r1450, gq_r1450, o1450_0, o1450_1, o1450_2, o1450_3, o1450_4⟩ := hQ1450
      have N1450 := Fr.app N1421 N1450q
      have x1451 := x1422.keep K1450
      have x1452 := x1423.keep K1450 nin0
      have x1453 := x1424.keep K1450 nin0
      have x1454 := x1425.keep K1450 nin0
      have x1455 := x1426.keep K1450 nin0
      have x1456 := x1427.keep K1450 nin0
      have x1457 := x1428.keep K1450 nin0
      have x1458 := x1429.keep K1450 nin0
      have x1459 := x1430.keep K1450 nin0
      have x1460 := x1431.keep K1450 nin0
      have x1461 := x1432.keep K1450 nin0
      have x1462 := x1433.keep K1450 nin0
      have x1463 := x1434.keep K1450 nin0
      have x1464 := x1435.keep K1450 nin0
      have x1465 := x1436.keep K1450
      have x1466 := x1437.keep K1450 nin0
      have x1467 := x1438.keep K1450 nin0
      have x1468 := x1439.keep K1450
      have x1469 := x1440.keep K1450 nin0
      have x1470 := x1441.keep K1450 nin0
      have x1471 := x1442.keep K1450 nin0
      have x1472 := x1443.keep K1450
      have x1473 := x1444.keep K1450 nin0
      have x1474 := x1445.keep K1450 nin0
      have x1475 := x1446.keep K1450 nin0
      have x1476 := o1421_0.keep K1450
      have x1477 := o1421_1.keep K1450 nin0
      have x1478 := o1421_2.keep K1450 nin0
      have x1479 := o1421_3.keep K1450 nin0
      have x1480 := o1421_4.keep K1450 nin0
      have sz1481 : n0 ≤ T1450.heap.size := Nat.le_trans sz1447 K1450.1
      obtain ⟨T1482, X1482, e1482, st1482⟩ := castY X1450 hx hZ hown (own_wk hw 151 rfl) rfl (Ins.self o1450_0) (g := (mkF m 224 (own_loc20 p0 p1 p2 p3 p4 p5 b1254 b1264 b1283 b1335 r1376 r1395 r1421) [(.ref r1450)])) rfl rfl (hb hby at_224)
      obtain ⟨_, _, ⟨T1483, L1483, k1483, n1483⟩, -, X1483, ⟨Lc1483, hQ1483, l1483, y1483, z1483⟩, st1483⟩ := Jvm.LawKit.callS X1482 hx (y := (⟨"com/example/rank60/rank60/ExplanationsAddPinLaw", "matches", "(Lcom/example/rank60/rank60/FusedHit$Contribution;IIDDZ)Z"⟩ : MethodName)) hown (mvT hZ (own_wk hw 153 rfl)) (mvT hZ (own_wk hw 154 rfl)) (mvT hZ (own_wk hw 155 rfl)) (mvT hZ (own_wk hw 156 rfl)) (by decide) (backOf (W := 0) (rm19_0 l Z ag hw [] r1421 p0 p1 (FP.i2d (p4.toInt8.toInt32)) (FP.i2d ((p4 >>> ((8 : Int32) &&& 31)).toInt8.toInt32))  T1450.heap n0 sz1481 x1476 x1477 x1478 x1479 x1480 (own_i2dn _) (own_i2dn _)) hZ (own_wk hw 156 rfl) (own_wk hw 155 rfl) (by decide) (by decide)) (g := (mkF m 303 (own_loc21 p0 p1 p2 p3 p4 p5 b1254 b1264 b1283 b1335 r1376 r1395 r1421 r1450) [.int 0, (.double (FP.i2d ((p4 >>> ((8 : Int32) &&& 31)).toInt8.toInt32))), (.double (FP.i2d (p4.toInt8.toInt32))), (.int p1), (.int p0), (.ref r1421)])) rfl (by rw [hml]; rfl) (argsL := [(.ref r1421), (.int p0), (.int p1), (.double (FP.i2d (p4.toInt8.toInt32))), (.double (FP.i2d ((p4 >>> ((8 : Int32) &&& 31)).toInt8.toInt32))), (.int (0 : Int32))]) (rest := []) (lenOf pd_10 rfl) rfl (by show 2 * 0 + _ ≤ _; exact Nat.le_of_eq rfl) (hb hby at_303) (fun _ _ => ⟨rfl, e1482, (by decide : 12 + 0 ≤ _), (by decide : 43 + 0 ≤ _)⟩)
      dsimp only [Pt.U, Pt.locs, Pt.cells, Pt.slots] at X1483 l1483 y1483 z1483 st1483 hQ1483
      subst l1483 y1483 z1483
      obtain ⟨rfl, N1483q, e1483⟩ := hQ1483
      have N1483 := Fr.app N1450 N1483q
      have cp1484 : ∀ target, own_S p e below T1483 (mkF m 319 (own_loc21 p0 p1 p2 p3 p4 p5 b1254 b1264 b1283 b1335 r1376 r1395 r1421 r1450) [.int 0, (.double (FP.i2d ((p4 >>> ((24 : Int32) &&& 31)).toInt8.toInt32))), (.double (FP.i2d ((p4 >>> ((16 : Int32) &&& 31)).toInt8.toInt32))), (.int p3), (.int p2), (.ref r1450)]) target → own_S p e below s₁ (mkF m 0 (own_loc7 p0 p1 p2 p3 p4 p5) []) target := by
        intro target kt
        show own_S p e below s₁ (mkF m 0 (own_loc7 p0 p1 p2 p3 p4 p5) []) _
        refine cp1449 _ ?_
        show own_S p e below T1448 (mkF m 219 (own_loc20 p0 p1 p2 p3 p4 p5 b1254 b1264 b1283 b1335 r1376 r1395 r1421) [.int 1, (.ref r1395)]) _
        refine st1450.trans ?_
        show own_S p e below T1450 (mkF m 224 (own_loc20 p0 p1 p2 p3 p4 p5 b1254 b1264 b1283 b1335 r1376 r1395 r1421) [(.ref r1450)]) _
        refine st1482 _ ?_
        show own_S p e below T1482 (mkF m 227 (own_loc20 p0 p1 p2 p3 p4 p5 b1254 b1264 b1283 b1335 r1376 r1395 r1421) [(.ref r1450)]) _
        refine XS.astore X1482.here hx rfl (hb hby at_227) rfl rfl (l' := (own_loc21 p0 p1 p2 p3 p4 p5 b1254 b1264 b1283 b1335 r1376 r1395 r1421 r1450)) rfl ?_
        show own_S p e below T1482 (mkF m 229 (own_loc21 p0 p1 p2 p3 p4 p5 b1254 b1264 b1283 b1335 r1376 r1395 r1421 r1450) []) _
        refine XS.goto X1482.here hx rfl (pc0 := 229) (pc' := 293) rfl (hb hby at_229) (by decide) (by decide) ?_
        show own_S p e below T1482 (mkF m 293 (own_loc21 p0 p1 p2 p3 p4 p5 b1254 b1264 b1283 b1335 r1376 r1395 r1421 r1450) []) _
        refine XS.aload X1482.here hx rfl (hb hby at_293) rfl rfl ?_
        show own_S p e below T1482 (mkF m 295 (own_loc21 p0 p1 p2 p3 p4 p5 b1254 b1264 b1283 b1335 r1376 r1395 r1421 r1450) [(.ref r1421)]) _
        refine XS.iloadN X1482.here hx rfl (hb hby at_295) rfl ?_
        show own_S p e below T1482 (mkF m 296 (own_loc21 p0 p1 p2 p3 p4 p5 b1254 b1264 b1283 b1335 r1376 r1395 r1421 r1450) [(.int p0), (.ref r1421)]) _
        refine XS.iloadN X1482.here hx rfl (hb hby at_296) rfl ?_
        show own_S p e below T1482 (mkF m 297 (own_loc21 p0 p1 p2 p3 p4 p5 b1254 b1264 b1283 b1335 r1376 r1395 r1421 r1450) [(.int p1), (.int p0), (.ref r1421)]) _
        refine XS.dload X1482.here hx rfl (hb hby at_297) rfl ?_
        show own_S p e below T1482 (mkF m 299 (own_loc21 p0 p1 p2 p3 p4 p5 b1254 b1264 b1283 b1335 r1376 r1395 r1421 r1450) [(.double (FP.i2d (p4.toInt8.toInt32))), (.int p1), (.int p0), (.ref r1421)]) _
        refine XS.dload X1482.here hx rfl (hb hby at_299) rfl ?_
        show own_S p e below T1482 (mkF m 301 (own_loc21 p0 p1 p2 p3 p4 p5 b1254 b1264 b1283 b1335 r1376 r1395 r1421 r1450) [(.double (FP.i2d ((p4 >>> ((8 : Int32) &&& 31)).toInt8.toInt32))), (.double (FP.i2d (p4.toInt8.toInt32))), (.int p1), (.int p0), (.ref r1421)]) _
        refine XS.iload X1482.here hx rfl (hb hby at_301) rfl ?_
        show own_S p e below T1482 (mkF m 303 (own_loc21 p0 p1 p2 p3 p4 p5 b1254 b1264 b1283 b1335 r1376 r1395 r1421 r1450) [.int 0, (.double (FP.i2d ((p4 >>> ((8 : Int32) &&& 31)).toInt8.toInt32))), (.double (FP.i2d (p4.toInt8.toInt32))), (.int p1), (.int p0), (.ref r1421)]) _
        refine st1483 _ ?_
        show own_S p e below T1483 (mkF m 306 (own_loc21 p0 p1 p2 p3 p4 p5 b1254 b1264 b1283 b1335 r1376 r1395 r1421 r1450) [.int 1]) _
        refine XS.ifNo X1483.here hx rfl (hb hby at_306) rfl ((if0 _ _).trans (feq (by decide : ¬ ((1 : Int32) = (0 : Int32)))).1) ?_
        show own_S p e below T1483 (mkF m 309 (own_loc21 p0 p1 p2 p3 p4 p5 b1254 b1264 b1283 b1335 r1376 r1395 r1421 r1450) []) _
        refine XS.aload X1483.here hx rfl (hb hby at_309) rfl rfl ?_
        show own_S p e below T1483 (mkF m 311 (own_loc21 p0 p1 p2 p3 p4 p5 b1254 b1264 b1283 b1335 r1376 r1395 r1421 r1450) [(.ref r1450)]) _
        refine XS.iloadN X1483.here hx rfl (hb hby at_311) rfl ?_
        show own_S p e below T1483 (mkF m 312 (own_loc21 p0 p1 p2 p3 p4 p5 b1254 b1264 b1283 b1335 r1376 r1395 r1421 r1450) [(.int p2), (.ref r1450)]) _
        refine XS.iloadN X1483.here hx rfl (hb hby at_312) rfl ?_
        show own_S p e below T1483 (mkF m 313 (own_loc21 p0 p1 p2 p3 p4 p5 b1254 b1264 b1283 b1335 r1376 r1395 r1421 r1450) [(.int p3), (.int p2), (.ref r1450)]) _
        refine XS.dload X1483.here hx rfl (hb hby at_313) rfl ?_
        show own_S p e below T1483 (mkF m 315 (own_loc21 p0 p1 p2 p3 p4 p5 b1254 b1264 b1283 b1335 r1376 r1395 r1421 r1450) [(.double (FP.i2d ((p4 >>> ((16 : Int32) &&& 31)).toInt8.toInt32))), (.int p3), (.int p2), (.ref r1450)]) _
        refine XS.dload X1483.here hx rfl (hb hby at_315) rfl ?_
        show own_S p e below T1483 (mkF m 317 (own_loc21 p0 p1 p2 p3 p4 p5 b1254 b1264 b1283 b1335 r1376 r1395 r1421 r1450) [(.double (FP.i2d ((p4 >>> ((24 : Int32) &&& 31)).toInt8.toInt32))), (.double (FP.i2d ((p4 >>> ((16 : Int32) &&& 31)).toInt8.toInt32))), (.int p3), (.int p2), (.ref r1450)]) _
        refine XS.iload X1483.here hx rfl (hb hby at_317) rfl ?_
        exact kt
      obtain ⟨_, _, ⟨T1485, L1485, k1485, n1485⟩, -, X1485, ⟨Lc1485, hQ1485, l1485, y1485, z1485⟩, st1485⟩ := Jvm.LawKit.callS X1483 hx (y := (⟨"com/example/rank60/rank60/ExplanationsAddPinLaw", "matches", "(Lcom/example/rank60/rank60/FusedHit$Contribution;IIDDZ)Z"⟩ : MethodName)) hown (mvT hZ (own_wk hw 153 rfl)) (mvT hZ (own_wk hw 154 rfl)) (mvT hZ (own_wk hw 155 rfl)) (mvT hZ (own_wk hw 156 rfl)) (by decide) (backOf (W := 0) (rm19_0 l Z ag hw [] r1450 p2 p3 (FP.i2d ((p4 >>> ((16 : Int32) &&& 31)).toInt8.toInt32)) (FP.i2d ((p4 >>> ((24 : Int32) &&& 31)).toInt8.toInt32))  T1450.heap n0 sz1481 o1450_0 o1450_1 o1450_2 o1450_3 o1450_4 (own_i2dn _) (own_i2dn _)) hZ (own_wk hw 156 rfl) (own_wk hw 155 rfl) (by decide) (by decide)) (g := (mkF m 319 (own_loc21 p0 p1 p2 p3 p4 p5 b1254 b1264 b1283 b1335 r1376 r1395 r1421 r1450) [.int 0, (.double (FP.i2d ((p4 >>> ((24 : Int32) &&& 31)).toInt8.toInt32))), (.double (FP.i2d ((p4 >>> ((16 : Int32) &&& 31)).toInt8.toInt32))), (.int p3), (.int p2), (.ref r1450)])) rfl (by rw [hml]; rfl) (argsL := [(.ref r1450), (.int p2), (.int p3), (.double (FP.i2d ((p4 >>> ((16 : Int32) &&& 31)).toInt8.toInt32))), (.double (FP.i2d ((p4 >>> ((24 : Int32) &&& 31)).toInt8.toInt32))), (.int (0 : Int32))]) (rest := []) (lenOf pd_10 rfl) rfl (by show 2 * 0 + _ ≤ _; exact Nat.le_of_eq rfl) (hb hby at_319) (fun _ _ => ⟨rfl, e1483, (by decide : 12 + 0 ≤ _), (by decide : 43 + 0 ≤ _)⟩)
      dsimp only [Pt.U, Pt.locs, Pt.cells, Pt.slots] at X1485 l1485 y1485 z1485 st1485 hQ1485
      subst l1485 y1485 z1485
      obtain ⟨rfl, N1485q, e1485⟩ := hQ1485
      have N1485 := Fr.app N1483 N1485q
      obtain ⟨fs, hr, hrun, hended, hW, hsame⟩ := X1485.leave (v := some (.int (1 : Int32))) (fun h => by rw [Bd.returns] at h; cases h)
      refine ⟨_, _, pre0 _ ?_, hrun, hended, _, _, rfl, ?_, ⟨_, rfl⟩, hW, hsame.mono (by decide) (by decide)⟩
      · show own_S p e below s₁ (mkF m 0 (own_loc7 p0 p1 p2 p3 p4 p5) []) _
        refine cp1484 _ ?_
        show own_S p e below T1483 (mkF m 319 (own_loc21 p0 p1 p2 p3 p4 p5 b1254 b1264 b1283 b1335 r1376 r1395 r1421 r1450) [.int 0, (.double (FP.i2d ((p4 >>> ((24 : Int32) &&& 31)).toInt8.toInt32))), (.double (FP.i2d ((p4 >>> ((16 : Int32) &&& 31)).toInt8.toInt32))), (.int p3), (.int p2), (.ref r1450)]) _
        refine st1485 _ ?_
        show own_S p e below T1485 (mkF m 322 (own_loc21 p0 p1 p2 p3 p4 p5 b1254 b1264 b1283 b1335 r1376 r1395 r1421 r1450) [.int 1]) _
        refine XS.ifNo X1485.here hx rfl (hb hby at_322) rfl ((if0 _ _).trans (feq (by decide : ¬ ((1 : Int32) = (0 : Int32)))).1) ?_
        show own_S p e below T1485 (mkF m 325 (own_loc21 p0 p1 p2 p3 p4 p5 b1254 b1264 b1283 b1335 r1376 r1395 r1421 r1450) []) _
        refine XS.iconst X1485.here hx rfl (hb hby at_325) ?_
        show own_S p e below T1485 (mkF m 326 (own_loc21 p0 p1 p2 p3 p4 p5 b1254 b1264 b1283 b1335 r1376 r1395 r1421 r1450) [.int 1]) _
        refine XS.goto X1485.here hx rfl (pc0 := 326) (pc' := 330) rfl (hb hby at_326) (by decide) (by decide) ?_
        show own_S p e below T1485 (mkF m 330 (own_loc21 p0 p1 p2 p3 p4 p5 b1254 b1264 b1283 b1335 r1376 r1395 r1421 r1450) [.int 1]) _
        exact retN X1485 hx (t := .boolean) Bd.returns (by simp) (hb hby at_330) hr
      · exact ⟨rfl, N1485⟩
    · obtain ⟨cq1486, kq1486, q1486a, q1486b, q1486c⟩ := isOf hZ e1283 x1290
      obtain ⟨_, _, ⟨T1486, L1486, k1486, n1486⟩, -, X1486, ⟨Lc1486, hQ1486, l1486, y1486, z1486⟩, st1486⟩ := X1283.virtualBack hx (y := (⟨"com/example/rank60/rank60/FusedList$Explanations", "add", "(IIDD)V"⟩ : MethodName)) (z := (⟨"com/example/rank60/rank60/FusedList$Explanations", "add", "(IIDD)V"⟩ : MethodName)) hown (mvT hZ (own_wk hw 23 rfl)) (mvT hZ (own_wk hw 24 rfl)) (notFace_of_selects (args := #[]) (mvT hZ (own_wk hw 26 rfl))) (mvT hZ (own_wk hw 26 rfl)) (mvT hZ (own_wk hw 25 rfl)) (by decide) (backOf (W := 0) (rm3_00 l Z ag hw [] b1254 p0 p1 (FP.i2d (p4.toInt8.toInt32)) (FP.i2d ((p4 >>> ((8 : Int32) &&& 31)).toInt8.toInt32)) u1_1257 u2_1257 u4_1257 (0 : Int32) u0_1257 ku1_1257 (0 : Int32) (0 : Int32) ku2_1257 (0 : Int32) (0 : Int32) ku4_1257 (FP.l2d 0) (FP.l2d 0) h1283 n0 sz1303 x1290 x1292 x1293 x1294 x1295 x1296 x1297 x1291 x1299 x1300 x1301 ge_b1254 ge_u1_1257 ge_u2_1257 ge_u4_1257 ne1259 ne1260 ne1261 ne1257_3 ne1257_4 ne1257_5) hZ (own_wk hw 27 rfl) (own_wk hw 2 rfl) (by decide) (by decide)) q1486a q1486c (g := (mkF m 97 (own_loc16 p0 p1 p2 p3 p4 p5 b1254 b1264 b1283) [(.double (FP.i2d ((p4 >>> ((8 : Int32) &&& 31)).toInt8.toInt32))), (.double (FP.i2d (p4.toInt8.toInt32))), (.int p1), (.int p0), (.ref b1254)])) rfl (by rw [hml]; rfl) (Steps.refl _) (argsL := [(.int p0), (.int p1), (.double (FP.i2d (p4.toInt8.toInt32))), (.double (FP.i2d ((p4 >>> ((8 : Int32) &&& 31)).toInt8.toInt32)))]) (rest := []) (lenOf pd_7 rfl) rfl (by show 2 * 0 + _ ≤ _; exact Nat.le_of_eq rfl) (hb hby at_97) (fun _ _ => ⟨rfl, e1283, (by decide : 7 + 0 ≤ _), (by decide : 20 + 0 ≤ _)⟩)
      dsimp only [Pt.U, Pt.locs, Pt.cells, Pt.slots] at X1486 l1486 y1486 z1486 st1486 hQ1486
      subst l1486 y1486 z1486
      obtain ⟨rfl, N1486q, K1486, o1486_0, o1486_1, o1486_2, o1486_3, o1486_4, o1486_5, o1486_6, o1486_7, o1486_8, o1486_9⟩ := hQ1486
      have N1486 := Fr.app N1257 N1486q
      have x1487 := x1290.keep K1486
      have x1488 := x1298.keep K1486 (ninS (Ne.symm ne1258) (ninS ne1257_0 (ninS ne1257_1 (ninS ne1257_2 nin0))))
      have x1489 := x1302.keep K1486 (ninS (Ne.symm ne1265) (ninS (Ne.symm ne1267) (ninS (Ne.symm ne1268) (ninS (Ne.symm ne1269) nin0))))
      have x1490 := V1283.keep K1486 (ninS (Ne.symm ne1284) (ninS (Ne.symm ne1286) (ninS (Ne.symm ne1287) (ninS (Ne.symm ne1288) nin0))))
      have sz1491 : n0 ≤ T1486.heap.size := Nat.le_trans sz1303 K1486.1
      have cp1493 : ∀ target, own_S p e below T1486 (mkF m 103 (own_loc16 p0 p1 p2 p3 p4 p5 b1254 b1264 b1283) [.int 1, (.int ((own_ushr p5 (1 : Int32)) % (3 : Int32)))]) target → own_S p e below s₁ (mkF m 0 (own_loc7 p0 p1 p2 p3 p4 p5) []) target := by
        intro target kt
        show own_S p e below s₁ (mkF m 0 (own_loc7 p0 p1 p2 p3 p4 p5) []) _
        refine cp1305 _ ?_
        show own_S p e below T1283 (mkF m 81 (own_loc16 p0 p1 p2 p3 p4 p5 b1254 b1264 b1283) [(.int ((own_ushr p5 (1 : Int32)) % (3 : Int32)))]) _
        refine XS.ifYes X1283.here hx rfl (pc0 := 81) (pc' := 89) rfl (hb hby at_81) rfl ((if0 _ _).trans (feq hc1304).2) (by decide) (by decide) ?_
        show own_S p e below T1283 (mkF m 89 (own_loc16 p0 p1 p2 p3 p4 p5 b1254 b1264 b1283) []) _
        refine XS.aload X1283.here hx rfl (hb hby at_89) rfl rfl ?_
        show own_S p e below T1283 (mkF m 91 (own_loc16 p0 p1 p2 p3 p4 p5 b1254 b1264 b1283) [(.ref b1254)]) _
        refine XS.iloadN X1283.here hx rfl (hb hby at_91) rfl ?_
        show own_S p e below T1283 (mkF m 92 (own_loc16 p0 p1 p2 p3 p4 p5 b1254 b1264 b1283) [(.int p0), (.ref b1254)]) _
        refine XS.iloadN X1283.here hx rfl (hb hby at_92) rfl ?_
        show own_S p e below T1283 (mkF m 93 (own_loc16 p0 p1 p2 p3 p4 p5 b1254 b1264 b1283) [(.int p1), (.int p0), (.ref b1254)]) _
        refine XS.dload X1283.here hx rfl (hb hby at_93) rfl ?_
        show own_S p e below T1283 (mkF m 95 (own_loc16 p0 p1 p2 p3 p4 p5 b1254 b1264 b1283) [(.double (FP.i2d (p4.toInt8.toInt32))), (.int p1), (.int p0), (.ref b1254)]) _
        refine XS.dload X1283.here hx rfl (hb hby at_95) rfl ?_
        show own_S p e below T1283 (mkF m 97 (own_loc16 p0 p1 p2 p3 p4 p5 b1254 b1264 b1283) [(.double (FP.i2d ((p4 >>> ((8 : Int32) &&& 31)).toInt8.toInt32))), (.double (FP.i2d (p4.toInt8.toInt32))), (.int p1), (.int p0), (.ref b1254)]) _
        refine st1486.trans ?_
        show own_S p e below T1486 (mkF m 100 (own_loc16 p0 p1 p2 p3 p4 p5 b1254 b1264 b1283) []) _
        refine XS.iload X1486.here hx rfl (hb hby at_100) rfl ?_
        show own_S p e below T1486 (mkF m 102 (own_loc16 p0 p1 p2 p3 p4 p5 b1254 b1264 b1283) [(.int ((own_ushr p5 (1 : Int32)) % (3 : Int32)))]) _
        refine XS.iconst X1486.here hx rfl (hb hby at_102) ?_
        exact kt
      by_cases hc1492 : ((own_ushr p5 (1 : Int32)) % (3 : Int32)) = (1 : Int32)
      · obtain ⟨cq1494, kq1494, q1494a, q1494b, q1494c⟩ := isOf hZ rfl x1487
        obtain ⟨_, _, ⟨T1494, L1494, k1494, n1494⟩, -, X1494, ⟨Lc1494, hQ1494, l1494, y1494, z1494⟩, st1494⟩ := X1486.virtualBack hx (y := (⟨"com/example/rank60/rank60/FusedList$Explanations", "endDocument", "()V"⟩ : MethodName)) (z := (⟨"com/example/rank60/rank60/FusedList$Explanations", "endDocument", "()V"⟩ : MethodName)) hown (mvT hZ (own_wk hw 30 rfl)) (mvT hZ (own_wk hw 31 rfl)) (notFace_of_selects (args := #[]) (mvT hZ (own_wk hw 33 rfl))) (mvT hZ (own_wk hw 33 rfl)) (mvT hZ (own_wk hw 32 rfl)) (by decide) (backOf (W := 0) (rm4_0 l Z ag hw [] b1254 u0_1257 (1 : Int32) u1_1257 u2_1257 u4_1257 .null ku0_1257 (0 : Int32) (0 : Int32) (0 : Int32) T1486.heap n0 sz1491 x1487 o1486_5 o1486_4 o1486_6 o1486_0 o1486_1 o1486_2 o1486_3 x1488 ge_b1254 ge_u0_1257 ne1258) hZ (own_wk hw 34 rfl) (own_wk hw 2 rfl) (by decide) (by decide)) q1494a q1494c (g := (mkF m 108 (own_loc16 p0 p1 p2 p3 p4 p5 b1254 b1264 b1283) [(.ref b1254)])) rfl (by rw [hml]; rfl) (Steps.refl _) (argsL := []) (rest := []) (lenOf pd_2 rfl) rfl (by show 2 * 0 + _ ≤ _; exact Nat.le_of_eq rfl) (hb hby at_108) (fun _ _ => ⟨rfl, rfl, (by decide : 7 + 0 ≤ _), (by decide : 20 + 0 ≤ _)⟩)
        dsimp only [Pt.U, Pt.locs, Pt.cells, Pt.slots] at X1494 l1494 y1494 z1494 st1494 hQ1494
        subst l1494 y1494 z1494
        obtain ⟨rfl, N1494q, K1494, o1494_0, o1494_1, o1494_2, o1494_3, o1494_4, o1494_5, o1494_6, o1494_7⟩ := hQ1494
        have N1494 := Fr.app N1486 N1494q
        have x1495 := x1487.keep K1494
        have x1496 := x1489.keep K1494 (ninS (Ne.symm ne1265) (ninS (Ne.symm ne1266) nin0))
        have x1497 := x1490.keep K1494 (ninS (Ne.symm ne1284) (ninS (Ne.symm ne1285) nin0))
        have x1498 := o1486_7.keep K1494 (ninS (Ne.symm ne1259) (ninS (Ne.symm ne1257_0) nin0))
        have x1499 := o1486_8.keep K1494 (ninS (Ne.symm ne1260) (ninS (Ne.symm ne1257_1) nin0))
        have x1500 := o1486_9.keep K1494 (ninS (Ne.symm ne1261) (ninS (Ne.symm ne1257_2) nin0))
        have sz1501 : n0 ≤ T1494.heap.size := Nat.le_trans sz1491 K1494.1
        obtain ⟨cq1502, kq1502, q1502a, q1502b, q1502c⟩ := isOf hZ rfl x1495
        obtain ⟨_, _, ⟨T1502, L1502, k1502, n1502⟩, -, X1502, ⟨Lc1502, hQ1502, l1502, y1502, z1502⟩, st1502⟩ := X1494.virtualBack hx (y := (⟨"com/example/rank60/rank60/FusedList$Explanations", "add", "(IIDD)V"⟩ : MethodName)) (z := (⟨"com/example/rank60/rank60/FusedList$Explanations", "add", "(IIDD)V"⟩ : MethodName)) hown (mvT hZ (own_wk hw 23 rfl)) (mvT hZ (own_wk hw 24 rfl)) (notFace_of_selects (args := #[]) (mvT hZ (own_wk hw 26 rfl))) (mvT hZ (own_wk hw 26 rfl)) (mvT hZ (own_wk hw 25 rfl)) (by decide) (backOf (W := 0) (rm3_10 l Z ag hw [] b1254 p2 p3 (FP.i2d ((p4 >>> ((16 : Int32) &&& 31)).toInt8.toInt32)) (FP.i2d ((p4 >>> ((24 : Int32) &&& 31)).toInt8.toInt32)) u1_1257 u2_1257 u4_1257 (1 : Int32) u0_1257 ku1_1257 p0 (0 : Int32) ku2_1257 p1 (0 : Int32) ku4_1257 (FP.i2d ((p4 >>> ((8 : Int32) &&& 31)).toInt8.toInt32)) (FP.l2d 0) T1494.heap n0 sz1501 x1495 o1494_3 o1494_4 o1494_5 o1494_6 o1494_2 o1494_1 o1494_0 x1498 x1499 x1500 ge_b1254 ge_u1_1257 ge_u2_1257 ge_u4_1257 ne1259 ne1260 ne1261 ne1257_3 ne1257_4 ne1257_5) hZ (own_wk hw 27 rfl) (own_wk hw 2 rfl) (by decide) (by decide)) q1502a q1502c (g := (mkF m 119 (own_loc16 p0 p1 p2 p3 p4 p5 b1254 b1264 b1283) [(.double (FP.i2d ((p4 >>> ((24 : Int32) &&& 31)).toInt8.toInt32))), (.double (FP.i2d ((p4 >>> ((16 : Int32) &&& 31)).toInt8.toInt32))), (.int p3), (.int p2), (.ref b1254)])) rfl (by rw [hml]; rfl) (Steps.refl _) (argsL := [(.int p2), (.int p3), (.double (FP.i2d ((p4 >>> ((16 : Int32) &&& 31)).toInt8.toInt32))), (.double (FP.i2d ((p4 >>> ((24 : Int32) &&& 31)).toInt8.toInt32)))]) (rest := []) (lenOf pd_7 rfl) rfl (by show 2 * 0 + _ ≤ _; exact Nat.le_of_eq rfl) (hb hby at_119) (fun _ _ => ⟨rfl, rfl, (by decide : 7 + 0 ≤ _), (by decide : 20 + 0 ≤ _)⟩)
        dsimp only [Pt.U, Pt.locs, Pt.cells, Pt.slots] at X1502 l1502 y1502 z1502 st1502 hQ1502
        subst l1502 y1502 z1502
        obtain ⟨rfl, N1502q, K1502, o1502_0, o1502_1, o1502_2, o1502_3, o1502_4, o1502_5, o1502_6, o1502_7, o1502_8, o1502_9⟩ := hQ1502
        have N1502 := Fr.app N1494 N1502q
        have x1503 := x1495.keep K1502
        have x1504 := x1496.keep K1502 (ninS (Ne.symm ne1265) (ninS (Ne.symm ne1267) (ninS (Ne.symm ne1268) (ninS (Ne.symm ne1269) nin0))))
        have x1505 := x1497.keep K1502 (ninS (Ne.symm ne1284) (ninS (Ne.symm ne1286) (ninS (Ne.symm ne1287) (ninS (Ne.symm ne1288) nin0))))
        have x1506 := o1494_7.keep K1502 (ninS (Ne.symm ne1258) (ninS ne1257_0 (ninS ne1257_1 (ninS ne1257_2 nin0))))
        have sz1507 : n0 ≤ T1502.heap.size := Nat.le_trans sz1501 K1502.1
        have cp1508 : ∀ target, own_S p e below T1502 (mkF m 135 (own_loc16 p0 p1 p2 p3 p4 p5 b1254 b1264 b1283) [(.ref b1254)]) target → own_S p e below s₁ (mkF m 0 (own_loc7 p0 p1 p2 p3 p4 p5) []) target := by
          intro target kt
          show own_S p e below s₁ (mkF m 0 (own_loc7 p0 p1 p2 p3 p4 p5) []) _
          refine cp1493 _ ?_
          show own_S p e below T1486 (mkF m 103 (own_loc16 p0 p1 p2 p3 p4 p5 b1254 b1264 b1283) [.int 1, (.int ((own_ushr p5 (1 : Int32)) % (3 : Int32)))]) _
          refine XS.icmpNo X1486.here hx rfl (hb hby at_103) rfl (teq hc1492).2 ?_
          show own_S p e below T1486 (mkF m 106 (own_loc16 p0 p1 p2 p3 p4 p5 b1254 b1264 b1283) []) _
          refine XS.aload X1486.here hx rfl (hb hby at_106) rfl rfl ?_
          show own_S p e below T1486 (mkF m 108 (own_loc16 p0 p1 p2 p3 p4 p5 b1254 b1264 b1283) [(.ref b1254)]) _
          refine st1494.trans ?_
          show own_S p e below T1494 (mkF m 111 (own_loc16 p0 p1 p2 p3 p4 p5 b1254 b1264 b1283) []) _
          refine XS.aload X1494.here hx rfl (hb hby at_111) rfl rfl ?_
          show own_S p e below T1494 (mkF m 113 (own_loc16 p0 p1 p2 p3 p4 p5 b1254 b1264 b1283) [(.ref b1254)]) _
          refine XS.iloadN X1494.here hx rfl (hb hby at_113) rfl ?_
          show own_S p e below T1494 (mkF m 114 (own_loc16 p0 p1 p2 p3 p4 p5 b1254 b1264 b1283) [(.int p2), (.ref b1254)]) _
          refine XS.iloadN X1494.here hx rfl (hb hby at_114) rfl ?_
          show own_S p e below T1494 (mkF m 115 (own_loc16 p0 p1 p2 p3 p4 p5 b1254 b1264 b1283) [(.int p3), (.int p2), (.ref b1254)]) _
          refine XS.dload X1494.here hx rfl (hb hby at_115) rfl ?_
          show own_S p e below T1494 (mkF m 117 (own_loc16 p0 p1 p2 p3 p4 p5 b1254 b1264 b1283) [(.double (FP.i2d ((p4 >>> ((16 : Int32) &&& 31)).toInt8.toInt32))), (.int p3), (.int p2), (.ref b1254)]) _
          refine XS.dload X1494.here hx rfl (hb hby at_117) rfl ?_
          show own_S p e below T1494 (mkF m 119 (own_loc16 p0 p1 p2 p3 p4 p5 b1254 b1264 b1283) [(.double (FP.i2d ((p4 >>> ((24 : Int32) &&& 31)).toInt8.toInt32))), (.double (FP.i2d ((p4 >>> ((16 : Int32) &&& 31)).toInt8.toInt32))), (.int p3), (.int p2), (.ref b1254)]) _
          refine st1502.trans ?_
          show own_S p e below T1502 (mkF m 122 (own_loc16 p0 p1 p2 p3 p4 p5 b1254 b1264 b1283) []) _
          refine XS.iload X1502.here hx rfl (hb hby at_122) rfl ?_
          show own_S p e below T1502 (mkF m 124 (own_loc16 p0 p1 p2 p3 p4 p5 b1254 b1264 b1283) [(.int ((own_ushr p5 (1 : Int32)) % (3 : Int32)))]) _
          refine XS.iconst X1502.here hx rfl (hb hby at_124) ?_
          show own_S p e below T1502 (mkF m 125 (own_loc16 p0 p1 p2 p3 p4 p5 b1254 b1264 b1283) [.int 2, (.int ((own_ushr p5 (1 : Int32)) % (3 : Int32)))]) _
          refine XS.icmpYes X1502.here hx rfl (pc0 := 125) (pc' := 133) rfl (hb hby at_125) rfl (feq (show ¬ (((own_ushr p5 (1 : Int32)) % (3 : Int32)) = (2 : Int32)) from (fun q => absurd (hc1492.symm.trans q) (by decide)))).2 (by decide) (by decide) ?_
          show own_S p e below T1502 (mkF m 133 (own_loc16 p0 p1 p2 p3 p4 p5 b1254 b1264 b1283) []) _
          refine XS.aload X1502.here hx rfl (hb hby at_133) rfl rfl ?_
          exact kt
        obtain ⟨cq1509, kq1509, q1509a, q1509b, q1509c⟩ := isOf hZ rfl x1503
        obtain ⟨_, _, ⟨T1509, L1509, k1509, n1509⟩, -, X1509, ⟨Lc1509, hQ1509, l1509, y1509, z1509⟩, st1509⟩ := X1502.virtualBack hx (y := (⟨"com/example/rank60/rank60/FusedList$Explanations", "endDocument", "()V"⟩ : MethodName)) (z := (⟨"com/example/rank60/rank60/FusedList$Explanations", "endDocument", "()V"⟩ : MethodName)) hown (mvT hZ (own_wk hw 30 rfl)) (mvT hZ (own_wk hw 31 rfl)) (notFace_of_selects (args := #[]) (mvT hZ (own_wk hw 33 rfl))) (mvT hZ (own_wk hw 33 rfl)) (mvT hZ (own_wk hw 32 rfl)) (by decide) (backOf (W := 0) (rm4_1 l Z ag hw [] b1254 u0_1257 (2 : Int32) u1_1257 u2_1257 u4_1257 .null ku0_1257 (0 : Int32) (1 : Int32) (0 : Int32) T1502.heap n0 sz1507 x1503 o1502_5 o1502_4 o1502_6 o1502_0 o1502_1 o1502_2 o1502_3 x1506 ge_b1254 ge_u0_1257 ne1258) hZ (own_wk hw 34 rfl) (own_wk hw 2 rfl) (by decide) (by decide)) q1509a q1509c (g := (mkF m 135 (own_loc16 p0 p1 p2 p3 p4 p5 b1254 b1264 b1283) [(.ref b1254)])) rfl (by rw [hml]; rfl) (Steps.refl _) (argsL := []) (rest := []) (lenOf pd_2 rfl) rfl (by show 2 * 0 + _ ≤ _; exact Nat.le_of_eq rfl) (hb hby at_135) (fun _ _ => ⟨rfl, rfl, (by decide : 7 + 0 ≤ _), (by decide : 20 + 0 ≤ _)⟩)
        dsimp only [Pt.U, Pt.locs, Pt.cells, Pt.slots] at X1509 l1509 y1509 z1509 st1509 hQ1509
        subst l1509 y1509 z1509
        obtain ⟨rfl, N1509q, K1509, o1509_0, o1509_1, o1509_2, o1509_3, o1509_4, o1509_5, o1509_6, o1509_7⟩ := hQ1509
        have N1509 := Fr.app N1502 N1509q
        have x1510 := x1503.keep K1509
        have x1511 := x1504.keep K1509 (ninS (Ne.symm ne1265) (ninS (Ne.symm ne1266) nin0))
        have x1512 := x1505.keep K1509 (ninS (Ne.symm ne1284) (ninS (Ne.symm ne1285) nin0))
        have x1513 := o1502_7.keep K1509 (ninS (Ne.symm ne1259) (ninS (Ne.symm ne1257_0) nin0))
        have x1514 := o1502_8.keep K1509 (ninS (Ne.symm ne1260) (ninS (Ne.symm ne1257_1) nin0))
        have x1515 := o1502_9.keep K1509 (ninS (Ne.symm ne1261) (ninS (Ne.symm ne1257_2) nin0))
        have sz1516 : n0 ≤ T1509.heap.size := Nat.le_trans sz1507 K1509.1
        obtain ⟨T1517, h1517, X1517, e1517, E1517, A1517, D1517, -, st1517⟩ := newO X1509 hx hZ hown (own_wk hw 37 rfl) (own_wk hw 38 rfl) (own_wk hw 39 rfl) rfl (g := (mkF m 138 (own_loc16 p0 p1 p2 p3 p4 p5 b1254 b1264 b1283) [])) rfl (hb hby at_138) (by decide) (by decide)
        obtain ⟨b1517, g1517⟩ : ∃ z, z = T1509.heap.size := ⟨_, rfl⟩
        have ne1518 : b1254 ≠ b1517 := Nat.ne_of_lt (Nat.lt_of_lt_of_le x1510.lt (Nat.le_of_eq g1517.symm))
        have ne1519 : u0_1257 ≠ b1517 := Nat.ne_of_lt (Nat.lt_of_lt_of_le o1509_7.lt (Nat.le_of_eq g1517.symm))
        have ne1520 : u1_1257 ≠ b1517 := Nat.ne_of_lt (Nat.lt_of_lt_of_le x1513.lt (Nat.le_of_eq g1517.symm))
        have ne1521 : u2_1257 ≠ b1517 := Nat.ne_of_lt (Nat.lt_of_lt_of_le x1514.lt (Nat.le_of_eq g1517.symm))
        have ne1522 : u4_1257 ≠ b1517 := Nat.ne_of_lt (Nat.lt_of_lt_of_le x1515.lt (Nat.le_of_eq g1517.symm))
        have ne1523 : b1264 ≠ b1517 := Nat.ne_of_lt (Nat.lt_of_lt_of_le x1511.lt (Nat.le_of_eq g1517.symm))
        have ne1524 : b1283 ≠ b1517 := Nat.ne_of_lt (Nat.lt_of_lt_of_le x1512.lt (Nat.le_of_eq g1517.symm))
        have ge_b1517 : n0 ≤ b1517 := Nat.le_trans sz1516 (Nat.le_of_eq g1517.symm)
        rw [← g1517] at A1517 D1517 st1517
        have x1525 := x1510.ext E1517
        have x1526 := x1511.ext E1517
        have x1527 := x1512.ext E1517
        have x1528 := x1513.ext E1517
        have x1529 := x1514.ext E1517
        have x1530 := x1515.ext E1517
        have x1531 := o1509_0.ext E1517
        have x1532 := o1509_1.ext E1517
        have x1533 := o1509_2.ext E1517
        have x1534 := o1509_3.ext E1517
        have x1535 := o1509_4.ext E1517
        have x1536 := o1509_5.ext E1517
        have x1537 := o1509_6.ext E1517
        have x1538 := o1509_7.ext E1517
        have sz1539 : n0 ≤ h1517.size := Nat.le_trans sz1516 E1517.1
        have F1517_modCount : Fld Z h1517 b1517 "java/util/AbstractList" "modCount" "I" (.int (0 : Int32)) := D1517 (Or.inl (own_wk hw 59 rfl)) (ty := .int) (by decide)
        have F1517_ids : Fld Z h1517 b1517 "com/example/rank60/rank60/FusedList" "ids" "[Ljava/lang/String;" .null := D1517 (Or.inr (own_wk hw 61 rfl)) (ty := (.array (.object "java/lang/String"))) (by decide)
        have F1517_documents : Fld Z h1517 b1517 "com/example/rank60/rank60/FusedList" "documents" "[I" .null := D1517 (Or.inr (own_wk hw 63 rfl)) (ty := (.array .int)) (by decide)
        have F1517_numbering : Fld Z h1517 b1517 "com/example/rank60/rank60/FusedList" "numbering" "Lcom/example/rank60/rank60/DocumentNumbering;" .null := D1517 (Or.inr (own_wk hw 65 rfl)) (ty := (.object "com/example/rank60/rank60/DocumentNumbering")) (by decide)
        have F1517_scores : Fld Z h1517 b1517 "com/example/rank60/rank60/FusedList" "scores" "[D" .null := D1517 (Or.inr (own_wk hw 67 rfl)) (ty := (.array .double)) (by decide)
        have F1517_firstRank : Fld Z h1517 b1517 "com/example/rank60/rank60/FusedList" "firstRank" "I" (.int (0 : Int32)) := D1517 (Or.inr (own_wk hw 69 rfl)) (ty := .int) (by decide)
        have F1517_explanations : Fld Z h1517 b1517 "com/example/rank60/rank60/FusedList" "explanations" "Lcom/example/rank60/rank60/FusedList$Explanations;" .null := D1517 (Or.inr (own_wk hw 71 rfl)) (ty := (.object "com/example/rank60/rank60/FusedList$Explanations")) (by decide)
        obtain ⟨_, _, ⟨T1540, L1540, k1540, n1540⟩, -, X1540, ⟨Lc1540, hQ1540, l1540, y1540, z1540⟩, st1540⟩ := X1517.specialBack hx (y := (⟨"com/example/rank60/rank60/FusedList", "<init>", "([Ljava/lang/String;[DILcom/example/rank60/rank60/FusedList$Explanations;)V"⟩ : MethodName)) rfl hown (mvT hZ (own_wk hw 40 rfl)) (mvT hZ (own_wk hw 41 rfl)) (mvT hZ (own_wk hw 42 rfl)) (by decide) (backOf (W := 1) (rm5 l Z ag hw [] b1517 b1264 b1283 (1 : Int32) b1254  h1517 n0 sz1539 A1517 F1517_modCount F1517_ids F1517_documents F1517_numbering F1517_scores F1517_explanations F1517_firstRank ge_b1517) hZ (own_wk hw 42 rfl) (own_wk hw 39 rfl) (by decide) (by decide)) (g := (mkF m 149 (own_loc16 p0 p1 p2 p3 p4 p5 b1254 b1264 b1283) [(.ref b1254), .int 1, (.ref b1283), (.ref b1264), (.ref b1517), (.ref b1517)])) rfl (by rw [hml]; rfl) (Steps.refl _) (a := b1517) (argsL := [(.ref b1264), (.ref b1283), (.int (1 : Int32)), (.ref b1254)]) (rest := [(.ref b1517)]) (lenOf pd_12 rfl) rfl (by show 2 * 0 + _ ≤ _; exact Nat.le_of_eq rfl) (hb hby at_149) (fun _ _ => ⟨rfl, e1517, (by decide : 8 + 0 ≤ _), (by decide : 27 + 0 ≤ _)⟩)
        dsimp only [Pt.U, Pt.locs, Pt.cells, Pt.slots] at X1540 l1540 y1540 z1540 st1540 hQ1540
        subst l1540 y1540 z1540
        obtain ⟨rfl, N1540q, K1540, o1540_0, o1540_1⟩ := hQ1540
        have N1540 := Fr.app N1509 N1540q
        have x1541 := x1525.keep K1540
        have x1542 := x1526.keep K1540 (ninS ne1523 nin0)
        have x1543 := x1527.keep K1540 (ninS ne1524 nin0)
        have x1544 := x1528.keep K1540 (ninS ne1520 nin0)
        have x1545 := x1529.keep K1540 (ninS ne1521 nin0)
        have x1546 := x1530.keep K1540 (ninS ne1522 nin0)
        have x1547 := x1531.keep K1540 (ninS ne1518 nin0)
        have x1548 := x1532.keep K1540 (ninS ne1518 nin0)
        have x1549 := x1533.keep K1540 (ninS ne1518 nin0)
        have x1550 := x1534.keep K1540 (ninS ne1518 nin0)
        have x1551 := x1535.keep K1540 (ninS ne1518 nin0)
        have x1552 := x1536.keep K1540 (ninS ne1518 nin0)
        have x1553 := x1537.keep K1540 (ninS ne1518 nin0)
        have x1554 := x1538.keep K1540 (ninS ne1519 nin0)
        have x1555 := A1517.keep K1540
        have sz1556 : n0 ≤ T1540.heap.size := Nat.le_trans sz1539 K1540.1
        obtain ⟨cq1557, kq1557, q1557a, q1557b, q1557c⟩ := isOf hZ rfl x1555
        obtain ⟨_, _, ⟨T1557, L1557, k1557, n1557⟩, -, X1557, ⟨Lc1557, hQ1557, l1557, y1557, z1557⟩, st1557⟩ := X1540.virtualBack hx (y := (⟨"com/example/rank60/rank60/FusedList", "contributions", "(I)Ljava/util/List;"⟩ : MethodName)) (z := (⟨"com/example/rank60/rank60/FusedList", "contributions", "(I)Ljava/util/List;"⟩ : MethodName)) hown (mvT hZ (own_wk hw 72 rfl)) (mvT hZ (own_wk hw 73 rfl)) (notFace_of_selects (args := #[]) (mvT hZ (own_wk hw 75 rfl))) (mvT hZ (own_wk hw 75 rfl)) (mvT hZ (own_wk hw 74 rfl)) (by decide) (backOf (W := 0) (rm9_0 l Z ag hw [] b1517 b1283 k1283 (FP.l2d 0) (FP.l2d 0) b1254 u0_1257 ku0_1257 (0 : Int32) (1 : Int32) (2 : Int32) T1540.heap n0 sz1556 x1555 o1540_0 x1543 o1540_1 x1541 x1547 x1554) hZ (own_wk hw 76 rfl) (own_wk hw 39 rfl) (by decide) (by decide)) q1557a q1557c (g := (mkF m 157 (own_loc22 p0 p1 p2 p3 p4 p5 b1254 b1264 b1283 b1517) [.int 0, (.ref b1517)])) rfl (by rw [hml]; rfl) (Steps.refl _) (argsL := [(.int (0 : Int32))]) (rest := []) (lenOf pd_5 rfl) rfl (by show 2 * 0 + _ ≤ _; exact Nat.le_of_eq rfl) (hb hby at_157) (fun _ _ => ⟨rfl, rfl, (by decide : 8 + 1 ≤ _), (by decide : 27 + 4 ≤ _)⟩)
        dsimp only [Pt.U, Pt.locs, Pt.cells, Pt.slots] at X1557 l1557 y1557 z1557 st1557 hQ1557
        subst l1557 y1557 z1557
        obtain ⟨r1557, rfl, N1557q, K1557, ge_r1557, gq_r1557, o1557_0, o1557_1, o1557_2, o1557_3⟩ := hQ1557
        have N1557 := Fr.app N1540 N1557q
        have x1558 := x1541.keep K1557
        have x1559 := x1542.keep K1557 nin0
        have x1560 := x1543.keep K1557 nin0
        have x1561 := x1544.keep K1557 nin0
        have x1562 := x1545.keep K1557 nin0
        have x1563 := x1546.keep K1557 nin0
        have x1564 := x1547.keep K1557 nin0
        have x1565 := x1548.keep K1557 nin0
        have x1566 := x1549.keep K1557 nin0
        have x1567 := x1550.keep K1557 nin0
        have x1568 := x1551.keep K1557 nin0
        have x1569 := x1552.keep K1557 nin0
        have x1570 := x1553.keep K1557 nin0
        have x1571 := x1554.keep K1557 nin0
        have x1572 := x1555.keep K1557
        have x1573 := o1540_0.keep K1557 nin0
        have x1574 := o1540_1.keep K1557 nin0
        have sz1575 : n0 ≤ T1557.heap.size := Nat.le_trans sz1556 K1557.1
        have cp1576 : ∀ target, own_S p e below T1557 (mkF m 165 (own_loc23 p0 p1 p2 p3 p4 p5 b1254 b1264 b1283 b1517 r1557) [.int 1, (.ref b1517)]) target → own_S p e below s₁ (mkF m 0 (own_loc7 p0 p1 p2 p3 p4 p5) []) target := by
          intro target kt
          show own_S p e below s₁ (mkF m 0 (own_loc7 p0 p1 p2 p3 p4 p5) []) _
          refine cp1508 _ ?_
          show own_S p e below T1502 (mkF m 135 (own_loc16 p0 p1 p2 p3 p4 p5 b1254 b1264 b1283) [(.ref b1254)]) _
          refine st1509.trans ?_
          show own_S p e below T1509 (mkF m 138 (own_loc16 p0 p1 p2 p3 p4 p5 b1254 b1264 b1283) []) _
          refine st1517 _ ?_
          show own_S p e below T1517 (mkF m 141 (own_loc16 p0 p1 p2 p3 p4 p5 b1254 b1264 b1283) [(.ref b1517)]) _
          refine XS.dup X1517.here hx rfl (hb hby at_141) rfl rfl ?_
          show own_S p e below T1517 (mkF m 142 (own_loc16 p0 p1 p2 p3 p4 p5 b1254 b1264 b1283) [(.ref b1517), (.ref b1517)]) _
          refine XS.aload X1517.here hx rfl (hb hby at_142) rfl rfl ?_
          show own_S p e below T1517 (mkF m 144 (own_loc16 p0 p1 p2 p3 p4 p5 b1254 b1264 b1283) [(.ref b1264), (.ref b1517), (.ref b1517)]) _
          refine XS.aload X1517.here hx rfl (hb hby at_144) rfl rfl ?_
          show own_S p e below T1517 (mkF m 146 (own_loc16 p0 p1 p2 p3 p4 p5 b1254 b1264 b1283) [(.ref b1283), (.ref b1264), (.ref b1517), (.ref b1517)]) _
          refine XS.iconst X1517.here hx rfl (hb hby at_146) ?_
          show own_S p e below T1517 (mkF m 147 (own_loc16 p0 p1 p2 p3 p4 p5 b1254 b1264 b1283) [.int 1, (.ref b1283), (.ref b1264), (.ref b1517), (.ref b1517)]) _
          refine XS.aload X1517.here hx rfl (hb hby at_147) rfl rfl ?_
          show own_S p e below T1517 (mkF m 149 (own_loc16 p0 p1 p2 p3 p4 p5 b1254 b1264 b1283) [(.ref b1254), .int 1, (.ref b1283), (.ref b1264), (.ref b1517), (.ref b1517)]) _
          refine st1540.trans ?_
          show own_S p e below T1540 (mkF m 152 (own_loc16 p0 p1 p2 p3 p4 p5 b1254 b1264 b1283) [(.ref b1517)]) _
          refine XS.astore X1540.here hx rfl (hb hby at_152) rfl rfl (l' := (own_loc22 p0 p1 p2 p3 p4 p5 b1254 b1264 b1283 b1517)) rfl ?_
          show own_S p e below T1540 (mkF m 154 (own_loc22 p0 p1 p2 p3 p4 p5 b1254 b1264 b1283 b1517) []) _
          refine XS.aload X1540.here hx rfl (hb hby at_154) rfl rfl ?_
          show own_S p e below T1540 (mkF m 156 (own_loc22 p0 p1 p2 p3 p4 p5 b1254 b1264 b1283 b1517) [(.ref b1517)]) _
          refine XS.iconst X1540.here hx rfl (hb hby at_156) ?_
          show own_S p e below T1540 (mkF m 157 (own_loc22 p0 p1 p2 p3 p4 p5 b1254 b1264 b1283 b1517) [.int 0, (.ref b1517)]) _
          refine st1557.trans ?_
          show own_S p e below T1557 (mkF m 160 (own_loc22 p0 p1 p2 p3 p4 p5 b1254 b1264 b1283 b1517) [(.ref r1557)]) _
          refine XS.astore X1557.here hx rfl (hb hby at_160) rfl rfl (l' := (own_loc23 p0 p1 p2 p3 p4 p5 b1254 b1264 b1283 b1517 r1557)) rfl ?_
          show own_S p e below T1557 (mkF m 162 (own_loc23 p0 p1 p2 p3 p4 p5 b1254 b1264 b1283 b1517 r1557) []) _
          refine XS.aload X1557.here hx rfl (hb hby at_162) rfl rfl ?_
          show own_S p e below T1557 (mkF m 164 (own_loc23 p0 p1 p2 p3 p4 p5 b1254 b1264 b1283 b1517 r1557) [(.ref b1517)]) _
          refine XS.iconst X1557.here hx rfl (hb hby at_164) ?_
          exact kt
        obtain ⟨cq1577, kq1577, q1577a, q1577b, q1577c⟩ := isOf hZ rfl x1572
        obtain ⟨_, _, ⟨T1577, L1577, k1577, n1577⟩, -, X1577, ⟨Lc1577, hQ1577, l1577, y1577, z1577⟩, st1577⟩ := X1557.virtualBack hx (y := (⟨"com/example/rank60/rank60/FusedList", "contributions", "(I)Ljava/util/List;"⟩ : MethodName)) (z := (⟨"com/example/rank60/rank60/FusedList", "contributions", "(I)Ljava/util/List;"⟩ : MethodName)) hown (mvT hZ (own_wk hw 72 rfl)) (mvT hZ (own_wk hw 73 rfl)) (notFace_of_selects (args := #[]) (mvT hZ (own_wk hw 75 rfl))) (mvT hZ (own_wk hw 75 rfl)) (mvT hZ (own_wk hw 74 rfl)) (by decide) (backOf (W := 0) (rm9_1 l Z ag hw [] b1517 b1283 k1283 (FP.l2d 0) (FP.l2d 0) b1254 u0_1257 ku0_1257 (0 : Int32) (1 : Int32) (2 : Int32) T1557.heap n0 sz1575 x1572 x1573 x1560 x1574 x1558 x1564 x1571) hZ (own_wk hw 76 rfl) (own_wk hw 39 rfl) (by decide) (by decide)) q1577a q1577c (g := (mkF m 165 (own_loc23 p0 p1 p2 p3 p4 p5 b1254 b1264 b1283 b1517 r1557) [.int 1, (.ref b1517)])) rfl (by rw [hml]; rfl) (Steps.refl _) (argsL := [(.int (1 : Int32))]) (rest := []) (lenOf pd_5 rfl) rfl (by show 2 * 0 + _ ≤ _; exact Nat.le_of_eq rfl) (hb hby at_165) (fun _ _ => ⟨rfl, rfl, (by decide : 9 + 1 ≤ _), (by decide : 31 + 4 ≤ _)⟩)
        dsimp only [Pt.U, Pt.locs, Pt.cells, Pt.slots] at X1577 l1577 y1577 z1577 st1577 hQ1577
        subst l1577 y1577 z1577
        obtain ⟨r1577, rfl, N1577q, K1577, ge_r1577, gq_r1577, o1577_0, o1577_1, o1577_2, o1577_3⟩ := hQ1577
        have N1577 := Fr.app N1557 N1577q
        have x1578 := x1558.keep K1577
        have x1579 := x1559.keep K1577 nin0
        have x1580 := x1560.keep K1577 nin0
        have x1581 := x1561.keep K1577 nin0
        have x1582 := x1562.keep K1577 nin0
        have x1583 := x1563.keep K1577 nin0
        have x1584 := x1564.keep K1577 nin0
        have x1585 := x1565.keep K1577 nin0
        have x1586 := x1566.keep K1577 nin0
        have x1587 := x1567.keep K1577 nin0
        have x1588 := x1568.keep K1577 nin0
        have x1589 := x1569.keep K1577 nin0
        have x1590 := x1570.keep K1577 nin0
        have x1591 := x1571.keep K1577 nin0
        have x1592 := x1572.keep K1577
        have x1593 := x1573.keep K1577 nin0
        have x1594 := x1574.keep K1577 nin0
        have x1595 := o1557_0.keep K1577
        have x1596 := o1557_1.keep K1577 nin0
        have x1597 := o1557_2.keep K1577 nin0
        have x1598 := o1557_3.keep K1577 nin0
        have sz1599 : n0 ≤ T1577.heap.size := Nat.le_trans sz1575 K1577.1
        obtain ⟨cq1600, kq1600, q1600a, q1600b, q1600c⟩ := isOf hZ rfl x1595
        obtain ⟨_, _, ⟨T1600, L1600, k1600, n1600⟩, -, X1600, ⟨Lc1600, hQ1600, l1600, y1600, z1600⟩, st1600⟩ := X1577.interfaceBack hx (xi := (⟨"java/util/List", "size", "()I"⟩ : MethodName)) (y := (⟨"com/example/rank60/rank60/FusedList$Explanations$DocumentContributions", "size", "()I"⟩ : MethodName)) hown (mvT hZ (own_wk hw 104 rfl)) (mvT hZ (own_wk hw 105 rfl)) (mvT hZ (own_wk hw 106 rfl)) (mvT hZ (own_wk hw 107 rfl)) (mvT hZ (own_wk hw 108 rfl)) (mvT hZ (own_wk hw 109 rfl)) (mvT hZ (own_wk hw 110 rfl)) (mvT hZ (own_wk hw 111 rfl)) (by decide) (backOf (W := 0) (rm14 l Z ag hw [] r1557 ((1 : Int32) - (0 : Int32)) T1577.heap n0 sz1599 x1598) hZ (own_wk hw 112 rfl) (own_wk hw 91 rfl) (by decide) (by decide)) q1600a q1600b q1600c (g := (mkF m 172 (own_loc24 p0 p1 p2 p3 p4 p5 b1254 b1264 b1283 b1517 r1557 r1577) [(.ref r1557)])) rfl (by rw [hml]; rfl) (Steps.refl _) (argsL := []) (rest := []) (lenOf pd_1 rfl) rfl (by show 2 * 0 + _ ≤ _; exact Nat.le_of_eq rfl) (hb hby at_172) (fun _ _ => ⟨rfl, rfl, (by decide : 10 + 0 ≤ _), (by decide : 35 + 0 ≤ _)⟩)
        dsimp only [Pt.U, Pt.locs, Pt.cells, Pt.slots] at X1600 l1600 y1600 z1600 st1600 hQ1600
        subst l1600 y1600 z1600
        obtain ⟨rfl, N1600q, e1600⟩ := hQ1600
        have N1600 := Fr.app N1577 N1600q
        obtain ⟨cq1601, kq1601, q1601a, q1601b, q1601c⟩ := isOf hZ e1600 o1577_0
        obtain ⟨_, _, ⟨T1601, L1601, k1601, n1601⟩, -, X1601, ⟨Lc1601, hQ1601, l1601, y1601, z1601⟩, st1601⟩ := X1600.interfaceBack hx (xi := (⟨"java/util/List", "size", "()I"⟩ : MethodName)) (y := (⟨"com/example/rank60/rank60/FusedList$Explanations$DocumentContributions", "size", "()I"⟩ : MethodName)) hown (mvT hZ (own_wk hw 104 rfl)) (mvT hZ (own_wk hw 105 rfl)) (mvT hZ (own_wk hw 106 rfl)) (mvT hZ (own_wk hw 107 rfl)) (mvT hZ (own_wk hw 108 rfl)) (mvT hZ (own_wk hw 109 rfl)) (mvT hZ (own_wk hw 110 rfl)) (mvT hZ (own_wk hw 111 rfl)) (by decide) (backOf (W := 0) (rm14 l Z ag hw [] r1577 ((2 : Int32) - (1 : Int32)) T1577.heap n0 sz1599 o1577_3) hZ (own_wk hw 112 rfl) (own_wk hw 91 rfl) (by decide) (by decide)) q1601a q1601b q1601c (g := (mkF m 184 (own_loc24 p0 p1 p2 p3 p4 p5 b1254 b1264 b1283 b1517 r1557 r1577) [(.ref r1577)])) rfl (by rw [hml]; rfl) (Steps.refl _) (argsL := []) (rest := []) (lenOf pd_1 rfl) rfl (by show 2 * 0 + _ ≤ _; exact Nat.le_of_eq rfl) (hb hby at_184) (fun _ _ => ⟨rfl, e1600, (by decide : 10 + 0 ≤ _), (by decide : 35 + 0 ≤ _)⟩)
        dsimp only [Pt.U, Pt.locs, Pt.cells, Pt.slots] at X1601 l1601 y1601 z1601 st1601 hQ1601
        subst l1601 y1601 z1601
        obtain ⟨rfl, N1601q, e1601⟩ := hQ1601
        have N1601 := Fr.app N1600 N1601q
        have cp1602 : ∀ target, own_S p e below T1601 (mkF m 241 (own_loc24 p0 p1 p2 p3 p4 p5 b1254 b1264 b1283 b1517 r1557 r1577) [.int 0, (.ref r1557)]) target → own_S p e below s₁ (mkF m 0 (own_loc7 p0 p1 p2 p3 p4 p5) []) target := by
          intro target kt
          show own_S p e below s₁ (mkF m 0 (own_loc7 p0 p1 p2 p3 p4 p5) []) _
          refine cp1576 _ ?_
          show own_S p e below T1557 (mkF m 165 (own_loc23 p0 p1 p2 p3 p4 p5 b1254 b1264 b1283 b1517 r1557) [.int 1, (.ref b1517)]) _
          refine st1577.trans ?_
          show own_S p e below T1577 (mkF m 168 (own_loc23 p0 p1 p2 p3 p4 p5 b1254 b1264 b1283 b1517 r1557) [(.ref r1577)]) _
          refine XS.astore X1577.here hx rfl (hb hby at_168) rfl rfl (l' := (own_loc24 p0 p1 p2 p3 p4 p5 b1254 b1264 b1283 b1517 r1557 r1577)) rfl ?_
          show own_S p e below T1577 (mkF m 170 (own_loc24 p0 p1 p2 p3 p4 p5 b1254 b1264 b1283 b1517 r1557 r1577) []) _
          refine XS.aload X1577.here hx rfl (hb hby at_170) rfl rfl ?_
          show own_S p e below T1577 (mkF m 172 (own_loc24 p0 p1 p2 p3 p4 p5 b1254 b1264 b1283 b1517 r1557 r1577) [(.ref r1557)]) _
          refine st1600.trans ?_
          show own_S p e below T1600 (mkF m 177 (own_loc24 p0 p1 p2 p3 p4 p5 b1254 b1264 b1283 b1517 r1557 r1577) [(.int ((1 : Int32) - (0 : Int32)))]) _
          refine XS.iload X1600.here hx rfl (hb hby at_177) rfl ?_
          show own_S p e below T1600 (mkF m 179 (own_loc24 p0 p1 p2 p3 p4 p5 b1254 b1264 b1283 b1517 r1557 r1577) [(.int ((own_ushr p5 (1 : Int32)) % (3 : Int32))), (.int ((1 : Int32) - (0 : Int32)))]) _
          refine XS.icmpNo X1600.here hx rfl (hb hby at_179) rfl (teq (show ((1 : Int32) - (0 : Int32)) = ((own_ushr p5 (1 : Int32)) % (3 : Int32)) from (by rw [hc1492]; first | done | decide))).2 ?_
          show own_S p e below T1600 (mkF m 182 (own_loc24 p0 p1 p2 p3 p4 p5 b1254 b1264 b1283 b1517 r1557 r1577) []) _
          refine XS.aload X1600.here hx rfl (hb hby at_182) rfl rfl ?_
          show own_S p e below T1600 (mkF m 184 (own_loc24 p0 p1 p2 p3 p4 p5 b1254 b1264 b1283 b1517 r1557 r1577) [(.ref r1577)]) _
          refine st1601.trans ?_
          show own_S p e below T1601 (mkF m 189 (own_loc24 p0 p1 p2 p3 p4 p5 b1254 b1264 b1283 b1517 r1557 r1577) [(.int ((2 : Int32) - (1 : Int32)))]) _
          refine XS.iconst X1601.here hx rfl (hb hby at_189) ?_
          show own_S p e below T1601 (mkF m 190 (own_loc24 p0 p1 p2 p3 p4 p5 b1254 b1264 b1283 b1517 r1557 r1577) [.int 2, (.int ((2 : Int32) - (1 : Int32)))]) _
          refine XS.iload X1601.here hx rfl (hb hby at_190) rfl ?_
          show own_S p e below T1601 (mkF m 192 (own_loc24 p0 p1 p2 p3 p4 p5 b1254 b1264 b1283 b1517 r1557 r1577) [(.int ((own_ushr p5 (1 : Int32)) % (3 : Int32))), .int 2, (.int ((2 : Int32) - (1 : Int32)))]) _
          refine XS.isub X1601.here hx rfl (hb hby at_192) rfl ?_
          show own_S p e below T1601 (mkF m 193 (own_loc24 p0 p1 p2 p3 p4 p5 b1254 b1264 b1283 b1517 r1557 r1577) [(.int ((2 : Int32) - ((own_ushr p5 (1 : Int32)) % (3 : Int32)))), (.int ((2 : Int32) - (1 : Int32)))]) _
          refine XS.icmpYes X1601.here hx rfl (pc0 := 193) (pc' := 198) rfl (hb hby at_193) rfl (teq (show ((2 : Int32) - (1 : Int32)) = ((2 : Int32) - ((own_ushr p5 (1 : Int32)) % (3 : Int32))) from (by rw [hc1492]; first | done | decide))).1 (by decide) (by decide) ?_
          show own_S p e below T1601 (mkF m 198 (own_loc24 p0 p1 p2 p3 p4 p5 b1254 b1264 b1283 b1517 r1557 r1577) []) _
          refine XS.iload X1601.here hx rfl (hb hby at_198) rfl ?_
          show own_S p e below T1601 (mkF m 200 (own_loc24 p0 p1 p2 p3 p4 p5 b1254 b1264 b1283 b1517 r1557 r1577) [(.int ((own_ushr p5 (1 : Int32)) % (3 : Int32)))]) _
          refine XS.ifYes X1601.here hx rfl (pc0 := 200) (pc' := 232) rfl (hb hby at_200) rfl ((if0 _ _).trans (feq hc1304).2) (by decide) (by decide) ?_
          show own_S p e below T1601 (mkF m 232 (own_loc24 p0 p1 p2 p3 p4 p5 b1254 b1264 b1283 b1517 r1557 r1577) []) _
          refine XS.iload X1601.here hx rfl (hb hby at_232) rfl ?_
          show own_S p e below T1601 (mkF m 234 (own_loc24 p0 p1 p2 p3 p4 p5 b1254 b1264 b1283 b1517 r1557 r1577) [(.int ((own_ushr p5 (1 : Int32)) % (3 : Int32)))]) _
          refine XS.iconst X1601.here hx rfl (hb hby at_234) ?_
          show own_S p e below T1601 (mkF m 235 (own_loc24 p0 p1 p2 p3 p4 p5 b1254 b1264 b1283 b1517 r1557 r1577) [.int 1, (.int ((own_ushr p5 (1 : Int32)) % (3 : Int32)))]) _
          refine XS.icmpNo X1601.here hx rfl (hb hby at_235) rfl (teq hc1492).2 ?_
          show own_S p e below T1601 (mkF m 238 (own_loc24 p0 p1 p2 p3 p4 p5 b1254 b1264 b1283 b1517 r1557 r1577) []) _
          refine XS.aload X1601.here hx rfl (hb hby at_238) rfl rfl ?_
          show own_S p e below T1601 (mkF m 240 (own_loc24 p0 p1 p2 p3 p4 p5 b1254 b1264 b1283 b1517 r1557 r1577) [(.ref r1557)]) _
          refine XS.iconst X1601.here hx rfl (hb hby at_240) ?_
          exact kt
        obtain ⟨cq1603, kq1603, q1603a, q1603b, q1603c⟩ := isOf hZ e1601 x1595
        obtain ⟨_, _, ⟨T1603, L1603, k1603, n1603⟩, -, X1603, ⟨Lc1603, hQ1603, l1603, y1603, z1603⟩, st1603⟩ := X1601.interfaceBack hx (xi := (⟨"java/util/List", "get", "(I)Ljava/lang/Object;"⟩ : MethodName)) (y := (⟨"com/example/rank60/rank60/FusedList$Explanations$DocumentContributions", "get", "(I)Ljava/lang/Object;"⟩ : MethodName)) hown (mvT hZ (own_wk hw 113 rfl)) (mvT hZ (own_wk hw 114 rfl)) (mvT hZ (own_wk hw 115 rfl)) (mvT hZ (own_wk hw 116 rfl)) (mvT hZ (own_wk hw 117 rfl)) (mvT hZ (own_wk hw 118 rfl)) (mvT hZ (own_wk hw 119 rfl)) (mvT hZ (own_wk hw 111 rfl)) (by decide) (backOf (W := 0) (rm15_000 l Z ag hw [] r1557 ((1 : Int32) - (0 : Int32)) b1254 u1_1257 u2_1257 u4_1257 ku1_1257 p0 p2 ku2_1257 p1 p3 ku4_1257 (FP.i2d ((p4 >>> ((8 : Int32) &&& 31)).toInt8.toInt32)) (FP.i2d ((p4 >>> ((24 : Int32) &&& 31)).toInt8.toInt32)) T1577.heap n0 sz1599 x1595 x1597 x1598 x1596 x1578 x1587 x1588 x1590 x1589 x1581 x1582 x1583 (by decide)) hZ (own_wk hw 120 rfl) (own_wk hw 91 rfl) (by decide) (by decide)) q1603a q1603b q1603c (g := (mkF m 241 (own_loc24 p0 p1 p2 p3 p4 p5 b1254 b1264 b1283 b1517 r1557 r1577) [.int 0, (.ref r1557)])) rfl (by rw [hml]; rfl) (Steps.refl _) (argsL := [(.int (0 : Int32))]) (rest := []) (lenOf pd_4 rfl) rfl (by show 2 * 0 + _ ≤ _; exact Nat.le_of_eq rfl) (hb hby at_241) (fun _ _ => ⟨rfl, e1601, (by decide : 10 + 1 ≤ _), (by decide : 35 + 4 ≤ _)⟩)
        dsimp only [Pt.U, Pt.locs, Pt.cells, Pt.slots] at X1603 l1603 y1603 z1603 st1603 hQ1603
        subst l1603 y1603 z1603
        obtain ⟨r1603, rfl, N1603q, K1603, ge_r1603, gq_r1603, o1603_0, o1603_1, o1603_2, o1603_3, o1603_4⟩ := hQ1603
        have N1603 := Fr.app N1601 N1603q
        have x1604 := x1578.keep K1603
        have x1605 := x1579.keep K1603 nin0
        have x1606 := x1580.keep K1603 nin0
        have x1607 := x1581.keep K1603 nin0
        have x1608 := x1582.keep K1603 nin0
        have x1609 := x1583.keep K1603 nin0
        have x1610 := x1584.keep K1603 nin0
        have x1611 := x1585.keep K1603 nin0
        have x1612 := x1586.keep K1603 nin0
        have x1613 := x1587.keep K1603 nin0
        have x1614 := x1588.keep K1603 nin0
        have x1615 := x1589.keep K1603 nin0
        have x1616 := x1590.keep K1603 nin0
        have x1617 := x1591.keep K1603 nin0
        have x1618 := x1592.keep K1603
        have x1619 := x1593.keep K1603 nin0
        have x1620 := x1594.keep K1603 nin0
        have x1621 := x1595.keep K1603
        have x1622 := x1596.keep K1603 nin0
        have x1623 := x1597.keep K1603 nin0
        have x1624 := x1598.keep K1603 nin0
        have x1625 := o1577_0.keep K1603
        have x1626 := o1577_1.keep K1603 nin0
        have x1627 := o1577_2.keep K1603 nin0
        have x1628 := o1577_3.keep K1603 nin0
        have sz1629 : n0 ≤ T1603.heap.size := Nat.le_trans sz1599 K1603.1
        obtain ⟨T1630, X1630, e1630, st1630⟩ := castY X1603 hx hZ hown (own_wk hw 151 rfl) rfl (Ins.self o1603_0) (g := (mkF m 246 (own_loc24 p0 p1 p2 p3 p4 p5 b1254 b1264 b1283 b1517 r1557 r1577) [(.ref r1603)])) rfl rfl (hb hby at_246)
        obtain ⟨cq1631, kq1631, q1631a, q1631b, q1631c⟩ := isOf hZ e1630 x1625
        obtain ⟨_, _, ⟨T1631, L1631, k1631, n1631⟩, -, X1631, ⟨Lc1631, hQ1631, l1631, y1631, z1631⟩, st1631⟩ := X1630.interfaceBack hx (xi := (⟨"java/util/List", "get", "(I)Ljava/lang/Object;"⟩ : MethodName)) (y := (⟨"com/example/rank60/rank60/FusedList$Explanations$DocumentContributions", "get", "(I)Ljava/lang/Object;"⟩ : MethodName)) hown (mvT hZ (own_wk hw 113 rfl)) (mvT hZ (own_wk hw 114 rfl)) (mvT hZ (own_wk hw 115 rfl)) (mvT hZ (own_wk hw 116 rfl)) (mvT hZ (own_wk hw 117 rfl)) (mvT hZ (own_wk hw 118 rfl)) (mvT hZ (own_wk hw 119 rfl)) (mvT hZ (own_wk hw 111 rfl)) (by decide) (backOf (W := 0) (rm15_010 l Z ag hw [] r1577 ((2 : Int32) - (1 : Int32)) b1254 u1_1257 u2_1257 u4_1257 ku1_1257 p0 p2 ku2_1257 p1 p3 ku4_1257 (FP.i2d ((p4 >>> ((8 : Int32) &&& 31)).toInt8.toInt32)) (FP.i2d ((p4 >>> ((24 : Int32) &&& 31)).toInt8.toInt32)) T1603.heap n0 sz1629 x1625 x1627 x1628 x1626 x1604 x1613 x1614 x1616 x1615 x1607 x1608 x1609 (by decide)) hZ (own_wk hw 120 rfl) (own_wk hw 91 rfl) (by decide) (by decide)) q1631a q1631b q1631c (g := (mkF m 254 (own_loc25 p0 p1 p2 p3 p4 p5 b1254 b1264 b1283 b1517 r1557 r1577 r1603) [.int 0, (.ref r1577)])) rfl (by rw [hml]; rfl) (Steps.refl _) (argsL := [(.int (0 : Int32))]) (rest := []) (lenOf pd_4 rfl) rfl (by show 2 * 0 + _ ≤ _; exact Nat.le_of_eq rfl) (hb hby at_254) (fun _ _ => ⟨rfl, e1630, (by decide : 11 + 1 ≤ _), (by decide : 39 + 4 ≤ _)⟩)
        dsimp only [Pt.U, Pt.locs, Pt.cells, Pt.slots] at X1631 l1631 y1631 z1631 st1631 hQ1631
        subst l1631 y1631 z1631
        obtain ⟨r1631, rfl, N1631q, K1631, ge_r1631, gq_r1631, o1631_0, o1631_1, o1631_2, o1631_3, o1631_4⟩ := hQ1631
        have N1631 := Fr.app N1603 N1631q
        have x1632 := x1604.keep K1631
        have x1633 := x1605.keep K1631 nin0
        have x1634 := x1606.keep K1631 nin0
        have x1635 := x1607.keep K1631 nin0
        have x1636 := x1608.keep K1631 nin0
        have x1637 := x1609.keep K1631 nin0
        have x1638 := x1610.keep K1631 nin0
        have x1639 := x1611.keep K1631 nin0
        have x1640 := x1612.keep K1631 nin0
        have x1641 := x1613.keep K1631 nin0
        have x1642 := x1614.keep K1631 nin0
        have x1643 := x1615.keep K1631 nin0
        have x1644 := x1616.keep K1631 nin0
        have x1645 := x1617.keep K1631 nin0
        have x1646 := x1618.keep K1631
        have x1647 := x1619.keep K1631 nin0
        have x1648 := x1620.keep K1631 nin0
        have x1649 := x1621.keep K1631
        have x1650 := x1622.keep K1631 nin0
        have x1651 := x1623.keep K1631 nin0
        have x1652 := x1624.keep K1631 nin0
        have x1653 := x1625.keep K1631
        have x1654 := x1626.keep K1631 nin0
        have x1655 := x1627.keep K1631 nin0
        have x1656 := x1628.keep K1631 nin0
        have x1657 := o1603_0.keep K1631
        have x1658 := o1603_1.keep K1631 nin0
        have x1659 := o1603_2.keep K1631 nin0
        have x1660 := o1603_3.keep K1631 nin0
        have x1661 := o1603_4.keep K1631 nin0
        have sz1662 : n0 ≤ T1631.heap.size := Nat.le_trans sz1629 K1631.1
        obtain ⟨T1663, X1663, e1663, st1663⟩ := castY X1631 hx hZ hown (own_wk hw 151 rfl) rfl (Ins.self o1631_0) (g := (mkF m 259 (own_loc25 p0 p1 p2 p3 p4 p5 b1254 b1264 b1283 b1517 r1557 r1577 r1603) [(.ref r1631)])) rfl rfl (hb hby at_259)
        have cp1664 : ∀ target, own_S p e below T1663 (mkF m 303 (own_loc26 p0 p1 p2 p3 p4 p5 b1254 b1264 b1283 b1517 r1557 r1577 r1603 r1631) [.int 0, (.double (FP.i2d ((p4 >>> ((8 : Int32) &&& 31)).toInt8.toInt32))), (.double (FP.i2d (p4.toInt8.toInt32))), (.int p1), (.int p0), (.ref r1603)]) target → own_S p e below s₁ (mkF m 0 (own_loc7 p0 p1 p2 p3 p4 p5) []) target := by
          intro target kt
          show own_S p e below s₁ (mkF m 0 (own_loc7 p0 p1 p2 p3 p4 p5) []) _
          refine cp1602 _ ?_
          show own_S p e below T1601 (mkF m 241 (own_loc24 p0 p1 p2 p3 p4 p5 b1254 b1264 b1283 b1517 r1557 r1577) [.int 0, (.ref r1557)]) _
          refine st1603.trans ?_
          show own_S p e below T1603 (mkF m 246 (own_loc24 p0 p1 p2 p3 p4 p5 b1254 b1264 b1283 b1517 r1557 r1577) [(.ref r1603)]) _
          refine st1630 _ ?_
          show own_S p e below T1630 (mkF m 249 (own_loc24 p0 p1 p2 p3 p4 p5 b1254 b1264 b1283 b1517 r1557 r1577) [(.ref r1603)]) _
          refine XS.astore X1630.here hx rfl (hb hby at_249) rfl rfl (l' := (own_loc25 p0 p1 p2 p3 p4 p5 b1254 b1264 b1283 b1517 r1557 r1577 r1603)) rfl ?_
          show own_S p e below T1630 (mkF m 251 (own_loc25 p0 p1 p2 p3 p4 p5 b1254 b1264 b1283 b1517 r1557 r1577 r1603) []) _
          refine XS.aload X1630.here hx rfl (hb hby at_251) rfl rfl ?_
          show own_S p e below T1630 (mkF m 253 (own_loc25 p0 p1 p2 p3 p4 p5 b1254 b1264 b1283 b1517 r1557 r1577 r1603) [(.ref r1577)]) _
          refine XS.iconst X1630.here hx rfl (hb hby at_253) ?_
          show own_S p e below T1630 (mkF m 254 (own_loc25 p0 p1 p2 p3 p4 p5 b1254 b1264 b1283 b1517 r1557 r1577 r1603) [.int 0, (.ref r1577)]) _
          refine st1631.trans ?_
          show own_S p e below T1631 (mkF m 259 (own_loc25 p0 p1 p2 p3 p4 p5 b1254 b1264 b1283 b1517 r1557 r1577 r1603) [(.ref r1631)]) _
          refine st1663 _ ?_
          show own_S p e below T1663 (mkF m 262 (own_loc25 p0 p1 p2 p3 p4 p5 b1254 b1264 b1283 b1517 r1557 r1577 r1603) [(.ref r1631)]) _
          refine XS.astore X1663.here hx rfl (hb hby at_262) rfl rfl (l' := (own_loc26 p0 p1 p2 p3 p4 p5 b1254 b1264 b1283 b1517 r1557 r1577 r1603 r1631)) rfl ?_
          show own_S p e below T1663 (mkF m 264 (own_loc26 p0 p1 p2 p3 p4 p5 b1254 b1264 b1283 b1517 r1557 r1577 r1603 r1631) []) _
          refine XS.goto X1663.here hx rfl (pc0 := 264) (pc' := 293) rfl (hb hby at_264) (by decide) (by decide) ?_
          show own_S p e below T1663 (mkF m 293 (own_loc26 p0 p1 p2 p3 p4 p5 b1254 b1264 b1283 b1517 r1557 r1577 r1603 r1631) []) _
          refine XS.aload X1663.here hx rfl (hb hby at_293) rfl rfl ?_
          show own_S p e below T1663 (mkF m 295 (own_loc26 p0 p1 p2 p3 p4 p5 b1254 b1264 b1283 b1517 r1557 r1577 r1603 r1631) [(.ref r1603)]) _
          refine XS.iloadN X1663.here hx rfl (hb hby at_295) rfl ?_
          show own_S p e below T1663 (mkF m 296 (own_loc26 p0 p1 p2 p3 p4 p5 b1254 b1264 b1283 b1517 r1557 r1577 r1603 r1631) [(.int p0), (.ref r1603)]) _
          refine XS.iloadN X1663.here hx rfl (hb hby at_296) rfl ?_
          show own_S p e below T1663 (mkF m 297 (own_loc26 p0 p1 p2 p3 p4 p5 b1254 b1264 b1283 b1517 r1557 r1577 r1603 r1631) [(.int p1), (.int p0), (.ref r1603)]) _
          refine XS.dload X1663.here hx rfl (hb hby at_297) rfl ?_
          show own_S p e below T1663 (mkF m 299 (own_loc26 p0 p1 p2 p3 p4 p5 b1254 b1264 b1283 b1517 r1557 r1577 r1603 r1631) [(.double (FP.i2d (p4.toInt8.toInt32))), (.int p1), (.int p0), (.ref r1603)]) _
          refine XS.dload X1663.here hx rfl (hb hby at_299) rfl ?_
          show own_S p e below T1663 (mkF m 301 (own_loc26 p0 p1 p2 p3 p4 p5 b1254 b1264 b1283 b1517 r1557 r1577 r1603 r1631) [(.double (FP.i2d ((p4 >>> ((8 : Int32) &&& 31)).toInt8.toInt32))), (.double (FP.i2d (p4.toInt8.toInt32))), (.int p1), (.int p0), (.ref r1603)]) _
          refine XS.iload X1663.here hx rfl (hb hby at_301) rfl ?_
          exact kt
        obtain ⟨_, _, ⟨T1665, L1665, k1665, n1665⟩, -, X1665, ⟨Lc1665, hQ1665, l1665, y1665, z1665⟩, st1665⟩ := Jvm.LawKit.callS X1663 hx (y := (⟨"com/example/rank60/rank60/ExplanationsAddPinLaw", "matches", "(Lcom/example/rank60/rank60/FusedHit$Contribution;IIDDZ)Z"⟩ : MethodName)) hown (mvT hZ (own_wk hw 153 rfl)) (mvT hZ (own_wk hw 154 rfl)) (mvT hZ (own_wk hw 155 rfl)) (mvT hZ (own_wk hw 156 rfl)) (by decide) (backOf (W := 0) (rm19_0 l Z ag hw [] r1603 p0 p1 (FP.i2d (p4.toInt8.toInt32)) (FP.i2d ((p4 >>> ((8 : Int32) &&& 31)).toInt8.toInt32))  T1631.heap n0 sz1662 x1657 x1658 x1659 x1660 x1661 (own_i2dn _) (own_i2dn _)) hZ (own_wk hw 156 rfl) (own_wk hw 155 rfl) (by decide) (by decide)) (g := (mkF m 303 (own_loc26 p0 p1 p2 p3 p4 p5 b1254 b1264 b1283 b1517 r1557 r1577 r1603 r1631) [.int 0, (.double (FP.i2d ((p4 >>> ((8 : Int32) &&& 31)).toInt8.toInt32))), (.double (FP.i2d (p4.toInt8.toInt32))), (.int p1), (.int p0), (.ref r1603)])) rfl (by rw [hml]; rfl) (argsL := [(.ref r1603), (.int p0), (.int p1), (.double (FP.i2d (p4.toInt8.toInt32))), (.double (FP.i2d ((p4 >>> ((8 : Int32) &&& 31)).toInt8.toInt32))), (.int (0 : Int32))]) (rest := []) (lenOf pd_10 rfl) rfl (by show 2 * 0 + _ ≤ _; exact Nat.le_of_eq rfl) (hb hby at_303) (fun _ _ => ⟨rfl, e1663, (by decide : 12 + 0 ≤ _), (by decide : 43 + 0 ≤ _)⟩)
        dsimp only [Pt.U, Pt.locs, Pt.cells, Pt.slots] at X1665 l1665 y1665 z1665 st1665 hQ1665
        subst l1665 y1665 z1665
        obtain ⟨rfl, N1665q, e1665⟩ := hQ1665
        have N1665 := Fr.app N1631 N1665q
        obtain ⟨_, _, ⟨T1666, L1666, k1666, n1666⟩, -, X1666, ⟨Lc1666, hQ1666, l1666, y1666, z1666⟩, st1666⟩ := Jvm.LawKit.callS X1665 hx (y := (⟨"com/example/rank60/rank60/ExplanationsAddPinLaw", "matches", "(Lcom/example/rank60/rank60/FusedHit$Contribution;IIDDZ)Z"⟩ : MethodName)) hown (mvT hZ (own_wk hw 153 rfl)) (mvT hZ (own_wk hw 154 rfl)) (mvT hZ (own_wk hw 155 rfl)) (mvT hZ (own_wk hw 156 rfl)) (by decide) (backOf (W := 0) (rm19_0 l Z ag hw [] r1631 p2 p3 (FP.i2d ((p4 >>> ((16 : Int32) &&& 31)).toInt8.toInt32)) (FP.i2d ((p4 >>> ((24 : Int32) &&& 31)).toInt8.toInt32))  T1631.heap n0 sz1662 o1631_0 o1631_1 o1631_2 o1631_3 o1631_4 (own_i2dn _) (own_i2dn _)) hZ (own_wk hw 156 rfl) (own_wk hw 155 rfl) (by decide) (by decide)) (g := (mkF m 319 (own_loc26 p0 p1 p2 p3 p4 p5 b1254 b1264 b1283 b1517 r1557 r1577 r1603 r1631) [.int 0, (.double (FP.i2d ((p4 >>> ((24 : Int32) &&& 31)).toInt8.toInt32))), (.double (FP.i2d ((p4 >>> ((16 : Int32) &&& 31)).toInt8.toInt32))), (.int p3), (.int p2), (.ref r1631)])) rfl (by rw [hml]; rfl) (argsL := [(.ref r1631), (.int p2), (.int p3), (.double (FP.i2d ((p4 >>> ((16 : Int32) &&& 31)).toInt8.toInt32))), (.double (FP.i2d ((p4 >>> ((24 : Int32) &&& 31)).toInt8.toInt32))), (.int (0 : Int32))]) (rest := []) (lenOf pd_10 rfl) rfl (by show 2 * 0 + _ ≤ _; exact Nat.le_of_eq rfl) (hb hby at_319) (fun _ _ => ⟨rfl, e1665, (by decide : 12 + 0 ≤ _), (by decide : 43 + 0 ≤ _)⟩)
        dsimp only [Pt.U, Pt.locs, Pt.cells, Pt.slots] at X1666 l1666 y1666 z1666 st1666 hQ1666
        subst l1666 y1666 z1666
        obtain ⟨rfl, N1666q, e1666⟩ := hQ1666
        have N1666 := Fr.app N1665 N1666q
        obtain ⟨fs, hr, hrun, hended, hW, hsame⟩ := X1666.leave (v := some (.int (1 : Int32))) (fun h => by rw [Bd.returns] at h; cases h)
        refine ⟨_, _, pre0 _ ?_, hrun, hended, _, _, rfl, ?_, ⟨_, rfl⟩, hW, hsame.mono (by decide) (by decide)⟩
        · show own_S p e below s₁ (mkF m 0 (own_loc7 p0 p1 p2 p3 p4 p5) []) _
          refine cp1664 _ ?_
          show own_S p e below T1663 (mkF m 303 (own_loc26 p0 p1 p2 p3 p4 p5 b1254 b1264 b1283 b1517 r1557 r1577 r1603 r1631) [.int 0, (.double (FP.i2d ((p4 >>> ((8 : Int32) &&& 31)).toInt8.toInt32))), (.double (FP.i2d (p4.toInt8.toInt32))), (.int p1), (.int p0), (.ref r1603)]) _
          refine st1665 _ ?_
          show own_S p e below T1665 (mkF m 306 (own_loc26 p0 p1 p2 p3 p4 p5 b1254 b1264 b1283 b1517 r1557 r1577 r1603 r1631) [.int 1]) _
          refine XS.ifNo X1665.here hx rfl (hb hby at_306) rfl ((if0 _ _).trans (feq (by decide : ¬ ((1 : Int32) = (0 : Int32)))).1) ?_
          show own_S p e below T1665 (mkF m 309 (own_loc26 p0 p1 p2 p3 p4 p5 b1254 b1264 b1283 b1517 r1557 r1577 r1603 r1631) []) _
          refine XS.aload X1665.here hx rfl (hb hby at_309) rfl rfl ?_
          show own_S p e below T1665 (mkF m 311 (own_loc26 p0 p1 p2 p3 p4 p5 b1254 b1264 b1283 b1517 r1557 r1577 r1603 r1631) [(.ref r1631)]) _
          refine XS.iloadN X1665.here hx rfl (hb hby at_311) rfl ?_
          show own_S p e below T1665 (mkF m 312 (own_loc26 p0 p1 p2 p3 p4 p5 b1254 b1264 b1283 b1517 r1557 r1577 r1603 r1631) [(.int p2), (.ref r1631)]) _
          refine XS.iloadN X1665.here hx rfl (hb hby at_312) rfl ?_
          show own_S p e below T1665 (mkF m 313 (own_loc26 p0 p1 p2 p3 p4 p5 b1254 b1264 b1283 b1517 r1557 r1577 r1603 r1631) [(.int p3), (.int p2), (.ref r1631)]) _
          refine XS.dload X1665.here hx rfl (hb hby at_313) rfl ?_
          show own_S p e below T1665 (mkF m 315 (own_loc26 p0 p1 p2 p3 p4 p5 b1254 b1264 b1283 b1517 r1557 r1577 r1603 r1631) [(.double (FP.i2d ((p4 >>> ((16 : Int32) &&& 31)).toInt8.toInt32))), (.int p3), (.int p2), (.ref r1631)]) _
          refine XS.dload X1665.here hx rfl (hb hby at_315) rfl ?_
          show own_S p e below T1665 (mkF m 317 (own_loc26 p0 p1 p2 p3 p4 p5 b1254 b1264 b1283 b1517 r1557 r1577 r1603 r1631) [(.double (FP.i2d ((p4 >>> ((24 : Int32) &&& 31)).toInt8.toInt32))), (.double (FP.i2d ((p4 >>> ((16 : Int32) &&& 31)).toInt8.toInt32))), (.int p3), (.int p2), (.ref r1631)]) _
          refine XS.iload X1665.here hx rfl (hb hby at_317) rfl ?_
          show own_S p e below T1665 (mkF m 319 (own_loc26 p0 p1 p2 p3 p4 p5 b1254 b1264 b1283 b1517 r1557 r1577 r1603 r1631) [.int 0, (.double (FP.i2d ((p4 >>> ((24 : Int32) &&& 31)).toInt8.toInt32))), (.double (FP.i2d ((p4 >>> ((16 : Int32) &&& 31)).toInt8.toInt32))), (.int p3), (.int p2), (.ref r1631)]) _
          refine st1666 _ ?_
          show own_S p e below T1666 (mkF m 322 (own_loc26 p0 p1 p2 p3 p4 p5 b1254 b1264 b1283 b1517 r1557 r1577 r1603 r1631) [.int 1]) _
          refine XS.ifNo X1666.here hx rfl (hb hby at_322) rfl ((if0 _ _).trans (feq (by decide : ¬ ((1 : Int32) = (0 : Int32)))).1) ?_
          show own_S p e below T1666 (mkF m 325 (own_loc26 p0 p1 p2 p3 p4 p5 b1254 b1264 b1283 b1517 r1557 r1577 r1603 r1631) []) _
          refine XS.iconst X1666.here hx rfl (hb hby at_325) ?_
          show own_S p e below T1666 (mkF m 326 (own_loc26 p0 p1 p2 p3 p4 p5 b1254 b1264 b1283 b1517 r1557 r1577 r1603 r1631) [.int 1]) _
          refine XS.goto X1666.here hx rfl (pc0 := 326) (pc' := 330) rfl (hb hby at_326) (by decide) (by decide) ?_
          show own_S p e below T1666 (mkF m 330 (own_loc26 p0 p1 p2 p3 p4 p5 b1254 b1264 b1283 b1517 r1557 r1577 r1603 r1631) [.int 1]) _
          exact retN X1666 hx (t := .boolean) Bd.returns (by simp) (hb hby at_330) hr
        · exact ⟨rfl, N1666⟩
      · obtain ⟨cq1667, kq1667, q1667a, q1667b, q1667c⟩ := isOf hZ rfl x1487
        obtain ⟨_, _, ⟨T1667, L1667, k1667, n1667⟩, -, X1667, ⟨Lc1667, hQ1667, l1667, y1667, z1667⟩, st1667⟩ := X1486.virtualBack hx (y := (⟨"com/example/rank60/rank60/FusedList$Explanations", "add", "(IIDD)V"⟩ : MethodName)) (z := (⟨"com/example/rank60/rank60/FusedList$Explanations", "add", "(IIDD)V"⟩ : MethodName)) hown (mvT hZ (own_wk hw 23 rfl)) (mvT hZ (own_wk hw 24 rfl)) (notFace_of_selects (args := #[]) (mvT hZ (own_wk hw 26 rfl))) (mvT hZ (own_wk hw 26 rfl)) (mvT hZ (own_wk hw 25 rfl)) (by decide) (backOf (W := 0) (rm3_10 l Z ag hw [] b1254 p2 p3 (FP.i2d ((p4 >>> ((16 : Int32) &&& 31)).toInt8.toInt32)) (FP.i2d ((p4 >>> ((24 : Int32) &&& 31)).toInt8.toInt32)) u1_1257 u2_1257 u4_1257 (0 : Int32) u0_1257 ku1_1257 p0 (0 : Int32) ku2_1257 p1 (0 : Int32) ku4_1257 (FP.i2d ((p4 >>> ((8 : Int32) &&& 31)).toInt8.toInt32)) (FP.l2d 0) T1486.heap n0 sz1491 x1487 o1486_0 o1486_1 o1486_2 o1486_3 o1486_6 o1486_4 o1486_5 o1486_7 o1486_8 o1486_9 ge_b1254 ge_u1_1257 ge_u2_1257 ge_u4_1257 ne1259 ne1260 ne1261 ne1257_3 ne1257_4 ne1257_5) hZ (own_wk hw 27 rfl) (own_wk hw 2 rfl) (by decide) (by decide)) q1667a q1667c (g := (mkF m 119 (own_loc16 p0 p1 p2 p3 p4 p5 b1254 b1264 b1283) [(.double (FP.i2d ((p4 >>> ((24 : Int32) &&& 31)).toInt8.toInt32))), (.double (FP.i2d ((p4 >>> ((16 : Int32) &&& 31)).toInt8.toInt32))), (.int p3), (.int p2), (.ref b1254)])) rfl (by rw [hml]; rfl) (Steps.refl _) (argsL := [(.int p2), (.int p3), (.double (FP.i2d ((p4 >>> ((16 : Int32) &&& 31)).toInt8.toInt32))), (.double (FP.i2d ((p4 >>> ((24 : Int32) &&& 31)).toInt8.toInt32)))]) (rest := []) (lenOf pd_7 rfl) rfl (by show 2 * 0 + _ ≤ _; exact Nat.le_of_eq rfl) (hb hby at_119) (fun _ _ => ⟨rfl, rfl, (by decide : 7 + 0 ≤ _), (by decide : 20 + 0 ≤ _)⟩)
        dsimp only [Pt.U, Pt.locs, Pt.cells, Pt.slots] at X1667 l1667 y1667 z1667 st1667 hQ1667
        subst l1667 y1667 z1667
        obtain ⟨rfl, N1667q, K1667, o1667_0, o1667_1, o1667_2, o1667_3, o1667_4, o1667_5, o1667_6, o1667_7, o1667_8, o1667_9⟩ := hQ1667
        have N1667 := Fr.app N1486 N1667q
        have x1668 := x1487.keep K1667
        have x1669 := x1488.keep K1667 (ninS (Ne.symm ne1258) (ninS ne1257_0 (ninS ne1257_1 (ninS ne1257_2 nin0))))
        have x1670 := x1489.keep K1667 (ninS (Ne.symm ne1265) (ninS (Ne.symm ne1267) (ninS (Ne.symm ne1268) (ninS (Ne.symm ne1269) nin0))))
        have x1671 := x1490.keep K1667 (ninS (Ne.symm ne1284) (ninS (Ne.symm ne1286) (ninS (Ne.symm ne1287) (ninS (Ne.symm ne1288) nin0))))
        have sz1672 : n0 ≤ T1667.heap.size := Nat.le_trans sz1491 K1667.1
        obtain ⟨cq1673, kq1673, q1673a, q1673b, q1673c⟩ := isOf hZ rfl x1668
        obtain ⟨_, _, ⟨T1673, L1673, k1673, n1673⟩, -, X1673, ⟨Lc1673, hQ1673, l1673, y1673, z1673⟩, st1673⟩ := X1667.virtualBack hx (y := (⟨"com/example/rank60/rank60/FusedList$Explanations", "endDocument", "()V"⟩ : MethodName)) (z := (⟨"com/example/rank60/rank60/FusedList$Explanations", "endDocument", "()V"⟩ : MethodName)) hown (mvT hZ (own_wk hw 30 rfl)) (mvT hZ (own_wk hw 31 rfl)) (notFace_of_selects (args := #[]) (mvT hZ (own_wk hw 33 rfl))) (mvT hZ (own_wk hw 33 rfl)) (mvT hZ (own_wk hw 32 rfl)) (by decide) (backOf (W := 0) (rm4_0 l Z ag hw [] b1254 u0_1257 (2 : Int32) u1_1257 u2_1257 u4_1257 .null ku0_1257 (0 : Int32) (0 : Int32) (0 : Int32) T1667.heap n0 sz1672 x1668 o1667_5 o1667_4 o1667_6 o1667_0 o1667_1 o1667_2 o1667_3 x1669 ge_b1254 ge_u0_1257 ne1258) hZ (own_wk hw 34 rfl) (own_wk hw 2 rfl) (by decide) (by decide)) q1673a q1673c (g := (mkF m 130 (own_loc16 p0 p1 p2 p3 p4 p5 b1254 b1264 b1283) [(.ref b1254)])) rfl (by rw [hml]; rfl) (Steps.refl _) (argsL := []) (rest := []) (lenOf pd_2 rfl) rfl (by show 2 * 0 + _ ≤ _; exact Nat.le_of_eq rfl) (hb hby at_130) (fun _ _ => ⟨rfl, rfl, (by decide : 7 + 0 ≤ _), (by decide : 20 + 0 ≤ _)⟩)
        dsimp only [Pt.U, Pt.locs, Pt.cells, Pt.slots] at X1673 l1673 y1673 z1673 st1673 hQ1673
        subst l1673 y1673 z1673
        obtain ⟨rfl, N1673q, K1673, o1673_0, o1673_1, o1673_2, o1673_3, o1673_4, o1673_5, o1673_6, o1673_7⟩ := hQ1673
        have N1673 := Fr.app N1667 N1673q
        have x1674 := x1668.keep K1673
        have x1675 := x1670.keep K1673 (ninS (Ne.symm ne1265) (ninS (Ne.symm ne1266) nin0))
        have x1676 := x1671.keep K1673 (ninS (Ne.symm ne1284) (ninS (Ne.symm ne1285) nin0))
        have x1677 := o1667_7.keep K1673 (ninS (Ne.symm ne1259) (ninS (Ne.symm ne1257_0) nin0))
        have x1678 := o1667_8.keep K1673 (ninS (Ne.symm ne1260) (ninS (Ne.symm ne1257_1) nin0))
        have x1679 := o1667_9.keep K1673 (ninS (Ne.symm ne1261) (ninS (Ne.symm ne1257_2) nin0))
        have sz1680 : n0 ≤ T1673.heap.size := Nat.le_trans sz1672 K1673.1
        have cp1681 : ∀ target, own_S p e below T1673 (mkF m 135 (own_loc16 p0 p1 p2 p3 p4 p5 b1254 b1264 b1283) [(.ref b1254)]) target → own_S p e below s₁ (mkF m 0 (own_loc7 p0 p1 p2 p3 p4 p5) []) target := by
          intro target kt
          show own_S p e below s₁ (mkF m 0 (own_loc7 p0 p1 p2 p3 p4 p5) []) _
          refine cp1493 _ ?_
          show own_S p e below T1486 (mkF m 103 (own_loc16 p0 p1 p2 p3 p4 p5 b1254 b1264 b1283) [.int 1, (.int ((own_ushr p5 (1 : Int32)) % (3 : Int32)))]) _
          refine XS.icmpYes X1486.here hx rfl (pc0 := 103) (pc' := 111) rfl (hb hby at_103) rfl (feq hc1492).2 (by decide) (by decide) ?_
          show own_S p e below T1486 (mkF m 111 (own_loc16 p0 p1 p2 p3 p4 p5 b1254 b1264 b1283) []) _
          refine XS.aload X1486.here hx rfl (hb hby at_111) rfl rfl ?_
          show own_S p e below T1486 (mkF m 113 (own_loc16 p0 p1 p2 p3 p4 p5 b1254 b1264 b1283) [(.ref b1254)]) _
          refine XS.iloadN X1486.here hx rfl (hb hby at_113) rfl ?_
          show own_S p e below T1486 (mkF m 114 (own_loc16 p0 p1 p2 p3 p4 p5 b1254 b1264 b1283) [(.int p2), (.ref b1254)]) _
          refine XS.iloadN X1486.here hx rfl (hb hby at_114) rfl ?_
          show own_S p e below T1486 (mkF m 115 (own_loc16 p0 p1 p2 p3 p4 p5 b1254 b1264 b1283) [(.int p3), (.int p2), (.ref b1254)]) _
          refine XS.dload X1486.here hx rfl (hb hby at_115) rfl ?_
          show own_S p e below T1486 (mkF m 117 (own_loc16 p0 p1 p2 p3 p4 p5 b1254 b1264 b1283) [(.double (FP.i2d ((p4 >>> ((16 : Int32) &&& 31)).toInt8.toInt32))), (.int p3), (.int p2), (.ref b1254)]) _
          refine XS.dload X1486.here hx rfl (hb hby at_117) rfl ?_
          show own_S p e below T1486 (mkF m 119 (own_loc16 p0 p1 p2 p3 p4 p5 b1254 b1264 b1283) [(.double (FP.i2d ((p4 >>> ((24 : Int32) &&& 31)).toInt8.toInt32))), (.double (FP.i2d ((p4 >>> ((16 : Int32) &&& 31)).toInt8.toInt32))), (.int p3), (.int p2), (.ref b1254)]) _
          refine st1667.trans ?_
          show own_S p e below T1667 (mkF m 122 (own_loc16 p0 p1 p2 p3 p4 p5 b1254 b1264 b1283) []) _
          refine XS.iload X1667.here hx rfl (hb hby at_122) rfl ?_
          show own_S p e below T1667 (mkF m 124 (own_loc16 p0 p1 p2 p3 p4 p5 b1254 b1264 b1283) [(.int ((own_ushr p5 (1 : Int32)) % (3 : Int32)))]) _
          refine XS.iconst X1667.here hx rfl (hb hby at_124) ?_
          show own_S p e below T1667 (mkF m 125 (own_loc16 p0 p1 p2 p3 p4 p5 b1254 b1264 b1283) [.int 2, (.int ((own_ushr p5 (1 : Int32)) % (3 : Int32)))]) _
          refine XS.icmpNo X1667.here hx rfl (hb hby at_125) rfl (teq (show ((own_ushr p5 (1 : Int32)) % (3 : Int32)) = (2 : Int32) from (own_split p5 hc1304 hc1492))).2 ?_
          show own_S p e below T1667 (mkF m 128 (own_loc16 p0 p1 p2 p3 p4 p5 b1254 b1264 b1283) []) _
          refine XS.aload X1667.here hx rfl (hb hby at_128) rfl rfl ?_
          show own_S p e below T1667 (mkF m 130 (own_loc16 p0 p1 p2 p3 p4 p5 b1254 b1264 b1283) [(.ref b1254)]) _
          refine st1673.trans ?_
          show own_S p e below T1673 (mkF m 133 (own_loc16 p0 p1 p2 p3 p4 p5 b1254 b1264 b1283) []) _
          refine XS.aload X1673.here hx rfl (hb hby at_133) rfl rfl ?_
          exact kt
        obtain ⟨cq1682, kq1682, q1682a, q1682b, q1682c⟩ := isOf hZ rfl x1674
        obtain ⟨_, _, ⟨T1682, L1682, k1682, n1682⟩, -, X1682, ⟨Lc1682, hQ1682, l1682, y1682, z1682⟩, st1682⟩ := X1673.virtualBack hx (y := (⟨"com/example/rank60/rank60/FusedList$Explanations", "endDocument", "()V"⟩ : MethodName)) (z := (⟨"com/example/rank60/rank60/FusedList$Explanations", "endDocument", "()V"⟩ : MethodName)) hown (mvT hZ (own_wk hw 30 rfl)) (mvT hZ (own_wk hw 31 rfl)) (notFace_of_selects (args := #[]) (mvT hZ (own_wk hw 33 rfl))) (mvT hZ (own_wk hw 33 rfl)) (mvT hZ (own_wk hw 32 rfl)) (by decide) (backOf (W := 0) (rm4_1 l Z ag hw [] b1254 u0_1257 (2 : Int32) u1_1257 u2_1257 u4_1257 .null ku0_1257 (0 : Int32) (2 : Int32) (0 : Int32) T1673.heap n0 sz1680 x1674 o1673_0 o1673_1 o1673_2 o1673_3 o1673_4 o1673_5 o1673_6 o1673_7 ge_b1254 ge_u0_1257 ne1258) hZ (own_wk hw 34 rfl) (own_wk hw 2 rfl) (by decide) (by decide)) q1682a q1682c (g := (mkF m 135 (own_loc16 p0 p1 p2 p3 p4 p5 b1254 b1264 b1283) [(.ref b1254)])) rfl (by rw [hml]; rfl) (Steps.refl _) (argsL := []) (rest := []) (lenOf pd_2 rfl) rfl (by show 2 * 0 + _ ≤ _; exact Nat.le_of_eq rfl) (hb hby at_135) (fun _ _ => ⟨rfl, rfl, (by decide : 7 + 0 ≤ _), (by decide : 20 + 0 ≤ _)⟩)
        dsimp only [Pt.U, Pt.locs, Pt.cells, Pt.slots] at X1682 l1682 y1682 z1682 st1682 hQ1682
        subst l1682 y1682 z1682
        obtain ⟨rfl, N1682q, K1682, o1682_0, o1682_1, o1682_2, o1682_3, o1682_4, o1682_5, o1682_6, o1682_7⟩ := hQ1682
        have N1682 := Fr.app N1673 N1682q
        have x1683 := x1674.keep K1682
        have x1684 := x1675.keep K1682 (ninS (Ne.symm ne1265) (ninS (Ne.symm ne1266) nin0))
        have x1685 := x1676.keep K1682 (ninS (Ne.symm ne1284) (ninS (Ne.symm ne1285) nin0))
        have x1686 := x1677.keep K1682 (ninS (Ne.symm ne1259) (ninS (Ne.symm ne1257_0) nin0))
        have x1687 := x1678.keep K1682 (ninS (Ne.symm ne1260) (ninS (Ne.symm ne1257_1) nin0))
        have x1688 := x1679.keep K1682 (ninS (Ne.symm ne1261) (ninS (Ne.symm ne1257_2) nin0))
        have sz1689 : n0 ≤ T1682.heap.size := Nat.le_trans sz1680 K1682.1
        obtain ⟨T1690, h1690, X1690, e1690, E1690, A1690, D1690, -, st1690⟩ := newO X1682 hx hZ hown (own_wk hw 37 rfl) (own_wk hw 38 rfl) (own_wk hw 39 rfl) rfl (g := (mkF m 138 (own_loc16 p0 p1 p2 p3 p4 p5 b1254 b1264 b1283) [])) rfl (hb hby at_138) (by decide) (by decide)
        obtain ⟨b1690, g1690⟩ : ∃ z, z = T1682.heap.size := ⟨_, rfl⟩
        have ne1691 : b1254 ≠ b1690 := Nat.ne_of_lt (Nat.lt_of_lt_of_le x1683.lt (Nat.le_of_eq g1690.symm))
        have ne1692 : u0_1257 ≠ b1690 := Nat.ne_of_lt (Nat.lt_of_lt_of_le o1682_7.lt (Nat.le_of_eq g1690.symm))
        have ne1693 : u1_1257 ≠ b1690 := Nat.ne_of_lt (Nat.lt_of_lt_of_le x1686.lt (Nat.le_of_eq g1690.symm))
        have ne1694 : u2_1257 ≠ b1690 := Nat.ne_of_lt (Nat.lt_of_lt_of_le x1687.lt (Nat.le_of_eq g1690.symm))
        have ne1695 : u4_1257 ≠ b1690 := Nat.ne_of_lt (Nat.lt_of_lt_of_le x1688.lt (Nat.le_of_eq g1690.symm))
        have ne1696 : b1264 ≠ b1690 := Nat.ne_of_lt (Nat.lt_of_lt_of_le x1684.lt (Nat.le_of_eq g1690.symm))
        have ne1697 : b1283 ≠ b1690 := Nat.ne_of_lt (Nat.lt_of_lt_of_le x1685.lt (Nat.le_of_eq g1690.symm))
        have ge_b1690 : n0 ≤ b1690 := Nat.le_trans sz1689 (Nat.le_of_eq g1690.symm)
        rw [← g1690] at A1690 D1690 st1690
        have x1698 := x1683.ext E1690
        have x1699 := x1684.ext E1690
        have x1700 := x1685.ext E1690
        have x1701 := x1686.ext E1690
        have x1702 := x1687.ext E1690
        have x1703 := x1688.ext E1690
        have x1704 := o1682_0.ext E1690
        have x1705 := o1682_1.ext E1690
        have x1706 := o1682_2.ext E1690
        have x1707 := o1682_3.ext E1690
        have x1708 := o1682_4.ext E1690
        have x1709 := o1682_5.ext E1690
        have x1710 := o1682_6.ext E1690
        have x1711 := o1682_7.ext E1690
        have sz1712 : n0 ≤ h1690.size := Nat.le_trans sz1689 E1690.1
        have F1690_modCount : Fld Z h1690 b1690 "java/util/AbstractList" "modCount" "I" (.int (0 : Int32)) := D1690 (Or.inl (own_wk hw 59 rfl)) (ty := .int) (by decide)
        have F1690_ids : Fld Z h1690 b1690 "com/example/rank60/rank60/FusedList" "ids" "[Ljava/lang/String;" .null := D1690 (Or.inr (own_wk hw 61 rfl)) (ty := (.array (.object "java/lang/String"))) (by decide)
        have F1690_documents : Fld Z h1690 b1690 "com/example/rank60/rank60/FusedList" "documents" "[I" .null := D1690 (Or.inr (own_wk hw 63 rfl)) (ty := (.array .int)) (by decide)
        have F1690_numbering : Fld Z h1690 b1690 "com/example/rank60/rank60/FusedList" "numbering" "Lcom/example/rank60/rank60/DocumentNumbering;" .null := D1690 (Or.inr (own_wk hw 65 rfl)) (ty := (.object "com/example/rank60/rank60/DocumentNumbering")) (by decide)
        have F1690_scores : Fld Z h1690 b1690 "com/example/rank60/rank60/FusedList" "scores" "[D" .null := D1690 (Or.inr (own_wk hw 67 rfl)) (ty := (.array .double)) (by decide)
        have F1690_firstRank : Fld Z h1690 b1690 "com/example/rank60/rank60/FusedList" "firstRank" "I" (.int (0 : Int32)) := D1690 (Or.inr (own_wk hw 69 rfl)) (ty := .int) (by decide)
        have F1690_explanations : Fld Z h1690 b1690 "com/example/rank60/rank60/FusedList" "explanations" "Lcom/example/rank60/rank60/FusedList$Explanations;" .null := D1690 (Or.inr (own_wk hw 71 rfl)) (ty := (.object "com/example/rank60/rank60/FusedList$Explanations")) (by decide)
        obtain ⟨_, _, ⟨T1713, L1713, k1713, n1713⟩, -, X1713, ⟨Lc1713, hQ1713, l1713, y1713, z1713⟩, st1713⟩ := X1690.specialBack hx (y := (⟨"com/example/rank60/rank60/FusedList", "<init>", "([Ljava/lang/String;[DILcom/example/rank60/rank60/FusedList$Explanations;)V"⟩ : MethodName)) rfl hown (mvT hZ (own_wk hw 40 rfl)) (mvT hZ (own_wk hw 41 rfl)) (mvT hZ (own_wk hw 42 rfl)) (by decide) (backOf (W := 1) (rm5 l Z ag hw [] b1690 b1264 b1283 (1 : Int32) b1254  h1690 n0 sz1712 A1690 F1690_modCount F1690_ids F1690_documents F1690_numbering F1690_scores F1690_explanations F1690_firstRank ge_b1690) hZ (own_wk hw 42 rfl) (own_wk hw 39 rfl) (by decide) (by decide)) (g := (mkF m 149 (own_loc16 p0 p1 p2 p3 p4 p5 b1254 b1264 b1283) [(.ref b1254), .int 1, (.ref b1283), (.ref b1264), (.ref b1690), (.ref b1690)])) rfl (by rw [hml]; rfl) (Steps.refl _) (a := b1690) (argsL := [(.ref b1264), (.ref b1283), (.int (1 : Int32)), (.ref b1254)]) (rest := [(.ref b1690)]) (lenOf pd_12 rfl) rfl (by show 2 * 0 + _ ≤ _; exact Nat.le_of_eq rfl) (hb hby at_149) (fun _ _ => ⟨rfl, e1690, (by decide : 8 + 0 ≤ _), (by decide : 27 + 0 ≤ _)⟩)
        dsimp only [Pt.U, Pt.locs, Pt.cells, Pt.slots] at X1713 l1713 y1713 z1713 st1713 hQ1713
        subst l1713 y1713 z1713
        obtain ⟨rfl, N1713q, K1713, o1713_0, o1713_1⟩ := hQ1713
        have N1713 := Fr.app N1682 N1713q
        have x1714 := x1698.keep K1713
        have x1715 := x1699.keep K1713 (ninS ne1696 nin0)
        have x1716 := x1700.keep K1713 (ninS ne1697 nin0)
        have x1717 := x1701.keep K1713 (ninS ne1693 nin0)
        have x1718 := x1702.keep K1713 (ninS ne1694 nin0)
        have x1719 := x1703.keep K1713 (ninS ne1695 nin0)
        have x1720 := x1704.keep K1713 (ninS ne1691 nin0)
        have x1721 := x1705.keep K1713 (ninS ne1691 nin0)
        have x1722 := x1706.keep K1713 (ninS ne1691 nin0)
        have x1723 := x1707.keep K1713 (ninS ne1691 nin0)
        have x1724 := x1708.keep K1713 (ninS ne1691 nin0)
        have x1725 := x1709.keep K1713 (ninS ne1691 nin0)
        have x1726 := x1710.keep K1713 (ninS ne1691 nin0)
        have x1727 := x1711.keep K1713 (ninS ne1692 nin0)
        have x1728 := A1690.keep K1713
        have sz1729 : n0 ≤ T1713.heap.size := Nat.le_trans sz1712 K1713.1
        obtain ⟨cq1730, kq1730, q1730a, q1730b, q1730c⟩ := isOf hZ rfl x1728
        obtain ⟨_, _, ⟨T1730, L1730, k1730, n1730⟩, -, X1730, ⟨Lc1730, hQ1730, l1730, y1730, z1730⟩, st1730⟩ := X1713.virtualBack hx (y := (⟨"com/example/rank60/rank60/FusedList", "contributions", "(I)Ljava/util/List;"⟩ : MethodName)) (z := (⟨"com/example/rank60/rank60/FusedList", "contributions", "(I)Ljava/util/List;"⟩ : MethodName)) hown (mvT hZ (own_wk hw 72 rfl)) (mvT hZ (own_wk hw 73 rfl)) (notFace_of_selects (args := #[]) (mvT hZ (own_wk hw 75 rfl))) (mvT hZ (own_wk hw 75 rfl)) (mvT hZ (own_wk hw 74 rfl)) (by decide) (backOf (W := 0) (rm9_0 l Z ag hw [] b1690 b1283 k1283 (FP.l2d 0) (FP.l2d 0) b1254 u0_1257 ku0_1257 (0 : Int32) (2 : Int32) (2 : Int32) T1713.heap n0 sz1729 x1728 o1713_0 x1716 o1713_1 x1714 x1720 x1727) hZ (own_wk hw 76 rfl) (own_wk hw 39 rfl) (by decide) (by decide)) q1730a q1730c (g := (mkF m 157 (own_loc27 p0 p1 p2 p3 p4 p5 b1254 b1264 b1283 b1690) [.int 0, (.ref b1690)])) rfl (by rw [hml]; rfl) (Steps.refl _) (argsL := [(.int (0 : Int32))]) (rest := []) (lenOf pd_5 rfl) rfl (by show 2 * 0 + _ ≤ _; exact Nat.le_of_eq rfl) (hb hby at_157) (fun _ _ => ⟨rfl, rfl, (by decide : 8 + 1 ≤ _), (by decide : 27 + 4 ≤ _)⟩)
        dsimp only [Pt.U, Pt.locs, Pt.cells, Pt.slots] at X1730 l1730 y1730 z1730 st1730 hQ1730
        subst l1730 y1730 z1730
        obtain ⟨r1730, rfl, N1730q, K1730, ge_r1730, gq_r1730, o1730_0, o1730_1, o1730_2, o1730_3⟩ := hQ1730
        have N1730 := Fr.app N1713 N1730q
        have x1731 := x1714.keep K1730
        have x1732 := x1715.keep K1730 nin0
        have x1733 := x1716.keep K1730 nin0
        have x1734 := x1717.keep K1730 nin0
        have x1735 := x1718.keep K1730 nin0
        have x1736 := x1719.keep K1730 nin0
        have x1737 := x1720.keep K1730 nin0
        have x1738 := x1721.keep K1730 nin0
        have x1739 := x1722.keep K1730 nin0
        have x1740 := x1723.keep K1730 nin0
        have x1741 := x1724.keep K1730 nin0
        have x1742 := x1725.keep K1730 nin0
        have x1743 := x1726.keep K1730 nin0
        have x1744 := x1727.keep K1730 nin0
        have x1745 := x1728.keep K1730
        have x1746 := o1713_0.keep K1730 nin0
        have x1747 := o1713_1.keep K1730 nin0
        have sz1748 : n0 ≤ T1730.heap.size := Nat.le_trans sz1729 K1730.1
        have cp1749 : ∀ target, own_S p e below T1730 (mkF m 165 (own_loc28 p0 p1 p2 p3 p4 p5 b1254 b1264 b1283 b1690 r1730) [.int 1, (.ref b1690)]) target → own_S p e below s₁ (mkF m 0 (own_loc7 p0 p1 p2 p3 p4 p5) []) target := by
          intro target kt
          show own_S p e below s₁ (mkF m 0 (own_loc7 p0 p1 p2 p3 p4 p5) []) _
          refine cp1681 _ ?_
          show own_S p e below T1673 (mkF m 135 (own_loc16 p0 p1 p2 p3 p4 p5 b1254 b1264 b1283) [(.ref b1254)]) _
          refine st1682.trans ?_
          show own_S p e below T1682 (mkF m 138 (own_loc16 p0 p1 p2 p3 p4 p5 b1254 b1264 b1283) []) _
          refine st1690 _ ?_
          show own_S p e below T1690 (mkF m 141 (own_loc16 p0 p1 p2 p3 p4 p5 b1254 b1264 b1283) [(.ref b1690)]) _
          refine XS.dup X1690.here hx rfl (hb hby at_141) rfl rfl ?_
          show own_S p e below T1690 (mkF m 142 (own_loc16 p0 p1 p2 p3 p4 p5 b1254 b1264 b1283) [(.ref b1690), (.ref b1690)]) _
          refine XS.aload X1690.here hx rfl (hb hby at_142) rfl rfl ?_
          show own_S p e below T1690 (mkF m 144 (own_loc16 p0 p1 p2 p3 p4 p5 b1254 b1264 b1283) [(.ref b1264), (.ref b1690), (.ref b1690)]) _
          refine XS.aload X1690.here hx rfl (hb hby at_144) rfl rfl ?_
          show own_S p e below T1690 (mkF m 146 (own_loc16 p0 p1 p2 p3 p4 p5 b1254 b1264 b1283) [(.ref b1283), (.ref b1264), (.ref b1690), (.ref b1690)]) _
          refine XS.iconst X1690.here hx rfl (hb hby at_146) ?_
          show own_S p e below T1690 (mkF m 147 (own_loc16 p0 p1 p2 p3 p4 p5 b1254 b1264 b1283) [.int 1, (.ref b1283), (.ref b1264), (.ref b1690), (.ref b1690)]) _
          refine XS.aload X1690.here hx rfl (hb hby at_147) rfl rfl ?_
          show own_S p e below T1690 (mkF m 149 (own_loc16 p0 p1 p2 p3 p4 p5 b1254 b1264 b1283) [(.ref b1254), .int 1, (.ref b1283), (.ref b1264), (.ref b1690), (.ref b1690)]) _
          refine st1713.trans ?_
          show own_S p e below T1713 (mkF m 152 (own_loc16 p0 p1 p2 p3 p4 p5 b1254 b1264 b1283) [(.ref b1690)]) _
          refine XS.astore X1713.here hx rfl (hb hby at_152) rfl rfl (l' := (own_loc27 p0 p1 p2 p3 p4 p5 b1254 b1264 b1283 b1690)) rfl ?_
          show own_S p e below T1713 (mkF m 154 (own_loc27 p0 p1 p2 p3 p4 p5 b1254 b1264 b1283 b1690) []) _
          refine XS.aload X1713.here hx rfl (hb hby at_154) rfl rfl ?_
          show own_S p e below T1713 (mkF m 156 (own_loc27 p0 p1 p2 p3 p4 p5 b1254 b1264 b1283 b1690) [(.ref b1690)]) _
          refine XS.iconst X1713.here hx rfl (hb hby at_156) ?_
          show own_S p e below T1713 (mkF m 157 (own_loc27 p0 p1 p2 p3 p4 p5 b1254 b1264 b1283 b1690) [.int 0, (.ref b1690)]) _
          refine st1730.trans ?_
          show own_S p e below T1730 (mkF m 160 (own_loc27 p0 p1 p2 p3 p4 p5 b1254 b1264 b1283 b1690) [(.ref r1730)]) _
          refine XS.astore X1730.here hx rfl (hb hby at_160) rfl rfl (l' := (own_loc28 p0 p1 p2 p3 p4 p5 b1254 b1264 b1283 b1690 r1730)) rfl ?_
          show own_S p e below T1730 (mkF m 162 (own_loc28 p0 p1 p2 p3 p4 p5 b1254 b1264 b1283 b1690 r1730) []) _
          refine XS.aload X1730.here hx rfl (hb hby at_162) rfl rfl ?_
          show own_S p e below T1730 (mkF m 164 (own_loc28 p0 p1 p2 p3 p4 p5 b1254 b1264 b1283 b1690 r1730) [(.ref b1690)]) _
          refine XS.iconst X1730.here hx rfl (hb hby at_164) ?_
          exact kt
        obtain ⟨cq1750, kq1750, q1750a, q1750b, q1750c⟩ := isOf hZ rfl x1745
        obtain ⟨_, _, ⟨T1750, L1750, k1750, n1750⟩, -, X1750, ⟨Lc1750, hQ1750, l1750, y1750, z1750⟩, st1750⟩ := X1730.virtualBack hx (y := (⟨"com/example/rank60/rank60/FusedList", "contributions", "(I)Ljava/util/List;"⟩ : MethodName)) (z := (⟨"com/example/rank60/rank60/FusedList", "contributions", "(I)Ljava/util/List;"⟩ : MethodName)) hown (mvT hZ (own_wk hw 72 rfl)) (mvT hZ (own_wk hw 73 rfl)) (notFace_of_selects (args := #[]) (mvT hZ (own_wk hw 75 rfl))) (mvT hZ (own_wk hw 75 rfl)) (mvT hZ (own_wk hw 74 rfl)) (by decide) (backOf (W := 0) (rm9_1 l Z ag hw [] b1690 b1283 k1283 (FP.l2d 0) (FP.l2d 0) b1254 u0_1257 ku0_1257 (0 : Int32) (2 : Int32) (2 : Int32) T1730.heap n0 sz1748 x1745 x1746 x1733 x1747 x1731 x1737 x1744) hZ (own_wk hw 76 rfl) (own_wk hw 39 rfl) (by decide) (by decide)) q1750a q1750c (g := (mkF m 165 (own_loc28 p0 p1 p2 p3 p4 p5 b1254 b1264 b1283 b1690 r1730) [.int 1, (.ref b1690)])) rfl (by rw [hml]; rfl) (Steps.refl _) (argsL := [(.int (1 : Int32))]) (rest := []) (lenOf pd_5 rfl) rfl (by show 2 * 0 + _ ≤ _; exact Nat.le_of_eq rfl) (hb hby at_165) (fun _ _ => ⟨rfl, rfl, (by decide : 9 + 1 ≤ _), (by decide : 31 + 4 ≤ _)⟩)
        dsimp only [Pt.U, Pt.locs, Pt.cells, Pt.slots] at X1750 l1750 y1750 z1750 st1750 hQ1750
        subst l1750 y1750 z1750
        obtain ⟨r1750, rfl, N1750q, K1750, ge_r1750, gq_r1750, o1750_0, o1750_1, o1750_2, o1750_3⟩ := hQ1750
        have N1750 := Fr.app N1730 N1750q
        have x1751 := x1731.keep K1750
        have x1752 := x1732.keep K1750 nin0
        have x1753 := x1733.keep K1750 nin0
        have x1754 := x1734.keep K1750 nin0
        have x1755 := x1735.keep K1750 nin0
        have x1756 := x1736.keep K1750 nin0
        have x1757 := x1737.keep K1750 nin0
        have x1758 := x1738.keep K1750 nin0
        have x1759 := x1739.keep K1750 nin0
        have x1760 := x1740.keep K1750 nin0
        have x1761 := x1741.keep K1750 nin0
        have x1762 := x1742.keep K1750 nin0
        have x1763 := x1743.keep K1750 nin0
        have x1764 := x1744.keep K1750 nin0
        have x1765 := x1745.keep K1750
        have x1766 := x1746.keep K1750 nin0
        have x1767 := x1747.keep K1750 nin0
        have x1768 := o1730_0.keep K1750
        have x1769 := o1730_1.keep K1750 nin0
        have x1770 := o1730_2.keep K1750 nin0
        have x1771 := o1730_3.keep K1750 nin0
        have sz1772 : n0 ≤ T1750.heap.size := Nat.le_trans sz1748 K1750.1
        obtain ⟨cq1773, kq1773, q1773a, q1773b, q1773c⟩ := isOf hZ rfl x1768
        obtain ⟨_, _, ⟨T1773, L1773, k1773, n1773⟩, -, X1773, ⟨Lc1773, hQ1773, l1773, y1773, z1773⟩, st1773⟩ := X1750.interfaceBack hx (xi := (⟨"java/util/List", "size", "()I"⟩ : MethodName)) (y := (⟨"com/example/rank60/rank60/FusedList$Explanations$DocumentContributions", "size", "()I"⟩ : MethodName)) hown (mvT hZ (own_wk hw 104 rfl)) (mvT hZ (own_wk hw 105 rfl)) (mvT hZ (own_wk hw 106 rfl)) (mvT hZ (own_wk hw 107 rfl)) (mvT hZ (own_wk hw 108 rfl)) (mvT hZ (own_wk hw 109 rfl)) (mvT hZ (own_wk hw 110 rfl)) (mvT hZ (own_wk hw 111 rfl)) (by decide) (backOf (W := 0) (rm14 l Z ag hw [] r1730 ((2 : Int32) - (0 : Int32)) T1750.heap n0 sz1772 x1771) hZ (own_wk hw 112 rfl) (own_wk hw 91 rfl) (by decide) (by decide)) q1773a q1773b q1773c (g := (mkF m 172 (own_loc29 p0 p1 p2 p3 p4 p5 b1254 b1264 b1283 b1690 r1730 r1750) [(.ref r1730)])) rfl (by rw [hml]; rfl) (Steps.refl _) (argsL := []) (rest := []) (lenOf pd_1 rfl) rfl (by show 2 * 0 + _ ≤ _; exact Nat.le_of_eq rfl) (hb hby at_172) (fun _ _ => ⟨rfl, rfl, (by decide : 10 + 0 ≤ _), (by decide : 35 + 0 ≤ _)⟩)
        dsimp only [Pt.U, Pt.locs, Pt.cells, Pt.slots] at X1773 l1773 y1773 z1773 st1773 hQ1773
        subst l1773 y1773 z1773
        obtain ⟨rfl, N1773q, e1773⟩ := hQ1773
        have N1773 := Fr.app N1750 N1773q
        obtain ⟨cq1774, kq1774, q1774a, q1774b, q1774c⟩ := isOf hZ e1773 o1750_0
        obtain ⟨_, _, ⟨T1774, L1774, k1774, n1774⟩, -, X1774, ⟨Lc1774, hQ1774, l1774, y1774, z1774⟩, st1774⟩ := X1773.interfaceBack hx (xi := (⟨"java/util/List", "size", "()I"⟩ : MethodName)) (y := (⟨"com/example/rank60/rank60/FusedList$Explanations$DocumentContributions", "size", "()I"⟩ : MethodName)) hown (mvT hZ (own_wk hw 104 rfl)) (mvT hZ (own_wk hw 105 rfl)) (mvT hZ (own_wk hw 106 rfl)) (mvT hZ (own_wk hw 107 rfl)) (mvT hZ (own_wk hw 108 rfl)) (mvT hZ (own_wk hw 109 rfl)) (mvT hZ (own_wk hw 110 rfl)) (mvT hZ (own_wk hw 111 rfl)) (by decide) (backOf (W := 0) (rm14 l Z ag hw [] r1750 ((2 : Int32) - (2 : Int32)) T1750.heap n0 sz1772 o1750_3) hZ (own_wk hw 112 rfl) (own_wk hw 91 rfl) (by decide) (by decide)) q1774a q1774b q1774c (g := (mkF m 184 (own_loc29 p0 p1 p2 p3 p4 p5 b1254 b1264 b1283 b1690 r1730 r1750) [(.ref r1750)])) rfl (by rw [hml]; rfl) (Steps.refl _) (argsL := []) (rest := []) (lenOf pd_1 rfl) rfl (by show 2 * 0 + _ ≤ _; exact Nat.le_of_eq rfl) (hb hby at_184) (fun _ _ => ⟨rfl, e1773, (by decide : 10 + 0 ≤ _), (by decide : 35 + 0 ≤ _)⟩)
        dsimp only [Pt.U, Pt.locs, Pt.cells, Pt.slots] at X1774 l1774 y1774 z1774 st1774 hQ1774
        subst l1774 y1774 z1774
        obtain ⟨rfl, N1774q, e1774⟩ := hQ1774
        have N1774 := Fr.app N1773 N1774q
        have cp1775 : ∀ target, own_S p e below T1774 (mkF m 270 (own_loc29 p0 p1 p2 p3 p4 p5 b1254 b1264 b1283 b1690 r1730 r1750) [.int 0, (.ref r1730)]) target → own_S p e below s₁ (mkF m 0 (own_loc7 p0 p1 p2 p3 p4 p5) []) target := by
          intro target kt
          show own_S p e below s₁ (mkF m 0 (own_loc7 p0 p1 p2 p3 p4 p5) []) _
          refine cp1749 _ ?_
          show own_S p e below T1730 (mkF m 165 (own_loc28 p0 p1 p2 p3 p4 p5 b1254 b1264 b1283 b1690 r1730) [.int 1, (.ref b1690)]) _
          refine st1750.trans ?_
          show own_S p e below T1750 (mkF m 168 (own_loc28 p0 p1 p2 p3 p4 p5 b1254 b1264 b1283 b1690 r1730) [(.ref r1750)]) _
          refine XS.astore X1750.here hx rfl (hb hby at_168) rfl rfl (l' := (own_loc29 p0 p1 p2 p3 p4 p5 b1254 b1264 b1283 b1690 r1730 r1750)) rfl ?_
          show own_S p e below T1750 (mkF m 170 (own_loc29 p0 p1 p2 p3 p4 p5 b1254 b1264 b1283 b1690 r1730 r1750) []) _
          refine XS.aload X1750.here hx rfl (hb hby at_170) rfl rfl ?_
          show own_S p e below T1750 (mkF m 172 (own_loc29 p0 p1 p2 p3 p4 p5 b1254 b1264 b1283 b1690 r1730 r1750) [(.ref r1730)]) _
          refine st1773.trans ?_
          show own_S p e below T1773 (mkF m 177 (own_loc29 p0 p1 p2 p3 p4 p5 b1254 b1264 b1283 b1690 r1730 r1750) [(.int ((2 : Int32) - (0 : Int32)))]) _
          refine XS.iload X1773.here hx rfl (hb hby at_177) rfl ?_
          show own_S p e below T1773 (mkF m 179 (own_loc29 p0 p1 p2 p3 p4 p5 b1254 b1264 b1283 b1690 r1730 r1750) [(.int ((own_ushr p5 (1 : Int32)) % (3 : Int32))), (.int ((2 : Int32) - (0 : Int32)))]) _
          refine XS.icmpNo X1773.here hx rfl (hb hby at_179) rfl (teq (show ((2 : Int32) - (0 : Int32)) = ((own_ushr p5 (1 : Int32)) % (3 : Int32)) from (by rw [(own_split p5 hc1304 hc1492)]; first | done | decide))).2 ?_
          show own_S p e below T1773 (mkF m 182 (own_loc29 p0 p1 p2 p3 p4 p5 b1254 b1264 b1283 b1690 r1730 r1750) []) _
          refine XS.aload X1773.here hx rfl (hb hby at_182) rfl rfl ?_
          show own_S p e below T1773 (mkF m 184 (own_loc29 p0 p1 p2 p3 p4 p5 b1254 b1264 b1283 b1690 r1730 r1750) [(.ref r1750)]) _
          refine st1774.trans ?_
          show own_S p e below T1774 (mkF m 189 (own_loc29 p0 p1 p2 p3 p4 p5 b1254 b1264 b1283 b1690 r1730 r1750) [(.int ((2 : Int32) - (2 : Int32)))]) _
          refine XS.iconst X1774.here hx rfl (hb hby at_189) ?_
          show own_S p e below T1774 (mkF m 190 (own_loc29 p0 p1 p2 p3 p4 p5 b1254 b1264 b1283 b1690 r1730 r1750) [.int 2, (.int ((2 : Int32) - (2 : Int32)))]) _
          refine XS.iload X1774.here hx rfl (hb hby at_190) rfl ?_
          show own_S p e below T1774 (mkF m 192 (own_loc29 p0 p1 p2 p3 p4 p5 b1254 b1264 b1283 b1690 r1730 r1750) [(.int ((own_ushr p5 (1 : Int32)) % (3 : Int32))), .int 2, (.int ((2 : Int32) - (2 : Int32)))]) _
          refine XS.isub X1774.here hx rfl (hb hby at_192) rfl ?_
          show own_S p e below T1774 (mkF m 193 (own_loc29 p0 p1 p2 p3 p4 p5 b1254 b1264 b1283 b1690 r1730 r1750) [(.int ((2 : Int32) - ((own_ushr p5 (1 : Int32)) % (3 : Int32)))), (.int ((2 : Int32) - (2 : Int32)))]) _
          refine XS.icmpYes X1774.here hx rfl (pc0 := 193) (pc' := 198) rfl (hb hby at_193) rfl (teq (show ((2 : Int32) - (2 : Int32)) = ((2 : Int32) - ((own_ushr p5 (1 : Int32)) % (3 : Int32))) from (by rw [(own_split p5 hc1304 hc1492)]; first | done | decide))).1 (by decide) (by decide) ?_
          show own_S p e below T1774 (mkF m 198 (own_loc29 p0 p1 p2 p3 p4 p5 b1254 b1264 b1283 b1690 r1730 r1750) []) _
          refine XS.iload X1774.here hx rfl (hb hby at_198) rfl ?_
          show own_S p e below T1774 (mkF m 200 (own_loc29 p0 p1 p2 p3 p4 p5 b1254 b1264 b1283 b1690 r1730 r1750) [(.int ((own_ushr p5 (1 : Int32)) % (3 : Int32)))]) _
          refine XS.ifYes X1774.here hx rfl (pc0 := 200) (pc' := 232) rfl (hb hby at_200) rfl ((if0 _ _).trans (feq hc1304).2) (by decide) (by decide) ?_
          show own_S p e below T1774 (mkF m 232 (own_loc29 p0 p1 p2 p3 p4 p5 b1254 b1264 b1283 b1690 r1730 r1750) []) _
          refine XS.iload X1774.here hx rfl (hb hby at_232) rfl ?_
          show own_S p e below T1774 (mkF m 234 (own_loc29 p0 p1 p2 p3 p4 p5 b1254 b1264 b1283 b1690 r1730 r1750) [(.int ((own_ushr p5 (1 : Int32)) % (3 : Int32)))]) _
          refine XS.iconst X1774.here hx rfl (hb hby at_234) ?_
          show own_S p e below T1774 (mkF m 235 (own_loc29 p0 p1 p2 p3 p4 p5 b1254 b1264 b1283 b1690 r1730 r1750) [.int 1, (.int ((own_ushr p5 (1 : Int32)) % (3 : Int32)))]) _
          refine XS.icmpYes X1774.here hx rfl (pc0 := 235) (pc' := 267) rfl (hb hby at_235) rfl (feq hc1492).2 (by decide) (by decide) ?_
          show own_S p e below T1774 (mkF m 267 (own_loc29 p0 p1 p2 p3 p4 p5 b1254 b1264 b1283 b1690 r1730 r1750) []) _
          refine XS.aload X1774.here hx rfl (hb hby at_267) rfl rfl ?_
          show own_S p e below T1774 (mkF m 269 (own_loc29 p0 p1 p2 p3 p4 p5 b1254 b1264 b1283 b1690 r1730 r1750) [(.ref r1730)]) _
          refine XS.iconst X1774.here hx rfl (hb hby at_269) ?_
          exact kt
        obtain ⟨cq1776, kq1776, q1776a, q1776b, q1776c⟩ := isOf hZ e1774 x1768
        obtain ⟨_, _, ⟨T1776, L1776, k1776, n1776⟩, -, X1776, ⟨Lc1776, hQ1776, l1776, y1776, z1776⟩, st1776⟩ := X1774.interfaceBack hx (xi := (⟨"java/util/List", "get", "(I)Ljava/lang/Object;"⟩ : MethodName)) (y := (⟨"com/example/rank60/rank60/FusedList$Explanations$DocumentContributions", "get", "(I)Ljava/lang/Object;"⟩ : MethodName)) hown (mvT hZ (own_wk hw 113 rfl)) (mvT hZ (own_wk hw 114 rfl)) (mvT hZ (own_wk hw 115 rfl)) (mvT hZ (own_wk hw 116 rfl)) (mvT hZ (own_wk hw 117 rfl)) (mvT hZ (own_wk hw 118 rfl)) (mvT hZ (own_wk hw 119 rfl)) (mvT hZ (own_wk hw 111 rfl)) (by decide) (backOf (W := 0) (rm15_000 l Z ag hw [] r1730 ((2 : Int32) - (0 : Int32)) b1254 u1_1257 u2_1257 u4_1257 ku1_1257 p0 p2 ku2_1257 p1 p3 ku4_1257 (FP.i2d ((p4 >>> ((8 : Int32) &&& 31)).toInt8.toInt32)) (FP.i2d ((p4 >>> ((24 : Int32) &&& 31)).toInt8.toInt32)) T1750.heap n0 sz1772 x1768 x1770 x1771 x1769 x1751 x1760 x1761 x1763 x1762 x1754 x1755 x1756 (by decide)) hZ (own_wk hw 120 rfl) (own_wk hw 91 rfl) (by decide) (by decide)) q1776a q1776b q1776c (g := (mkF m 270 (own_loc29 p0 p1 p2 p3 p4 p5 b1254 b1264 b1283 b1690 r1730 r1750) [.int 0, (.ref r1730)])) rfl (by rw [hml]; rfl) (Steps.refl _) (argsL := [(.int (0 : Int32))]) (rest := []) (lenOf pd_4 rfl) rfl (by show 2 * 0 + _ ≤ _; exact Nat.le_of_eq rfl) (hb hby at_270) (fun _ _ => ⟨rfl, e1774, (by decide : 10 + 1 ≤ _), (by decide : 35 + 4 ≤ _)⟩)
        dsimp only [Pt.U, Pt.locs, Pt.cells, Pt.slots] at X1776 l1776 y1776 z1776 st1776 hQ1776
        subst l1776 y1776 z1776
        obtain ⟨r1776, rfl, N1776q, K1776, ge_r1776, gq_r1776, o1776_0, o1776_1, o1776_2, o1776_3, o1776_4⟩ := hQ1776
        have N1776 := Fr.app N1774 N1776q
        have x1777 := x1751.keep K1776
        have x1778 := x1752.keep K1776 nin0
        have x1779 := x1753.keep K1776 nin0
        have x1780 := x1754.keep K1776 nin0
        have x1781 := x1755.keep K1776 nin0
        have x1782 := x1756.keep K1776 nin0
        have x1783 := x1757.keep K1776 nin0
        have x1784 := x1758.keep K1776 nin0
        have x1785 := x1759.keep K1776 nin0
        have x1786 := x1760.keep K1776 nin0
        have x1787 := x1761.keep K1776 nin0
        have x1788 := x1762.keep K1776 nin0
        have x1789 := x1763.keep K1776 nin0
        have x1790 := x1764.keep K1776 nin0
        have x1791 := x1765.keep K1776
        have x1792 := x1766.keep K1776 nin0
        have x1793 := x1767.keep K1776 nin0
        have x1794 := x1768.keep K1776
        have x1795 := x1769.keep K1776 nin0
        have x1796 := x1770.keep K1776 nin0
        have x1797 := x1771.keep K1776 nin0
        have x1798 := o1750_0.keep K1776
        have x1799 := o1750_1.keep K1776 nin0
        have x1800 := o1750_2.keep K1776 nin0
        have x1801 := o1750_3.keep K1776 nin0
        have sz1802 : n0 ≤ T1776.heap.size := Nat.le_trans sz1772 K1776.1
        obtain ⟨T1803, X1803, e1803, st1803⟩ := castY X1776 hx hZ hown (own_wk hw 151 rfl) rfl (Ins.self o1776_0) (g := (mkF m 275 (own_loc29 p0 p1 p2 p3 p4 p5 b1254 b1264 b1283 b1690 r1730 r1750) [(.ref r1776)])) rfl rfl (hb hby at_275)
        obtain ⟨cq1804, kq1804, q1804a, q1804b, q1804c⟩ := isOf hZ e1803 x1794
        obtain ⟨_, _, ⟨T1804, L1804, k1804, n1804⟩, -, X1804, ⟨Lc1804, hQ1804, l1804, y1804, z1804⟩, st1804⟩ := X1803.interfaceBack hx (xi := (⟨"java/util/List", "get", "(I)Ljava/lang/Object;"⟩ : MethodName)) (y := (⟨"com/example/rank60/rank60/FusedList$Explanations$DocumentContributions", "get", "(I)Ljava/lang/Object;"⟩ : MethodName)) hown (mvT hZ (own_wk hw 113 rfl)) (mvT hZ (own_wk hw 114 rfl)) (mvT hZ (own_wk hw 115 rfl)) (mvT hZ (own_wk hw 116 rfl)) (mvT hZ (own_wk hw 117 rfl)) (mvT hZ (own_wk hw 118 rfl)) (mvT hZ (own_wk hw 119 rfl)) (mvT hZ (own_wk hw 111 rfl)) (by decide) (backOf (W := 0) (rm15_100 l Z ag hw [] r1730 ((2 : Int32) - (0 : Int32)) b1254 u1_1257 u2_1257 u4_1257 ku1_1257 p0 p2 ku2_1257 p1 p3 ku4_1257 (FP.i2d ((p4 >>> ((8 : Int32) &&& 31)).toInt8.toInt32)) (FP.i2d ((p4 >>> ((24 : Int32) &&& 31)).toInt8.toInt32)) T1776.heap n0 sz1802 x1794 x1796 x1797 x1795 x1777 x1786 x1787 x1789 x1788 x1780 x1781 x1782 (by decide)) hZ (own_wk hw 120 rfl) (own_wk hw 91 rfl) (by decide) (by decide)) q1804a q1804b q1804c (g := (mkF m 283 (own_loc30 p0 p1 p2 p3 p4 p5 b1254 b1264 b1283 b1690 r1730 r1750 r1776) [.int 1, (.ref r1730)])) rfl (by rw [hml]; rfl) (Steps.refl _) (argsL := [(.int (1 : Int32))]) (rest := []) (lenOf pd_4 rfl) rfl (by show 2 * 0 + _ ≤ _; exact Nat.le_of_eq rfl) (hb hby at_283) (fun _ _ => ⟨rfl, e1803, (by decide : 11 + 1 ≤ _), (by decide : 39 + 4 ≤ _)⟩)
        dsimp only [Pt.U, Pt.locs, Pt.cells, Pt.slots] at X1804 l1804 y1804 z1804 st1804 hQ1804
        subst l1804 y1804 z1804
        obtain ⟨r1804, rfl, N1804q, K1804, ge_r1804, gq_r1804, o1804_0, o1804_1, o1804_2, o1804_3, o1804_4⟩ := hQ1804
        have N1804 := Fr.app N1776 N1804q
        have x1805 := x1777.keep K1804
        have x1806 := x1778.keep K1804 nin0
        have x1807 := x1779.keep K1804 nin0
        have x1808 := x1780.keep K1804 nin0
        have x1809 := x1781.keep K1804 nin0
        have x1810 := x1782.keep K1804 nin0
        have x1811 := x1783.keep K1804 nin0
        have x1812 := x1784.keep K1804 nin0
        have x1813 := x1785.keep K1804 nin0
        have x1814 := x1786.keep K1804 nin0
        have x1815 := x1787.keep K1804 nin0
        have x1816 := x1788.keep K1804 nin0
        have x1817 := x1789.keep K1804 nin0
        have x1818 := x1790.keep K1804 nin0
        have x1819 := x1791.keep K1804
        have x1820 := x1792.keep K1804 nin0
        have x1821 := x1793.keep K1804 nin0
        have x1822 := x1794.keep K1804
        have x1823 := x1795.keep K1804 nin0
        have x1824 := x1796.keep K1804 nin0
        have x1825 := x1797.keep K1804 nin0
        have x1826 := x1798.keep K1804
        have x1827 := x1799.keep K1804 nin0
        have x1828 := x1800.keep K1804 nin0
        have x1829 := x1801.keep K1804 nin0
        have x1830 := o1776_0.keep K1804
        have x1831 := o1776_1.keep K1804 nin0
        have x1832 := o1776_2.keep K1804 nin0
        have x1833 := o1776_3.keep K1804 nin0
        have x1834 := o1776_4.keep K1804 nin0
        have sz1835 : n0 ≤ T1804.heap.size := Nat.le_trans sz1802 K1804.1
        obtain ⟨T1836, X1836, e1836, st1836⟩ := castY X1804 hx hZ hown (own_wk hw 151 rfl) rfl (Ins.self o1804_0) (g := (mkF m 288 (own_loc30 p0 p1 p2 p3 p4 p5 b1254 b1264 b1283 b1690 r1730 r1750 r1776) [(.ref r1804)])) rfl rfl (hb hby at_288)
        have cp1837 : ∀ target, own_S p e below T1836 (mkF m 303 (own_loc31 p0 p1 p2 p3 p4 p5 b1254 b1264 b1283 b1690 r1730 r1750 r1776 r1804) [.int 0, (.double (FP.i2d ((p4 >>> ((8 : Int32) &&& 31)).toInt8.toInt32))), (.double (FP.i2d (p4.toInt8.toInt32))), (.int p1), (.int p0), (.ref r1776)]) target → own_S p e below s₁ (mkF m 0 (own_loc7 p0 p1 p2 p3 p4 p5) []) target := by
          intro target kt
          show own_S p e below s₁ (mkF m 0 (own_loc7 p0 p1 p2 p3 p4 p5) []) _
          refine cp1775 _ ?_
          show own_S p e below T1774 (mkF m 270 (own_loc29 p0 p1 p2 p3 p4 p5 b1254 b1264 b1283 b1690 r1730 r1750) [.int 0, (.ref r1730)]) _
          refine st1776.trans ?_
          show own_S p e below T1776 (mkF m 275 (own_loc29 p0 p1 p2 p3 p4 p5 b1254 b1264 b1283 b1690 r1730 r1750) [(.ref r1776)]) _
          refine st1803 _ ?_
          show own_S p e below T1803 (mkF m 278 (own_loc29 p0 p1 p2 p3 p4 p5 b1254 b1264 b1283 b1690 r1730 r1750) [(.ref r1776)]) _
          refine XS.astore X1803.here hx rfl (hb hby at_278) rfl rfl (l' := (own_loc30 p0 p1 p2 p3 p4 p5 b1254 b1264 b1283 b1690 r1730 r1750 r1776)) rfl ?_
          show own_S p e below T1803 (mkF m 280 (own_loc30 p0 p1 p2 p3 p4 p5 b1254 b1264 b1283 b1690 r1730 r1750 r1776) []) _
          refine XS.aload X1803.here hx rfl (hb hby at_280) rfl rfl ?_
          show own_S p e below T1803 (mkF m 282 (own_loc30 p0 p1 p2 p3 p4 p5 b1254 b1264 b1283 b1690 r1730 r1750 r1776) [(.ref r1730)]) _
          refine XS.iconst X1803.here hx rfl (hb hby at_282) ?_
          show own_S p e below T1803 (mkF m 283 (own_loc30 p0 p1 p2 p3 p4 p5 b1254 b1264 b1283 b1690 r1730 r1750 r1776) [.int 1, (.ref r1730)]) _
          refine st1804.trans ?_
          show own_S p e below T1804 (mkF m 288 (own_loc30 p0 p1 p2 p3 p4 p5 b1254 b1264 b1283 b1690 r1730 r1750 r1776) [(.ref r1804)]) _
          refine st1836 _ ?_
          show own_S p e below T1836 (mkF m 291 (own_loc30 p0 p1 p2 p3 p4 p5 b1254 b1264 b1283 b1690 r1730 r1750 r1776) [(.ref r1804)]) _
          refine XS.astore X1836.here hx rfl (hb hby at_291) rfl rfl (l' := (own_loc31 p0 p1 p2 p3 p4 p5 b1254 b1264 b1283 b1690 r1730 r1750 r1776 r1804)) rfl ?_
          show own_S p e below T1836 (mkF m 293 (own_loc31 p0 p1 p2 p3 p4 p5 b1254 b1264 b1283 b1690 r1730 r1750 r1776 r1804) []) _
          refine XS.aload X1836.here hx rfl (hb hby at_293) rfl rfl ?_
          show own_S p e below T1836 (mkF m 295 (own_loc31 p0 p1 p2 p3 p4 p5 b1254 b1264 b1283 b1690 r1730 r1750 r1776 r1804) [(.ref r1776)]) _
          refine XS.iloadN X1836.here hx rfl (hb hby at_295) rfl ?_
          show own_S p e below T1836 (mkF m 296 (own_loc31 p0 p1 p2 p3 p4 p5 b1254 b1264 b1283 b1690 r1730 r1750 r1776 r1804) [(.int p0), (.ref r1776)]) _
          refine XS.iloadN X1836.here hx rfl (hb hby at_296) rfl ?_
          show own_S p e below T1836 (mkF m 297 (own_loc31 p0 p1 p2 p3 p4 p5 b1254 b1264 b1283 b1690 r1730 r1750 r1776 r1804) [(.int p1), (.int p0), (.ref r1776)]) _
          refine XS.dload X1836.here hx rfl (hb hby at_297) rfl ?_
          show own_S p e below T1836 (mkF m 299 (own_loc31 p0 p1 p2 p3 p4 p5 b1254 b1264 b1283 b1690 r1730 r1750 r1776 r1804) [(.double (FP.i2d (p4.toInt8.toInt32))), (.int p1), (.int p0), (.ref r1776)]) _
          refine XS.dload X1836.here hx rfl (hb hby at_299) rfl ?_
          show own_S p e below T1836 (mkF m 301 (own_loc31 p0 p1 p2 p3 p4 p5 b1254 b1264 b1283 b1690 r1730 r1750 r1776 r1804) [(.double (FP.i2d ((p4 >>> ((8 : Int32) &&& 31)).toInt8.toInt32))), (.double (FP.i2d (p4.toInt8.toInt32))), (.int p1), (.int p0), (.ref r1776)]) _
          refine XS.iload X1836.here hx rfl (hb hby at_301) rfl ?_
          exact kt
        obtain ⟨_, _, ⟨T1838, L1838, k1838, n1838⟩, -, X1838, ⟨Lc1838, hQ1838, l1838, y1838, z1838⟩, st1838⟩ := Jvm.LawKit.callS X1836 hx (y := (⟨"com/example/rank60/rank60/ExplanationsAddPinLaw", "matches", "(Lcom/example/rank60/rank60/FusedHit$Contribution;IIDDZ)Z"⟩ : MethodName)) hown (mvT hZ (own_wk hw 153 rfl)) (mvT hZ (own_wk hw 154 rfl)) (mvT hZ (own_wk hw 155 rfl)) (mvT hZ (own_wk hw 156 rfl)) (by decide) (backOf (W := 0) (rm19_0 l Z ag hw [] r1776 p0 p1 (FP.i2d (p4.toInt8.toInt32)) (FP.i2d ((p4 >>> ((8 : Int32) &&& 31)).toInt8.toInt32))  T1804.heap n0 sz1835 x1830 x1831 x1832 x1833 x1834 (own_i2dn _) (own_i2dn _)) hZ (own_wk hw 156 rfl) (own_wk hw 155 rfl) (by decide) (by decide)) (g := (mkF m 303 (own_loc31 p0 p1 p2 p3 p4 p5 b1254 b1264 b1283 b1690 r1730 r1750 r1776 r1804) [.int 0, (.double (FP.i2d ((p4 >>> ((8 : Int32) &&& 31)).toInt8.toInt32))), (.double (FP.i2d (p4.toInt8.toInt32))), (.int p1), (.int p0), (.ref r1776)])) rfl (by rw [hml]; rfl) (argsL := [(.ref r1776), (.int p0), (.int p1), (.double (FP.i2d (p4.toInt8.toInt32))), (.double (FP.i2d ((p4 >>> ((8 : Int32) &&& 31)).toInt8.toInt32))), (.int (0 : Int32))]) (rest := []) (lenOf pd_10 rfl) rfl (by show 2 * 0 + _ ≤ _; exact Nat.le_of_eq rfl) (hb hby at_303) (fun _ _ => ⟨rfl, e1836, (by decide : 12 + 0 ≤ _), (by decide : 43 + 0 ≤ _)⟩)
        dsimp only [Pt.U, Pt.locs, Pt.cells, Pt.slots] at X1838 l1838 y1838 z1838 st1838 hQ1838
        subst l1838 y1838 z1838
        obtain ⟨rfl, N1838q, e1838⟩ := hQ1838
        have N1838 := Fr.app N1804 N1838q
        obtain ⟨_, _, ⟨T1839, L1839, k1839, n1839⟩, -, X1839, ⟨Lc1839, hQ1839, l1839, y1839, z1839⟩, st1839⟩ := Jvm.LawKit.callS X1838 hx (y := (⟨"com/example/rank60/rank60/ExplanationsAddPinLaw", "matches", "(Lcom/example/rank60/rank60/FusedHit$Contribution;IIDDZ)Z"⟩ : MethodName)) hown (mvT hZ (own_wk hw 153 rfl)) (mvT hZ (own_wk hw 154 rfl)) (mvT hZ (own_wk hw 155 rfl)) (mvT hZ (own_wk hw 156 rfl)) (by decide) (backOf (W := 0) (rm19_0 l Z ag hw [] r1804 p2 p3 (FP.i2d ((p4 >>> ((16 : Int32) &&& 31)).toInt8.toInt32)) (FP.i2d ((p4 >>> ((24 : Int32) &&& 31)).toInt8.toInt32))  T1804.heap n0 sz1835 o1804_0 o1804_1 o1804_2 o1804_3 o1804_4 (own_i2dn _) (own_i2dn _)) hZ (own_wk hw 156 rfl) (own_wk hw 155 rfl) (by decide) (by decide)) (g := (mkF m 319 (own_loc31 p0 p1 p2 p3 p4 p5 b1254 b1264 b1283 b1690 r1730 r1750 r1776 r1804) [.int 0, (.double (FP.i2d ((p4 >>> ((24 : Int32) &&& 31)).toInt8.toInt32))), (.double (FP.i2d ((p4 >>> ((16 : Int32) &&& 31)).toInt8.toInt32))), (.int p3), (.int p2), (.ref r1804)])) rfl (by rw [hml]; rfl) (argsL := [(.ref r1804), (.int p2), (.int p3), (.double (FP.i2d ((p4 >>> ((16 : Int32) &&& 31)).toInt8.toInt32))), (.double (FP.i2d ((p4 >>> ((24 : Int32) &&& 31)).toInt8.toInt32))), (.int (0 : Int32))]) (rest := []) (lenOf pd_10 rfl) rfl (by show 2 * 0 + _ ≤ _; exact Nat.le_of_eq rfl) (hb hby at_319) (fun _ _ => ⟨rfl, e1838, (by decide : 12 + 0 ≤ _), (by decide : 43 + 0 ≤ _)⟩)
        dsimp only [Pt.U, Pt.locs, Pt.cells, Pt.slots] at X1839 l1839 y1839 z1839 st1839 hQ1839
        subst l1839 y1839 z1839
        obtain ⟨rfl, N1839q, e1839⟩ := hQ1839
        have N1839 := Fr.app N1838 N1839q
        obtain ⟨fs, hr, hrun, hended, hW, hsame⟩ := X1839.leave (v := some (.int (1 : Int32))) (fun h => by rw [Bd.returns] at h; cases h)
        refine ⟨_, _, pre0 _ ?_, hrun, hended, _, _, rfl, ?_, ⟨_, rfl⟩, hW, hsame.mono (by decide) (by decide)⟩
        · show own_S p e below s₁ (mkF m 0 (own_loc7 p0 p1 p2 p3 p4 p5) []) _
          refine cp1837 _ ?_
          show own_S p e below T1836 (mkF m 303 (own_loc31 p0 p1 p2 p3 p4 p5 b1254 b1264 b1283 b1690 r1730 r1750 r1776 r1804) [.int 0, (.double (FP.i2d ((p4 >>> ((8 : Int32) &&& 31)).toInt8.toInt32))), (.double (FP.i2d (p4.toInt8.toInt32))), (.int p1), (.int p0), (.ref r1776)]) _
          refine st1838 _ ?_
          show own_S p e below T1838 (mkF m 306 (own_loc31 p0 p1 p2 p3 p4 p5 b1254 b1264 b1283 b1690 r1730 r1750 r1776 r1804) [.int 1]) _
          refine XS.ifNo X1838.here hx rfl (hb hby at_306) rfl ((if0 _ _).trans (feq (by decide : ¬ ((1 : Int32) = (0 : Int32)))).1) ?_
          show own_S p e below T1838 (mkF m 309 (own_loc31 p0 p1 p2 p3 p4 p5 b1254 b1264 b1283 b1690 r1730 r1750 r1776 r1804) []) _
          refine XS.aload X1838.here hx rfl (hb hby at_309) rfl rfl ?_
          show own_S p e below T1838 (mkF m 311 (own_loc31 p0 p1 p2 p3 p4 p5 b1254 b1264 b1283 b1690 r1730 r1750 r1776 r1804) [(.ref r1804)]) _
          refine XS.iloadN X1838.here hx rfl (hb hby at_311) rfl ?_
          show own_S p e below T1838 (mkF m 312 (own_loc31 p0 p1 p2 p3 p4 p5 b1254 b1264 b1283 b1690 r1730 r1750 r1776 r1804) [(.int p2), (.ref r1804)]) _
          refine XS.iloadN X1838.here hx rfl (hb hby at_312) rfl ?_
          show own_S p e below T1838 (mkF m 313 (own_loc31 p0 p1 p2 p3 p4 p5 b1254 b1264 b1283 b1690 r1730 r1750 r1776 r1804) [(.int p3), (.int p2), (.ref r1804)]) _
          refine XS.dload X1838.here hx rfl (hb hby at_313) rfl ?_
          show own_S p e below T1838 (mkF m 315 (own_loc31 p0 p1 p2 p3 p4 p5 b1254 b1264 b1283 b1690 r1730 r1750 r1776 r1804) [(.double (FP.i2d ((p4 >>> ((16 : Int32) &&& 31)).toInt8.toInt32))), (.int p3), (.int p2), (.ref r1804)]) _
          refine XS.dload X1838.here hx rfl (hb hby at_315) rfl ?_
          show own_S p e below T1838 (mkF m 317 (own_loc31 p0 p1 p2 p3 p4 p5 b1254 b1264 b1283 b1690 r1730 r1750 r1776 r1804) [(.double (FP.i2d ((p4 >>> ((24 : Int32) &&& 31)).toInt8.toInt32))), (.double (FP.i2d ((p4 >>> ((16 : Int32) &&& 31)).toInt8.toInt32))), (.int p3), (.int p2), (.ref r1804)]) _
          refine XS.iload X1838.here hx rfl (hb hby at_317) rfl ?_
          show own_S p e below T1838 (mkF m 319 (own_loc31 p0 p1 p2 p3 p4 p5 b1254 b1264 b1283 b1690 r1730 r1750 r1776 r1804) [.int 0, (.double (FP.i2d ((p4 >>> ((24 : Int32) &&& 31)).toInt8.toInt32))), (.double (FP.i2d ((p4 >>> ((16 : Int32) &&& 31)).toInt8.toInt32))), (.int p3), (.int p2), (.ref r1804)]) _
          refine st1839 _ ?_
          show own_S p e below T1839 (mkF m 322 (own_loc31 p0 p1 p2 p3 p4 p5 b1254 b1264 b1283 b1690 r1730 r1750 r1776 r1804) [.int 1]) _
          refine XS.ifNo X1839.here hx rfl (hb hby at_322) rfl ((if0 _ _).trans (feq (by decide : ¬ ((1 : Int32) = (0 : Int32)))).1) ?_
          show own_S p e below T1839 (mkF m 325 (own_loc31 p0 p1 p2 p3 p4 p5 b1254 b1264 b1283 b1690 r1730 r1750 r1776 r1804) []) _
          refine XS.iconst X1839.here hx rfl (hb hby at_325) ?_
          show own_S p e below T1839 (mkF m 326 (own_loc31 p0 p1 p2 p3 p4 p5 b1254 b1264 b1283 b1690 r1730 r1750 r1776 r1804) [.int 1]) _
          refine XS.goto X1839.here hx rfl (pc0 := 326) (pc' := 330) rfl (hb hby at_326) (by decide) (by decide) ?_
          show own_S p e below T1839 (mkF m 330 (own_loc31 p0 p1 p2 p3 p4 p5 b1254 b1264 b1283 b1690 r1730 r1750 r1776 r1804) [.int 1]) _
          exact retN X1839 hx (t := .boolean) Bd.returns (by simp) (hb hby at_330) hr
        · exact ⟨rfl, N1839⟩
  · obtain ⟨T1840, h1840, X1840, e1840, E1840, A1840, D1840, -, st1840⟩ := newO X0 hx hZ hown (own_wk hw 0 rfl) (own_wk hw 1 rfl) (own_wk hw 2 rfl) e0 (g := (mkF m 55 (own_loc37 p0 p1 p2 p3 p4 p5) [])) rfl (hb hby at_55) (by decide) (by decide)
    obtain ⟨b1840, g1840⟩ : ∃ z, z = h0.size := ⟨_, rfl⟩
    have ge_b1840 : n0 ≤ b1840 := Nat.le_trans Z0 (Nat.le_of_eq g1840.symm)
    rw [← g1840] at A1840 D1840 st1840
    have sz1841 : n0 ≤ h1840.size := Nat.le_trans Z0 E1840.1
    have F1840_starts : Fld Z h1840 b1840 "com/example/rank60/rank60/FusedList$Explanations" "starts" "[I" .null := D1840 (Or.inr (own_wk hw 11 rfl)) (ty := (.array .int)) (by decide)
    have F1840_inputs : Fld Z h1840 b1840 "com/example/rank60/rank60/FusedList$Explanations" "inputs" "[I" .null := D1840 (Or.inr (own_wk hw 13 rfl)) (ty := (.array .int)) (by decide)
    have F1840_ranks : Fld Z h1840 b1840 "com/example/rank60/rank60/FusedList$Explanations" "ranks" "[I" .null := D1840 (Or.inr (own_wk hw 15 rfl)) (ty := (.array .int)) (by decide)
    have F1840_scores : Fld Z h1840 b1840 "com/example/rank60/rank60/FusedList$Explanations" "scores" "[D" .null := D1840 (Or.inr (own_wk hw 18 rfl)) (ty := (.array .double)) (by decide)
    have F1840_values : Fld Z h1840 b1840 "com/example/rank60/rank60/FusedList$Explanations" "values" "[D" .null := D1840 (Or.inr (own_wk hw 20 rfl)) (ty := (.array .double)) (by decide)
    have F1840_count : Fld Z h1840 b1840 "com/example/rank60/rank60/FusedList$Explanations" "count" "I" (.int (0 : Int32)) := D1840 (Or.inl (own_wk hw 29 rfl)) (ty := .int) (by decide)
    have F1840_documents : Fld Z h1840 b1840 "com/example/rank60/rank60/FusedList$Explanations" "documents" "I" (.int (0 : Int32)) := D1840 (Or.inl (own_wk hw 36 rfl)) (ty := .int) (by decide)
    have cp1842 : ∀ target, own_S p e below T1840 (mkF m 63 (own_loc37 p0 p1 p2 p3 p4 p5) [.int 1, .int 2, .int 2, (.ref b1840), (.ref b1840)]) target → own_S p e below s₁ (mkF m 0 (own_loc7 p0 p1 p2 p3 p4 p5) []) target := by
      intro target kt
      show own_S p e below s₁ (mkF m 0 (own_loc7 p0 p1 p2 p3 p4 p5) []) _
      refine cp1253 _ ?_
      show own_S p e below s₁ (mkF m 4 (own_loc7 p0 p1 p2 p3 p4 p5) [(.int (p5 &&& (1 : Int32)))]) _
      refine XS.ifNo X0.here hx rfl (hb hby at_4) rfl ((if0 _ _).trans (feq hc1252).1) ?_
      show own_S p e below s₁ (mkF m 7 (own_loc7 p0 p1 p2 p3 p4 p5) []) _
      refine XS.iconst X0.here hx rfl (hb hby at_7) ?_
      show own_S p e below s₁ (mkF m 8 (own_loc7 p0 p1 p2 p3 p4 p5) [.int 1]) _
      refine XS.goto X0.here hx rfl (pc0 := 8) (pc' := 12) rfl (hb hby at_8) (by decide) (by decide) ?_
      show own_S p e below s₁ (mkF m 12 (own_loc7 p0 p1 p2 p3 p4 p5) [.int 1]) _
      refine XS.istore X0.here hx rfl (hb hby at_12) rfl (l' := (own_loc32 p0 p1 p2 p3 p4 p5)) rfl ?_
      show own_S p e below s₁ (mkF m 14 (own_loc32 p0 p1 p2 p3 p4 p5) []) _
      refine XS.iload X0.here hx rfl (hb hby at_14) rfl ?_
      show own_S p e below s₁ (mkF m 16 (own_loc32 p0 p1 p2 p3 p4 p5) [(.int p5)]) _
      refine XS.iconst X0.here hx rfl (hb hby at_16) ?_
      show own_S p e below s₁ (mkF m 17 (own_loc32 p0 p1 p2 p3 p4 p5) [.int 1, (.int p5)]) _
      refine XS.iushr X0.here hx rfl (hb hby at_17) rfl ?_
      show own_S p e below s₁ (mkF m 18 (own_loc32 p0 p1 p2 p3 p4 p5) [(.int (own_ushr p5 (1 : Int32)))]) _
      refine XS.iconst X0.here hx rfl (hb hby at_18) ?_
      show own_S p e below s₁ (mkF m 19 (own_loc32 p0 p1 p2 p3 p4 p5) [.int 3, (.int (own_ushr p5 (1 : Int32)))]) _
      refine iremM X0 hx rfl (hb hby at_19) rfl (by decide) ?_
      show own_S p e below s₁ (mkF m 20 (own_loc32 p0 p1 p2 p3 p4 p5) [(.int ((own_ushr p5 (1 : Int32)) % (3 : Int32)))]) _
      refine XS.istore X0.here hx rfl (hb hby at_20) rfl (l' := (own_loc33 p0 p1 p2 p3 p4 p5)) rfl ?_
      show own_S p e below s₁ (mkF m 22 (own_loc33 p0 p1 p2 p3 p4 p5) []) _
      refine XS.iload X0.here hx rfl (hb hby at_22) rfl ?_
      show own_S p e below s₁ (mkF m 24 (own_loc33 p0 p1 p2 p3 p4 p5) [(.int p4)]) _
      refine XS.i2b X0.here hx rfl (hb hby at_24) rfl ?_
      show own_S p e below s₁ (mkF m 25 (own_loc33 p0 p1 p2 p3 p4 p5) [(.int (p4.toInt8.toInt32))]) _
      refine XS.i2dS X0.here hx rfl (hb hby at_25) rfl rfl ?_
      show own_S p e below s₁ (mkF m 26 (own_loc33 p0 p1 p2 p3 p4 p5) [(.double (FP.i2d (p4.toInt8.toInt32)))]) _
      refine XS.dstore X0.here hx rfl (hb hby at_26) rfl (l' := (own_loc34 p0 p1 p2 p3 p4 p5)) rfl ?_
      show own_S p e below s₁ (mkF m 28 (own_loc34 p0 p1 p2 p3 p4 p5) []) _
      refine XS.iload X0.here hx rfl (hb hby at_28) rfl ?_
      show own_S p e below s₁ (mkF m 30 (own_loc34 p0 p1 p2 p3 p4 p5) [(.int p4)]) _
      refine XS.bipush X0.here hx rfl (hb hby at_30) ?_
      show own_S p e below s₁ (mkF m 32 (own_loc34 p0 p1 p2 p3 p4 p5) [.int 8, (.int p4)]) _
      refine XS.ishr X0.here hx rfl (hb hby at_32) rfl ?_
      show own_S p e below s₁ (mkF m 33 (own_loc34 p0 p1 p2 p3 p4 p5) [(.int (p4 >>> ((8 : Int32) &&& 31)))]) _
      refine XS.i2b X0.here hx rfl (hb hby at_33) rfl ?_
      show own_S p e below s₁ (mkF m 34 (own_loc34 p0 p1 p2 p3 p4 p5) [(.int ((p4 >>> ((8 : Int32) &&& 31)).toInt8.toInt32))]) _
      refine XS.i2dS X0.here hx rfl (hb hby at_34) rfl rfl ?_
      show own_S p e below s₁ (mkF m 35 (own_loc34 p0 p1 p2 p3 p4 p5) [(.double (FP.i2d ((p4 >>> ((8 : Int32) &&& 31)).toInt8.toInt32)))]) _
      refine XS.dstore X0.here hx rfl (hb hby at_35) rfl (l' := (own_loc35 p0 p1 p2 p3 p4 p5)) rfl ?_
      show own_S p e below s₁ (mkF m 37 (own_loc35 p0 p1 p2 p3 p4 p5) []) _
      refine XS.iload X0.here hx rfl (hb hby at_37) rfl ?_
      show own_S p e below s₁ (mkF m 39 (own_loc35 p0 p1 p2 p3 p4 p5) [(.int p4)]) _
      refine XS.bipush X0.here hx rfl (hb hby at_39) ?_
      show own_S p e below s₁ (mkF m 41 (own_loc35 p0 p1 p2 p3 p4 p5) [.int 16, (.int p4)]) _
      refine XS.ishr X0.here hx rfl (hb hby at_41) rfl ?_
      show own_S p e below s₁ (mkF m 42 (own_loc35 p0 p1 p2 p3 p4 p5) [(.int (p4 >>> ((16 : Int32) &&& 31)))]) _
      refine XS.i2b X0.here hx rfl (hb hby at_42) rfl ?_
      show own_S p e below s₁ (mkF m 43 (own_loc35 p0 p1 p2 p3 p4 p5) [(.int ((p4 >>> ((16 : Int32) &&& 31)).toInt8.toInt32))]) _
      refine XS.i2dS X0.here hx rfl (hb hby at_43) rfl rfl ?_
      show own_S p e below s₁ (mkF m 44 (own_loc35 p0 p1 p2 p3 p4 p5) [(.double (FP.i2d ((p4 >>> ((16 : Int32) &&& 31)).toInt8.toInt32)))]) _
      refine XS.dstore X0.here hx rfl (hb hby at_44) rfl (l' := (own_loc36 p0 p1 p2 p3 p4 p5)) rfl ?_
      show own_S p e below s₁ (mkF m 46 (own_loc36 p0 p1 p2 p3 p4 p5) []) _
      refine XS.iload X0.here hx rfl (hb hby at_46) rfl ?_
      show own_S p e below s₁ (mkF m 48 (own_loc36 p0 p1 p2 p3 p4 p5) [(.int p4)]) _
      refine XS.bipush X0.here hx rfl (hb hby at_48) ?_
      show own_S p e below s₁ (mkF m 50 (own_loc36 p0 p1 p2 p3 p4 p5) [.int 24, (.int p4)]) _
      refine XS.ishr X0.here hx rfl (hb hby at_50) rfl ?_
      show own_S p e below s₁ (mkF m 51 (own_loc36 p0 p1 p2 p3 p4 p5) [(.int (p4 >>> ((24 : Int32) &&& 31)))]) _
      refine XS.i2b X0.here hx rfl (hb hby at_51) rfl ?_
      show own_S p e below s₁ (mkF m 52 (own_loc36 p0 p1 p2 p3 p4 p5) [(.int ((p4 >>> ((24 : Int32) &&& 31)).toInt8.toInt32))]) _
      refine XS.i2dS X0.here hx rfl (hb hby at_52) rfl rfl ?_
      show own_S p e below s₁ (mkF m 53 (own_loc36 p0 p1 p2 p3 p4 p5) [(.double (FP.i2d ((p4 >>> ((24 : Int32) &&& 31)).toInt8.toInt32)))]) _
      refine XS.dstore X0.here hx rfl (hb hby at_53) rfl (l' := (own_loc37 p0 p1 p2 p3 p4 p5)) rfl ?_
      show own_S p e below s₁ (mkF m 55 (own_loc37 p0 p1 p2 p3 p4 p5) []) _
      refine st1840 _ ?_
      show own_S p e below T1840 (mkF m 58 (own_loc37 p0 p1 p2 p3 p4 p5) [(.ref b1840)]) _
      refine XS.dup X1840.here hx rfl (hb hby at_58) rfl rfl ?_
      show own_S p e below T1840 (mkF m 59 (own_loc37 p0 p1 p2 p3 p4 p5) [(.ref b1840), (.ref b1840)]) _
      refine XS.iconst X1840.here hx rfl (hb hby at_59) ?_
      show own_S p e below T1840 (mkF m 60 (own_loc37 p0 p1 p2 p3 p4 p5) [.int 2, (.ref b1840), (.ref b1840)]) _
      refine XS.iconst X1840.here hx rfl (hb hby at_60) ?_
      show own_S p e below T1840 (mkF m 61 (own_loc37 p0 p1 p2 p3 p4 p5) [.int 2, .int 2, (.ref b1840), (.ref b1840)]) _
      refine XS.iload X1840.here hx rfl (hb hby at_61) rfl ?_
      exact kt
    obtain ⟨_, _, ⟨T1843, L1843, k1843, n1843⟩, -, X1843, ⟨Lc1843, hQ1843, l1843, y1843, z1843⟩, st1843⟩ := X1840.specialBack hx (y := (⟨"com/example/rank60/rank60/FusedList$Explanations", "<init>", "(IIZ)V"⟩ : MethodName)) rfl hown (mvT hZ (own_wk hw 3 rfl)) (mvT hZ (own_wk hw 4 rfl)) (mvT hZ (own_wk hw 5 rfl)) (by decide) (backOf (W := 1) (rm1_1 l Z ag hw [] b1840  h1840 n0 sz1841 A1840 ge_b1840 F1840_starts F1840_inputs F1840_ranks F1840_scores F1840_values F1840_count F1840_documents) hZ (own_wk hw 5 rfl) (own_wk hw 2 rfl) (by decide) (by decide)) (g := (mkF m 63 (own_loc37 p0 p1 p2 p3 p4 p5) [.int 1, .int 2, .int 2, (.ref b1840), (.ref b1840)])) rfl (by rw [hml]; rfl) (Steps.refl _) (a := b1840) (argsL := [(.int (2 : Int32)), (.int (2 : Int32)), (.int (1 : Int32))]) (rest := [(.ref b1840)]) (lenOf pd_9 rfl) rfl (by show 2 * 0 + _ ≤ _; exact Nat.le_of_eq rfl) (hb hby at_63) (fun _ _ => ⟨rfl, e1840, (by decide : 1 + 5 ≤ _), (by decide : 7 + 11 ≤ _)⟩)
    dsimp only [Pt.U, Pt.locs, Pt.cells, Pt.slots] at X1843 l1843 y1843 z1843 st1843 hQ1843
    subst l1843 y1843 z1843
    obtain ⟨u0_1843, u1_1843, u2_1843, u3_1843, u4_1843, ku0_1843, ku1_1843, ku2_1843, ku3_1843, ku4_1843, rfl, N1843q, K1843, gq_u0_1843, gq_u1_1843, gq_u2_1843, gq_u3_1843, gq_u4_1843, ne1843_0, ne1843_1, ne1843_2, ne1843_3, ne1843_4, ne1843_5, ne1843_6, ne1843_7, ne1843_8, ne1843_9, o1843_0, o1843_1, o1843_2, o1843_3, o1843_4, o1843_5, o1843_6, o1843_7, o1843_8, o1843_9, o1843_10, o1843_11, o1843_12⟩ := hQ1843
    have N1843 := Fr.app N0 N1843q
    have ne1844 : b1840 ≠ u0_1843 := Nat.ne_of_lt (Nat.lt_of_lt_of_le A1840.lt gq_u0_1843)
    have ge_u0_1843 : n0 ≤ u0_1843 := Nat.le_trans sz1841 gq_u0_1843
    have ne1845 : b1840 ≠ u1_1843 := Nat.ne_of_lt (Nat.lt_of_lt_of_le A1840.lt gq_u1_1843)
    have ge_u1_1843 : n0 ≤ u1_1843 := Nat.le_trans sz1841 gq_u1_1843
    have ne1846 : b1840 ≠ u2_1843 := Nat.ne_of_lt (Nat.lt_of_lt_of_le A1840.lt gq_u2_1843)
    have ge_u2_1843 : n0 ≤ u2_1843 := Nat.le_trans sz1841 gq_u2_1843
    have ne1847 : b1840 ≠ u3_1843 := Nat.ne_of_lt (Nat.lt_of_lt_of_le A1840.lt gq_u3_1843)
    have ge_u3_1843 : n0 ≤ u3_1843 := Nat.le_trans sz1841 gq_u3_1843
    have ne1848 : b1840 ≠ u4_1843 := Nat.ne_of_lt (Nat.lt_of_lt_of_le A1840.lt gq_u4_1843)
    have ge_u4_1843 : n0 ≤ u4_1843 := Nat.le_trans sz1841 gq_u4_1843
    have x1849 := A1840.keep K1843
    have sz1850 : n0 ≤ T1843.heap.size := Nat.le_trans sz1841 K1843.1
    obtain ⟨T1851, h1851, k1851, X1851, e1851, E1851, A1851, O1851, st1851⟩ := newR X1843 hx hZ hown (own_wk hw 21 rfl) (own_wk hw 22 rfl) rfl (g := (mkF m 69 (own_loc38 p0 p1 p2 p3 p4 p5 b1840) [.int 2])) rfl (hb hby at_69) rfl (by decide) (cap := 2) (by decide) (by decide) (by decide) (by decide)
    obtain ⟨b1851, g1851⟩ : ∃ z, z = T1843.heap.size := ⟨_, rfl⟩
    have ne1852 : b1840 ≠ b1851 := Nat.ne_of_lt (Nat.lt_of_lt_of_le o1843_0.lt (Nat.le_of_eq g1851.symm))
    have ne1853 : u0_1843 ≠ b1851 := Nat.ne_of_lt (Nat.lt_of_lt_of_le o1843_8.lt (Nat.le_of_eq g1851.symm))
    have ne1854 : u1_1843 ≠ b1851 := Nat.ne_of_lt (Nat.lt_of_lt_of_le o1843_9.lt (Nat.le_of_eq g1851.symm))
    have ne1855 : u2_1843 ≠ b1851 := Nat.ne_of_lt (Nat.lt_of_lt_of_le o1843_10.lt (Nat.le_of_eq g1851.symm))
    have ne1856 : u3_1843 ≠ b1851 := Nat.ne_of_lt (Nat.lt_of_lt_of_le o1843_11.lt (Nat.le_of_eq g1851.symm))
    have ne1857 : u4_1843 ≠ b1851 := Nat.ne_of_lt (Nat.lt_of_lt_of_le o1843_12.lt (Nat.le_of_eq g1851.symm))
    have ge_b1851 : n0 ≤ b1851 := Nat.le_trans sz1850 (Nat.le_of_eq g1851.symm)
    rw [← g1851] at A1851 st1851
    have x1858 := o1843_0.ext E1851
    have x1859 := o1843_1.ext E1851
    have x1860 := o1843_2.ext E1851
    have x1861 := o1843_3.ext E1851
    have x1862 := o1843_4.ext E1851
    have x1863 := o1843_5.ext E1851
    have x1864 := o1843_6.ext E1851
    have x1865 := o1843_7.ext E1851
    have x1866 := o1843_8.ext E1851
    have x1867 := o1843_9.ext E1851
    have x1868 := o1843_10.ext E1851
    have x1869 := o1843_11.ext E1851
    have x1870 := o1843_12.ext E1851
    have sz1871 : n0 ≤ h1851.size := Nat.le_trans sz1850 E1851.1
    have V1851 : Arv Z h1851 b1851 k1851 (.object "java/lang/String") (2 : Int32) [.null, .null] .null := (Arv.new A1851 (by decide)).pad (pad_rep [] .null 2)
    obtain ⟨T1872, h1872, k1872, X1872, e1872, E1872, A1872, st1872⟩ := newP X1851 hx hZ (own_wk hw 16 rfl) e1851 (g := (mkF m 75 (own_loc39 p0 p1 p2 p3 p4 p5 b1840 b1851) [.int 2])) rfl (hb hby at_75) rfl (by decide) (cap := 2) (by decide) (by decide) (by decide) (by decide)
    obtain ⟨b1872, g1872⟩ : ∃ z, z = h1851.size := ⟨_, rfl⟩
    have ne1873 : b1840 ≠ b1872 := Nat.ne_of_lt (Nat.lt_of_lt_of_le x1858.lt (Nat.le_of_eq g1872.symm))
    have ne1874 : u0_1843 ≠ b1872 := Nat.ne_of_lt (Nat.lt_of_lt_of_le x1866.lt (Nat.le_of_eq g1872.symm))
    have ne1875 : u1_1843 ≠ b1872 := Nat.ne_of_lt (Nat.lt_of_lt_of_le x1867.lt (Nat.le_of_eq g1872.symm))
    have ne1876 : u2_1843 ≠ b1872 := Nat.ne_of_lt (Nat.lt_of_lt_of_le x1868.lt (Nat.le_of_eq g1872.symm))
    have ne1877 : u3_1843 ≠ b1872 := Nat.ne_of_lt (Nat.lt_of_lt_of_le x1869.lt (Nat.le_of_eq g1872.symm))
    have ne1878 : u4_1843 ≠ b1872 := Nat.ne_of_lt (Nat.lt_of_lt_of_le x1870.lt (Nat.le_of_eq g1872.symm))
    have ne1879 : b1851 ≠ b1872 := Nat.ne_of_lt (Nat.lt_of_lt_of_le V1851.lt (Nat.le_of_eq g1872.symm))
    have ge_b1872 : n0 ≤ b1872 := Nat.le_trans sz1871 (Nat.le_of_eq g1872.symm)
    rw [← g1872] at A1872 st1872
    have x1880 := x1858.ext E1872
    have x1881 := x1859.ext E1872
    have x1882 := x1860.ext E1872
    have x1883 := x1861.ext E1872
    have x1884 := x1862.ext E1872
    have x1885 := x1863.ext E1872
    have x1886 := x1864.ext E1872
    have x1887 := x1865.ext E1872
    have x1888 := x1866.ext E1872
    have x1889 := x1867.ext E1872
    have x1890 := x1868.ext E1872
    have x1891 := x1869.ext E1872
    have x1892 := x1870.ext E1872
    have x1893 := V1851.ext E1872
    have sz1894 : n0 ≤ h1872.size := Nat.le_trans sz1871 E1872.1
    have V1872 : Arv Z h1872 b1872 k1872 .double (2 : Int32) [(.double (FP.l2d 0)), (.double (FP.l2d 0))] (.double (FP.l2d 0)) := (Arv.newD A1872 (by decide)).pad (pad_rep [] (.double (FP.l2d 0)) 2)
    have cp1896 : ∀ target, own_S p e below T1872 (mkF m 81 (own_loc40 p0 p1 p2 p3 p4 p5 b1840 b1851 b1872) [(.int ((own_ushr p5 (1 : Int32)) % (3 : Int32)))]) target → own_S p e below s₁ (mkF m 0 (own_loc7 p0 p1 p2 p3 p4 p5) []) target := by
      intro target kt
      show own_S p e below s₁ (mkF m 0 (own_loc7 p0 p1 p2 p3 p4 p5) []) _
      refine cp1842 _ ?_
      show own_S p e below T1840 (mkF m 63 (own_loc37 p0 p1 p2 p3 p4 p5) [.int 1, .int 2, .int 2, (.ref b1840), (.ref b1840)]) _
      refine st1843.trans ?_
      show own_S p e below T1843 (mkF m 66 (own_loc37 p0 p1 p2 p3 p4 p5) [(.ref b1840)]) _
      refine XS.astore X1843.here hx rfl (hb hby at_66) rfl rfl (l' := (own_loc38 p0 p1 p2 p3 p4 p5 b1840)) rfl ?_
      show own_S p e below T1843 (mkF m 68 (own_loc38 p0 p1 p2 p3 p4 p5 b1840) []) _
      refine XS.iconst X1843.here hx rfl (hb hby at_68) ?_
      show own_S p e below T1843 (mkF m 69 (own_loc38 p0 p1 p2 p3 p4 p5 b1840) [.int 2]) _
      refine st1851 _ ?_
      show own_S p e below T1851 (mkF m 72 (own_loc38 p0 p1 p2 p3 p4 p5 b1840) [(.ref b1851)]) _
      refine XS.astore X1851.here hx rfl (hb hby at_72) rfl rfl (l' := (own_loc39 p0 p1 p2 p3 p4 p5 b1840 b1851)) rfl ?_
      show own_S p e below T1851 (mkF m 74 (own_loc39 p0 p1 p2 p3 p4 p5 b1840 b1851) []) _
      refine XS.iconst X1851.here hx rfl (hb hby at_74) ?_
      show own_S p e below T1851 (mkF m 75 (own_loc39 p0 p1 p2 p3 p4 p5 b1840 b1851) [.int 2]) _
      refine st1872 _ ?_
      show own_S p e below T1872 (mkF m 77 (own_loc39 p0 p1 p2 p3 p4 p5 b1840 b1851) [(.ref b1872)]) _
      refine XS.astore X1872.here hx rfl (hb hby at_77) rfl rfl (l' := (own_loc40 p0 p1 p2 p3 p4 p5 b1840 b1851 b1872)) rfl ?_
      show own_S p e below T1872 (mkF m 79 (own_loc40 p0 p1 p2 p3 p4 p5 b1840 b1851 b1872) []) _
      refine XS.iload X1872.here hx rfl (hb hby at_79) rfl ?_
      exact kt
    by_cases hc1895 : ((own_ushr p5 (1 : Int32)) % (3 : Int32)) = (0 : Int32)
    · obtain ⟨cq1897, kq1897, q1897a, q1897b, q1897c⟩ := isOf hZ e1872 x1880
      obtain ⟨_, _, ⟨T1897, L1897, k1897, n1897⟩, -, X1897, ⟨Lc1897, hQ1897, l1897, y1897, z1897⟩, st1897⟩ := X1872.virtualBack hx (y := (⟨"com/example/rank60/rank60/FusedList$Explanations", "endDocument", "()V"⟩ : MethodName)) (z := (⟨"com/example/rank60/rank60/FusedList$Explanations", "endDocument", "()V"⟩ : MethodName)) hown (mvT hZ (own_wk hw 30 rfl)) (mvT hZ (own_wk hw 31 rfl)) (notFace_of_selects (args := #[]) (mvT hZ (own_wk hw 33 rfl))) (mvT hZ (own_wk hw 33 rfl)) (mvT hZ (own_wk hw 32 rfl)) (by decide) (backOf (W := 0) (rm4_0 l Z ag hw [] b1840 u0_1843 (0 : Int32) u1_1843 u2_1843 u4_1843 (.ref u3_1843) ku0_1843 (0 : Int32) (0 : Int32) (0 : Int32) h1872 n0 sz1894 x1880 x1881 x1887 x1886 x1882 x1883 x1885 x1884 x1888 ge_b1840 ge_u0_1843 ne1844) hZ (own_wk hw 34 rfl) (own_wk hw 2 rfl) (by decide) (by decide)) q1897a q1897c (g := (mkF m 86 (own_loc40 p0 p1 p2 p3 p4 p5 b1840 b1851 b1872) [(.ref b1840)])) rfl (by rw [hml]; rfl) (Steps.refl _) (argsL := []) (rest := []) (lenOf pd_2 rfl) rfl (by show 2 * 0 + _ ≤ _; exact Nat.le_of_eq rfl) (hb hby at_86) (fun _ _ => ⟨rfl, e1872, (by decide : 8 + 0 ≤ _), (by decide : 22 + 0 ≤ _)⟩)
      dsimp only [Pt.U, Pt.locs, Pt.cells, Pt.slots] at X1897 l1897 y1897 z1897 st1897 hQ1897
      subst l1897 y1897 z1897
      obtain ⟨rfl, N1897q, K1897, o1897_0, o1897_1, o1897_2, o1897_3, o1897_4, o1897_5, o1897_6, o1897_7⟩ := hQ1897
      have N1897 := Fr.app N1843 N1897q
      have x1898 := x1880.keep K1897
      have x1899 := x1889.keep K1897 (ninS (Ne.symm ne1845) (ninS (Ne.symm ne1843_0) nin0))
      have x1900 := x1890.keep K1897 (ninS (Ne.symm ne1846) (ninS (Ne.symm ne1843_1) nin0))
      have x1901 := x1891.keep K1897 (ninS (Ne.symm ne1847) (ninS (Ne.symm ne1843_2) nin0))
      have x1902 := x1892.keep K1897 (ninS (Ne.symm ne1848) (ninS (Ne.symm ne1843_3) nin0))
      have x1903 := x1893.keep K1897 (ninS (Ne.symm ne1852) (ninS (Ne.symm ne1853) nin0))
      have x1904 := V1872.keep K1897 (ninS (Ne.symm ne1873) (ninS (Ne.symm ne1874) nin0))
      have sz1905 : n0 ≤ T1897.heap.size := Nat.le_trans sz1894 K1897.1
      obtain ⟨cq1906, kq1906, q1906a, q1906b, q1906c⟩ := isOf hZ rfl x1898
      obtain ⟨_, _, ⟨T1906, L1906, k1906, n1906⟩, -, X1906, ⟨Lc1906, hQ1906, l1906, y1906, z1906⟩, st1906⟩ := X1897.virtualBack hx (y := (⟨"com/example/rank60/rank60/FusedList$Explanations", "add", "(IIDD)V"⟩ : MethodName)) (z := (⟨"com/example/rank60/rank60/FusedList$Explanations", "add", "(IIDD)V"⟩ : MethodName)) hown (mvT hZ (own_wk hw 23 rfl)) (mvT hZ (own_wk hw 24 rfl)) (notFace_of_selects (args := #[]) (mvT hZ (own_wk hw 26 rfl))) (mvT hZ (own_wk hw 26 rfl)) (mvT hZ (own_wk hw 25 rfl)) (by decide) (backOf (W := 0) (rm3_01 l Z ag hw [] b1840 p0 p1 (FP.i2d (p4.toInt8.toInt32)) (FP.i2d ((p4 >>> ((8 : Int32) &&& 31)).toInt8.toInt32)) u1_1843 u2_1843 u3_1843 u4_1843 (1 : Int32) u0_1843 ku1_1843 (0 : Int32) (0 : Int32) ku2_1843 (0 : Int32) (0 : Int32) ku3_1843 (FP.l2d 0) (FP.l2d 0) ku4_1843 (FP.l2d 0) (FP.l2d 0) T1897.heap n0 sz1905 x1898 o1897_3 o1897_4 o1897_6 o1897_5 o1897_2 o1897_1 o1897_0 x1899 x1900 x1901 x1902 ge_b1840 ge_u1_1843 ge_u2_1843 ge_u3_1843 ge_u4_1843 ne1845 ne1846 ne1847 ne1848 ne1843_4 ne1843_5 ne1843_6 ne1843_7 ne1843_8 ne1843_9) hZ (own_wk hw 27 rfl) (own_wk hw 2 rfl) (by decide) (by decide)) q1906a q1906c (g := (mkF m 97 (own_loc40 p0 p1 p2 p3 p4 p5 b1840 b1851 b1872) [(.double (FP.i2d ((p4 >>> ((8 : Int32) &&& 31)).toInt8.toInt32))), (.double (FP.i2d (p4.toInt8.toInt32))), (.int p1), (.int p0), (.ref b1840)])) rfl (by rw [hml]; rfl) (Steps.refl _) (argsL := [(.int p0), (.int p1), (.double (FP.i2d (p4.toInt8.toInt32))), (.double (FP.i2d ((p4 >>> ((8 : Int32) &&& 31)).toInt8.toInt32)))]) (rest := []) (lenOf pd_7 rfl) rfl (by show 2 * 0 + _ ≤ _; exact Nat.le_of_eq rfl) (hb hby at_97) (fun _ _ => ⟨rfl, rfl, (by decide : 8 + 0 ≤ _), (by decide : 22 + 0 ≤ _)⟩)
      dsimp only [Pt.U, Pt.locs, Pt.cells, Pt.slots] at X1906 l1906 y1906 z1906 st1906 hQ1906
      subst l1906 y1906 z1906
      obtain ⟨rfl, N1906q, K1906, o1906_0, o1906_1, o1906_2, o1906_3, o1906_4, o1906_5, o1906_6, o1906_7, o1906_8, o1906_9, o1906_10⟩ := hQ1906
      have N1906 := Fr.app N1897 N1906q
      have x1907 := x1898.keep K1906
      have x1908 := x1903.keep K1906 (ninS (Ne.symm ne1852) (ninS (Ne.symm ne1854) (ninS (Ne.symm ne1855) (ninS (Ne.symm ne1856) (ninS (Ne.symm ne1857) nin0)))))
      have x1909 := x1904.keep K1906 (ninS (Ne.symm ne1873) (ninS (Ne.symm ne1875) (ninS (Ne.symm ne1876) (ninS (Ne.symm ne1877) (ninS (Ne.symm ne1878) nin0)))))
      have x1910 := o1897_7.keep K1906 (ninS (Ne.symm ne1844) (ninS ne1843_0 (ninS ne1843_1 (ninS ne1843_2 (ninS ne1843_3 nin0)))))
      have sz1911 : n0 ≤ T1906.heap.size := Nat.le_trans sz1905 K1906.1
      have cp1912 : ∀ target, own_S p e below T1906 (mkF m 119 (own_loc40 p0 p1 p2 p3 p4 p5 b1840 b1851 b1872) [(.double (FP.i2d ((p4 >>> ((24 : Int32) &&& 31)).toInt8.toInt32))), (.double (FP.i2d ((p4 >>> ((16 : Int32) &&& 31)).toInt8.toInt32))), (.int p3), (.int p2), (.ref b1840)]) target → own_S p e below s₁ (mkF m 0 (own_loc7 p0 p1 p2 p3 p4 p5) []) target := by
        intro target kt
        show own_S p e below s₁ (mkF m 0 (own_loc7 p0 p1 p2 p3 p4 p5) []) _
        refine cp1896 _ ?_
        show own_S p e below T1872 (mkF m 81 (own_loc40 p0 p1 p2 p3 p4 p5 b1840 b1851 b1872) [(.int ((own_ushr p5 (1 : Int32)) % (3 : Int32)))]) _
        refine XS.ifNo X1872.here hx rfl (hb hby at_81) rfl ((if0 _ _).trans (teq hc1895).2) ?_
        show own_S p e below T1872 (mkF m 84 (own_loc40 p0 p1 p2 p3 p4 p5 b1840 b1851 b1872) []) _
        refine XS.aload X1872.here hx rfl (hb hby at_84) rfl rfl ?_
        show own_S p e below T1872 (mkF m 86 (own_loc40 p0 p1 p2 p3 p4 p5 b1840 b1851 b1872) [(.ref b1840)]) _
        refine st1897.trans ?_
        show own_S p e below T1897 (mkF m 89 (own_loc40 p0 p1 p2 p3 p4 p5 b1840 b1851 b1872) []) _
        refine XS.aload X1897.here hx rfl (hb hby at_89) rfl rfl ?_
        show own_S p e below T1897 (mkF m 91 (own_loc40 p0 p1 p2 p3 p4 p5 b1840 b1851 b1872) [(.ref b1840)]) _
        refine XS.iloadN X1897.here hx rfl (hb hby at_91) rfl ?_
        show own_S p e below T1897 (mkF m 92 (own_loc40 p0 p1 p2 p3 p4 p5 b1840 b1851 b1872) [(.int p0), (.ref b1840)]) _
        refine XS.iloadN X1897.here hx rfl (hb hby at_92) rfl ?_
        show own_S p e below T1897 (mkF m 93 (own_loc40 p0 p1 p2 p3 p4 p5 b1840 b1851 b1872) [(.int p1), (.int p0), (.ref b1840)]) _
        refine XS.dload X1897.here hx rfl (hb hby at_93) rfl ?_
        show own_S p e below T1897 (mkF m 95 (own_loc40 p0 p1 p2 p3 p4 p5 b1840 b1851 b1872) [(.double (FP.i2d (p4.toInt8.toInt32))), (.int p1), (.int p0), (.ref b1840)]) _
        refine XS.dload X1897.here hx rfl (hb hby at_95) rfl ?_
        show own_S p e below T1897 (mkF m 97 (own_loc40 p0 p1 p2 p3 p4 p5 b1840 b1851 b1872) [(.double (FP.i2d ((p4 >>> ((8 : Int32) &&& 31)).toInt8.toInt32))), (.double (FP.i2d (p4.toInt8.toInt32))), (.int p1), (.int p0), (.ref b1840)]) _
        refine st1906.trans ?_
        show own_S p e below T1906 (mkF m 100 (own_loc40 p0 p1 p2 p3 p4 p5 b1840 b1851 b1872) []) _
        refine XS.iload X1906.here hx rfl (hb hby at_100) rfl ?_
        show own_S p e below T1906 (mkF m 102 (own_loc40 p0 p1 p2 p3 p4 p5 b1840 b1851 b1872) [(.int ((own_ushr p5 (1 : Int32)) % (3 : Int32)))]) _
        refine XS.iconst X1906.here hx rfl (hb hby at_102) ?_
        show own_S p e below T1906 (mkF m 103 (own_loc40 p0 p1 p2 p3 p4 p5 b1840 b1851 b1872) [.int 1, (.int ((own_ushr p5 (1 : Int32)) % (3 : Int32)))]) _
        refine XS.icmpYes X1906.here hx rfl (pc0 := 103) (pc' := 111) rfl (hb hby at_103) rfl (feq (show ¬ (((own_ushr p5 (1 : Int32)) % (3 : Int32)) = (1 : Int32)) from (fun q => absurd (hc1895.symm.trans q) (by decide)))).2 (by decide) (by decide) ?_
        show own_S p e below T1906 (mkF m 111 (own_loc40 p0 p1 p2 p3 p4 p5 b1840 b1851 b1872) []) _
        refine XS.aload X1906.here hx rfl (hb hby at_111) rfl rfl ?_
        show own_S p e below T1906 (mkF m 113 (own_loc40 p0 p1 p2 p3 p4 p5 b1840 b1851 b1872) [(.ref b1840)]) _
        refine XS.iloadN X1906.here hx rfl (hb hby at_113) rfl ?_
        show own_S p e below T1906 (mkF m 114 (own_loc40 p0 p1 p2 p3 p4 p5 b1840 b1851 b1872) [(.int p2), (.ref b1840)]) _
        refine XS.iloadN X1906.here hx rfl (hb hby at_114) rfl ?_
        show own_S p e below T1906 (mkF m 115 (own_loc40 p0 p1 p2 p3 p4 p5 b1840 b1851 b1872) [(.int p3), (.int p2), (.ref b1840)]) _
        refine XS.dload X1906.here hx rfl (hb hby at_115) rfl ?_
        show own_S p e below T1906 (mkF m 117 (own_loc40 p0 p1 p2 p3 p4 p5 b1840 b1851 b1872) [(.double (FP.i2d ((p4 >>> ((16 : Int32) &&& 31)).toInt8.toInt32))), (.int p3), (.int p2), (.ref b1840)]) _
        refine XS.dload X1906.here hx rfl (hb hby at_117) rfl ?_
        exact kt
      obtain ⟨cq1913, kq1913, q1913a, q1913b, q1913c⟩ := isOf hZ rfl x1907
      obtain ⟨_, _, ⟨T1913, L1913, k1913, n1913⟩, -, X1913, ⟨Lc1913, hQ1913, l1913, y1913, z1913⟩, st1913⟩ := X1906.virtualBack hx (y := (⟨"com/example/rank60/rank60/FusedList$Explanations", "add", "(IIDD)V"⟩ : MethodName)) (z := (⟨"com/example/rank60/rank60/FusedList$Explanations", "add", "(IIDD)V"⟩ : MethodName)) hown (mvT hZ (own_wk hw 23 rfl)) (mvT hZ (own_wk hw 24 rfl)) (notFace_of_selects (args := #[]) (mvT hZ (own_wk hw 26 rfl))) (mvT hZ (own_wk hw 26 rfl)) (mvT hZ (own_wk hw 25 rfl)) (by decide) (backOf (W := 0) (rm3_11 l Z ag hw [] b1840 p2 p3 (FP.i2d ((p4 >>> ((16 : Int32) &&& 31)).toInt8.toInt32)) (FP.i2d ((p4 >>> ((24 : Int32) &&& 31)).toInt8.toInt32)) u1_1843 u2_1843 u3_1843 u4_1843 (1 : Int32) u0_1843 ku1_1843 p0 (0 : Int32) ku2_1843 p1 (0 : Int32) ku3_1843 (FP.i2d (p4.toInt8.toInt32)) (FP.l2d 0) ku4_1843 (FP.i2d ((p4 >>> ((8 : Int32) &&& 31)).toInt8.toInt32)) (FP.l2d 0) T1906.heap n0 sz1911 x1907 o1906_0 o1906_1 o1906_2 o1906_3 o1906_6 o1906_4 o1906_5 o1906_7 o1906_8 o1906_9 o1906_10 ge_b1840 ge_u1_1843 ge_u2_1843 ge_u3_1843 ge_u4_1843 ne1845 ne1846 ne1847 ne1848 ne1843_4 ne1843_5 ne1843_6 ne1843_7 ne1843_8 ne1843_9) hZ (own_wk hw 27 rfl) (own_wk hw 2 rfl) (by decide) (by decide)) q1913a q1913c (g := (mkF m 119 (own_loc40 p0 p1 p2 p3 p4 p5 b1840 b1851 b1872) [(.double (FP.i2d ((p4 >>> ((24 : Int32) &&& 31)).toInt8.toInt32))), (.double (FP.i2d ((p4 >>> ((16 : Int32) &&& 31)).toInt8.toInt32))), (.int p3), (.int p2), (.ref b1840)])) rfl (by rw [hml]; rfl) (Steps.refl _) (argsL := [(.int p2), (.int p3), (.double (FP.i2d ((p4 >>> ((16 : Int32) &&& 31)).toInt8.toInt32))), (.double (FP.i2d ((p4 >>> ((24 : Int32) &&& 31)).toInt8.toInt32)))]) (rest := []) (lenOf pd_7 rfl) rfl (by show 2 * 0 + _ ≤ _; exact Nat.le_of_eq rfl) (hb hby at_119) (fun _ _ => ⟨rfl, rfl, (by decide : 8 + 0 ≤ _), (by decide : 22 + 0 ≤ _)⟩)
      dsimp only [Pt.U, Pt.locs, Pt.cells, Pt.slots] at X1913 l1913 y1913 z1913 st1913 hQ1913
      subst l1913 y1913 z1913
      obtain ⟨rfl, N1913q, K1913, o1913_0, o1913_1, o1913_2, o1913_3, o1913_4, o1913_5, o1913_6, o1913_7, o1913_8, o1913_9, o1913_10⟩ := hQ1913
      have N1913 := Fr.app N1906 N1913q
      have x1914 := x1907.keep K1913
      have x1915 := x1908.keep K1913 (ninS (Ne.symm ne1852) (ninS (Ne.symm ne1854) (ninS (Ne.symm ne1855) (ninS (Ne.symm ne1856) (ninS (Ne.symm ne1857) nin0)))))
      have x1916 := x1909.keep K1913 (ninS (Ne.symm ne1873) (ninS (Ne.symm ne1875) (ninS (Ne.symm ne1876) (ninS (Ne.symm ne1877) (ninS (Ne.symm ne1878) nin0)))))
      have x1917 := x1910.keep K1913 (ninS (Ne.symm ne1844) (ninS ne1843_0 (ninS ne1843_1 (ninS ne1843_2 (ninS ne1843_3 nin0)))))
      have sz1918 : n0 ≤ T1913.heap.size := Nat.le_trans sz1911 K1913.1
      obtain ⟨cq1919, kq1919, q1919a, q1919b, q1919c⟩ := isOf hZ rfl x1914
      obtain ⟨_, _, ⟨T1919, L1919, k1919, n1919⟩, -, X1919, ⟨Lc1919, hQ1919, l1919, y1919, z1919⟩, st1919⟩ := X1913.virtualBack hx (y := (⟨"com/example/rank60/rank60/FusedList$Explanations", "endDocument", "()V"⟩ : MethodName)) (z := (⟨"com/example/rank60/rank60/FusedList$Explanations", "endDocument", "()V"⟩ : MethodName)) hown (mvT hZ (own_wk hw 30 rfl)) (mvT hZ (own_wk hw 31 rfl)) (notFace_of_selects (args := #[]) (mvT hZ (own_wk hw 33 rfl))) (mvT hZ (own_wk hw 33 rfl)) (mvT hZ (own_wk hw 32 rfl)) (by decide) (backOf (W := 0) (rm4_1 l Z ag hw [] b1840 u0_1843 (2 : Int32) u1_1843 u2_1843 u4_1843 (.ref u3_1843) ku0_1843 (0 : Int32) (0 : Int32) (0 : Int32) T1913.heap n0 sz1918 x1914 o1913_5 o1913_4 o1913_6 o1913_0 o1913_1 o1913_3 o1913_2 x1917 ge_b1840 ge_u0_1843 ne1844) hZ (own_wk hw 34 rfl) (own_wk hw 2 rfl) (by decide) (by decide)) q1919a q1919c (g := (mkF m 135 (own_loc40 p0 p1 p2 p3 p4 p5 b1840 b1851 b1872) [(.ref b1840)])) rfl (by rw [hml]; rfl) (Steps.refl _) (argsL := []) (rest := []) (lenOf pd_2 rfl) rfl (by show 2 * 0 + _ ≤ _; exact Nat.le_of_eq rfl) (hb hby at_135) (fun _ _ => ⟨rfl, rfl, (by decide : 8 + 0 ≤ _), (by decide : 22 + 0 ≤ _)⟩)
      dsimp only [Pt.U, Pt.locs, Pt.cells, Pt.slots] at X1919 l1919 y1919 z1919 st1919 hQ1919
      subst l1919 y1919 z1919
      obtain ⟨rfl, N1919q, K1919, o1919_0, o1919_1, o1919_2, o1919_3, o1919_4, o1919_5, o1919_6, o1919_7⟩ := hQ1919
      have N1919 := Fr.app N1913 N1919q
      have x1920 := x1914.keep K1919
      have x1921 := x1915.keep K1919 (ninS (Ne.symm ne1852) (ninS (Ne.symm ne1853) nin0))
      have x1922 := x1916.keep K1919 (ninS (Ne.symm ne1873) (ninS (Ne.symm ne1874) nin0))
      have x1923 := o1913_7.keep K1919 (ninS (Ne.symm ne1845) (ninS (Ne.symm ne1843_0) nin0))
      have x1924 := o1913_8.keep K1919 (ninS (Ne.symm ne1846) (ninS (Ne.symm ne1843_1) nin0))
      have x1925 := o1913_9.keep K1919 (ninS (Ne.symm ne1847) (ninS (Ne.symm ne1843_2) nin0))
      have x1926 := o1913_10.keep K1919 (ninS (Ne.symm ne1848) (ninS (Ne.symm ne1843_3) nin0))
      have sz1927 : n0 ≤ T1919.heap.size := Nat.le_trans sz1918 K1919.1
      obtain ⟨T1928, h1928, X1928, e1928, E1928, A1928, D1928, -, st1928⟩ := newO X1919 hx hZ hown (own_wk hw 37 rfl) (own_wk hw 38 rfl) (own_wk hw 39 rfl) rfl (g := (mkF m 138 (own_loc40 p0 p1 p2 p3 p4 p5 b1840 b1851 b1872) [])) rfl (hb hby at_138) (by decide) (by decide)
      obtain ⟨b1928, g1928⟩ : ∃ z, z = T1919.heap.size := ⟨_, rfl⟩
      have ne1929 : b1840 ≠ b1928 := Nat.ne_of_lt (Nat.lt_of_lt_of_le x1920.lt (Nat.le_of_eq g1928.symm))
      have ne1930 : u0_1843 ≠ b1928 := Nat.ne_of_lt (Nat.lt_of_lt_of_le o1919_7.lt (Nat.le_of_eq g1928.symm))
      have ne1931 : u1_1843 ≠ b1928 := Nat.ne_of_lt (Nat.lt_of_lt_of_le x1923.lt (Nat.le_of_eq g1928.symm))
      have ne1932 : u2_1843 ≠ b1928 := Nat.ne_of_lt (Nat.lt_of_lt_of_le x1924.lt (Nat.le_of_eq g1928.symm))
      have ne1933 : u3_1843 ≠ b1928 := Nat.ne_of_lt (Nat.lt_of_lt_of_le x1925.lt (Nat.le_of_eq g1928.symm))
      have ne1934 : u4_1843 ≠ b1928 := Nat.ne_of_lt (Nat.lt_of_lt_of_le x1926.lt (Nat.le_of_eq g1928.symm))
      have ne1935 : b1851 ≠ b1928 := Nat.ne_of_lt (Nat.lt_of_lt_of_le x1921.lt (Nat.le_of_eq g1928.symm))
      have ne1936 : b1872 ≠ b1928 := Nat.ne_of_lt (Nat.lt_of_lt_of_le x1922.lt (Nat.le_of_eq g1928.symm))
      have ge_b1928 : n0 ≤ b1928 := Nat.le_trans sz1927 (Nat.le_of_eq g1928.symm)
      rw [← g1928] at A1928 D1928 st1928
      have x1937 := x1920.ext E1928
      have x1938 := x1921.ext E1928
      have x1939 := x1922.ext E1928
      have x1940 := x1923.ext E1928
      have x1941 := x1924.ext E1928
      have x1942 := x1925.ext E1928
      have x1943 := x1926.ext E1928
      have x1944 := o1919_0.ext E1928
      have x1945 := o1919_1.ext E1928
      have x1946 := o1919_2.ext E1928
      have x1947 := o1919_3.ext E1928
      have x1948 := o1919_4.ext E1928
      have x1949 := o1919_5.ext E1928
      have x1950 := o1919_6.ext E1928
      have x1951 := o1919_7.ext E1928
      have sz1952 : n0 ≤ h1928.size := Nat.le_trans sz1927 E1928.1
      have F1928_modCount : Fld Z h1928 b1928 "java/util/AbstractList" "modCount" "I" (.int (0 : Int32)) := D1928 (Or.inl (own_wk hw 59 rfl)) (ty := .int) (by decide)
      have F1928_ids : Fld Z h1928 b1928 "com/example/rank60/rank60/FusedList" "ids" "[Ljava/lang/String;" .null := D1928 (Or.inr (own_wk hw 61 rfl)) (ty := (.array (.object "java/lang/String"))) (by decide)
      have F1928_documents : Fld Z h1928 b1928 "com/example/rank60/rank60/FusedList" "documents" "[I" .null := D1928 (Or.inr (own_wk hw 63 rfl)) (ty := (.array .int)) (by decide)
      have F1928_numbering : Fld Z h1928 b1928 "com/example/rank60/rank60/FusedList" "numbering" "Lcom/example/rank60/rank60/DocumentNumbering;" .null := D1928 (Or.inr (own_wk hw 65 rfl)) (ty := (.object "com/example/rank60/rank60/DocumentNumbering")) (by decide)
      have F1928_scores : Fld Z h1928 b1928 "com/example/rank60/rank60/FusedList" "scores" "[D" .null := D1928 (Or.inr (own_wk hw 67 rfl)) (ty := (.array .double)) (by decide)
      have F1928_firstRank : Fld Z h1928 b1928 "com/example/rank60/rank60/FusedList" "firstRank" "I" (.int (0 : Int32)) := D1928 (Or.inr (own_wk hw 69 rfl)) (ty := .int) (by decide)
      have F1928_explanations : Fld Z h1928 b1928 "com/example/rank60/rank60/FusedList" "explanations" "Lcom/example/rank60/rank60/FusedList$Explanations;" .null := D1928 (Or.inr (own_wk hw 71 rfl)) (ty := (.object "com/example/rank60/rank60/FusedList$Explanations")) (by decide)
      have cp1953 : ∀ target, own_S p e below T1928 (mkF m 149 (own_loc40 p0 p1 p2 p3 p4 p5 b1840 b1851 b1872) [(.ref b1840), .int 1, (.ref b1872), (.ref b1851), (.ref b1928), (.ref b1928)]) target → own_S p e below s₁ (mkF m 0 (own_loc7 p0 p1 p2 p3 p4 p5) []) target := by
        intro target kt
        show own_S p e below s₁ (mkF m 0 (own_loc7 p0 p1 p2 p3 p4 p5) []) _
        refine cp1912 _ ?_
        show own_S p e below T1906 (mkF m 119 (own_loc40 p0 p1 p2 p3 p4 p5 b1840 b1851 b1872) [(.double (FP.i2d ((p4 >>> ((24 : Int32) &&& 31)).toInt8.toInt32))), (.double (FP.i2d ((p4 >>> ((16 : Int32) &&& 31)).toInt8.toInt32))), (.int p3), (.int p2), (.ref b1840)]) _
        refine st1913.trans ?_
        show own_S p e below T1913 (mkF m 122 (own_loc40 p0 p1 p2 p3 p4 p5 b1840 b1851 b1872) []) _
        refine XS.iload X1913.here hx rfl (hb hby at_122) rfl ?_
        show own_S p e below T1913 (mkF m 124 (own_loc40 p0 p1 p2 p3 p4 p5 b1840 b1851 b1872) [(.int ((own_ushr p5 (1 : Int32)) % (3 : Int32)))]) _
        refine XS.iconst X1913.here hx rfl (hb hby at_124) ?_
        show own_S p e below T1913 (mkF m 125 (own_loc40 p0 p1 p2 p3 p4 p5 b1840 b1851 b1872) [.int 2, (.int ((own_ushr p5 (1 : Int32)) % (3 : Int32)))]) _
        refine XS.icmpYes X1913.here hx rfl (pc0 := 125) (pc' := 133) rfl (hb hby at_125) rfl (feq (show ¬ (((own_ushr p5 (1 : Int32)) % (3 : Int32)) = (2 : Int32)) from (fun q => absurd (hc1895.symm.trans q) (by decide)))).2 (by decide) (by decide) ?_
        show own_S p e below T1913 (mkF m 133 (own_loc40 p0 p1 p2 p3 p4 p5 b1840 b1851 b1872) []) _
        refine XS.aload X1913.here hx rfl (hb hby at_133) rfl rfl ?_
        show own_S p e below T1913 (mkF m 135 (own_loc40 p0 p1 p2 p3 p4 p5 b1840 b1851 b1872) [(.ref b1840)]) _
        refine st1919.trans ?_
        show own_S p e below T1919 (mkF m 138 (own_loc40 p0 p1 p2 p3 p4 p5 b1840 b1851 b1872) []) _
        refine st1928 _ ?_
        show own_S p e below T1928 (mkF m 141 (own_loc40 p0 p1 p2 p3 p4 p5 b1840 b1851 b1872) [(.ref b1928)]) _
        refine XS.dup X1928.here hx rfl (hb hby at_141) rfl rfl ?_
        show own_S p e below T1928 (mkF m 142 (own_loc40 p0 p1 p2 p3 p4 p5 b1840 b1851 b1872) [(.ref b1928), (.ref b1928)]) _
        refine XS.aload X1928.here hx rfl (hb hby at_142) rfl rfl ?_
        show own_S p e below T1928 (mkF m 144 (own_loc40 p0 p1 p2 p3 p4 p5 b1840 b1851 b1872) [(.ref b1851), (.ref b1928), (.ref b1928)]) _
        refine XS.aload X1928.here hx rfl (hb hby at_144) rfl rfl ?_
        show own_S p e below T1928 (mkF m 146 (own_loc40 p0 p1 p2 p3 p4 p5 b1840 b1851 b1872) [(.ref b1872), (.ref b1851), (.ref b1928), (.ref b1928)]) _
        refine XS.iconst X1928.here hx rfl (hb hby at_146) ?_
        show own_S p e below T1928 (mkF m 147 (own_loc40 p0 p1 p2 p3 p4 p5 b1840 b1851 b1872) [.int 1, (.ref b1872), (.ref b1851), (.ref b1928), (.ref b1928)]) _
        refine XS.aload X1928.here hx rfl (hb hby at_147) rfl rfl ?_
        exact kt
      obtain ⟨_, _, ⟨T1954, L1954, k1954, n1954⟩, -, X1954, ⟨Lc1954, hQ1954, l1954, y1954, z1954⟩, st1954⟩ := X1928.specialBack hx (y := (⟨"com/example/rank60/rank60/FusedList", "<init>", "([Ljava/lang/String;[DILcom/example/rank60/rank60/FusedList$Explanations;)V"⟩ : MethodName)) rfl hown (mvT hZ (own_wk hw 40 rfl)) (mvT hZ (own_wk hw 41 rfl)) (mvT hZ (own_wk hw 42 rfl)) (by decide) (backOf (W := 1) (rm5 l Z ag hw [] b1928 b1851 b1872 (1 : Int32) b1840  h1928 n0 sz1952 A1928 F1928_modCount F1928_ids F1928_documents F1928_numbering F1928_scores F1928_explanations F1928_firstRank ge_b1928) hZ (own_wk hw 42 rfl) (own_wk hw 39 rfl) (by decide) (by decide)) (g := (mkF m 149 (own_loc40 p0 p1 p2 p3 p4 p5 b1840 b1851 b1872) [(.ref b1840), .int 1, (.ref b1872), (.ref b1851), (.ref b1928), (.ref b1928)])) rfl (by rw [hml]; rfl) (Steps.refl _) (a := b1928) (argsL := [(.ref b1851), (.ref b1872), (.int (1 : Int32)), (.ref b1840)]) (rest := [(.ref b1928)]) (lenOf pd_12 rfl) rfl (by show 2 * 0 + _ ≤ _; exact Nat.le_of_eq rfl) (hb hby at_149) (fun _ _ => ⟨rfl, e1928, (by decide : 9 + 0 ≤ _), (by decide : 29 + 0 ≤ _)⟩)
      dsimp only [Pt.U, Pt.locs, Pt.cells, Pt.slots] at X1954 l1954 y1954 z1954 st1954 hQ1954
      subst l1954 y1954 z1954
      obtain ⟨rfl, N1954q, K1954, o1954_0, o1954_1⟩ := hQ1954
      have N1954 := Fr.app N1919 N1954q
      have x1955 := x1937.keep K1954
      have x1956 := x1938.keep K1954 (ninS ne1935 nin0)
      have x1957 := x1939.keep K1954 (ninS ne1936 nin0)
      have x1958 := x1940.keep K1954 (ninS ne1931 nin0)
      have x1959 := x1941.keep K1954 (ninS ne1932 nin0)
      have x1960 := x1942.keep K1954 (ninS ne1933 nin0)
      have x1961 := x1943.keep K1954 (ninS ne1934 nin0)
      have x1962 := x1944.keep K1954 (ninS ne1929 nin0)
      have x1963 := x1945.keep K1954 (ninS ne1929 nin0)
      have x1964 := x1946.keep K1954 (ninS ne1929 nin0)
      have x1965 := x1947.keep K1954 (ninS ne1929 nin0)
      have x1966 := x1948.keep K1954 (ninS ne1929 nin0)
      have x1967 := x1949.keep K1954 (ninS ne1929 nin0)
      have x1968 := x1950.keep K1954 (ninS ne1929 nin0)
      have x1969 := x1951.keep K1954 (ninS ne1930 nin0)
      have x1970 := A1928.keep K1954
      have sz1971 : n0 ≤ T1954.heap.size := Nat.le_trans sz1952 K1954.1
      obtain ⟨cq1972, kq1972, q1972a, q1972b, q1972c⟩ := isOf hZ rfl x1970
      obtain ⟨_, _, ⟨T1972, L1972, k1972, n1972⟩, -, X1972, ⟨Lc1972, hQ1972, l1972, y1972, z1972⟩, st1972⟩ := X1954.virtualBack hx (y := (⟨"com/example/rank60/rank60/FusedList", "contributions", "(I)Ljava/util/List;"⟩ : MethodName)) (z := (⟨"com/example/rank60/rank60/FusedList", "contributions", "(I)Ljava/util/List;"⟩ : MethodName)) hown (mvT hZ (own_wk hw 72 rfl)) (mvT hZ (own_wk hw 73 rfl)) (notFace_of_selects (args := #[]) (mvT hZ (own_wk hw 75 rfl))) (mvT hZ (own_wk hw 75 rfl)) (mvT hZ (own_wk hw 74 rfl)) (by decide) (backOf (W := 0) (rm9_0 l Z ag hw [] b1928 b1872 k1872 (FP.l2d 0) (FP.l2d 0) b1840 u0_1843 ku0_1843 (0 : Int32) (0 : Int32) (2 : Int32) T1954.heap n0 sz1971 x1970 o1954_0 x1957 o1954_1 x1955 x1962 x1969) hZ (own_wk hw 76 rfl) (own_wk hw 39 rfl) (by decide) (by decide)) q1972a q1972c (g := (mkF m 157 (own_loc41 p0 p1 p2 p3 p4 p5 b1840 b1851 b1872 b1928) [.int 0, (.ref b1928)])) rfl (by rw [hml]; rfl) (Steps.refl _) (argsL := [(.int (0 : Int32))]) (rest := []) (lenOf pd_5 rfl) rfl (by show 2 * 0 + _ ≤ _; exact Nat.le_of_eq rfl) (hb hby at_157) (fun _ _ => ⟨rfl, rfl, (by decide : 9 + 1 ≤ _), (by decide : 29 + 4 ≤ _)⟩)
      dsimp only [Pt.U, Pt.locs, Pt.cells, Pt.slots] at X1972 l1972 y1972 z1972 st1972 hQ1972
      subst l1972 y1972 z1972
      obtain ⟨r1972, rfl, N1972q, K1972, ge_r1972, gq_r1972, o1972_0, o1972_1, o1972_2, o1972_3⟩ := hQ1972
      have N1972 := Fr.app N1954 N1972q
      have x1973 := x1955.keep K1972
      have x1974 := x1956.keep K1972 nin0
      have x1975 := x1957.keep K1972 nin0
      have x1976 := x1958.keep K1972 nin0
      have x1977 := x1959.keep K1972 nin0
      have x1978 := x1960.keep K1972 nin0
      have x1979 := x1961.keep K1972 nin0
      have x1980 := x1962.keep K1972 nin0
      have x1981 := x1963.keep K1972 nin0
      have x1982 := x1964.keep K1972 nin0
      have x1983 := x1965.keep K1972 nin0
      have x1984 := x1966.keep K1972 nin0
      have x1985 := x1967.keep K1972 nin0
      have x1986 := x1968.keep K1972 nin0
      have x1987 := x1969.keep K1972 nin0
      have x1988 := x1970.keep K1972
      have x1989 := o1954_0.keep K1972 nin0
      have x1990 := o1954_1.keep K1972 nin0
      have sz1991 : n0 ≤ T1972.heap.size := Nat.le_trans sz1971 K1972.1
      obtain ⟨cq1992, kq1992, q1992a, q1992b, q1992c⟩ := isOf hZ rfl x1988
      obtain ⟨_, _, ⟨T1992, L1992, k1992, n1992⟩, -, X1992, ⟨Lc1992, hQ1992, l1992, y1992, z1992⟩, st1992⟩ := X1972.virtualBack hx (y := (⟨"com/example/rank60/rank60/FusedList", "contributions", "(I)Ljava/util/List;"⟩ : MethodName)) (z := (⟨"com/example/rank60/rank60/FusedList", "contributions", "(I)Ljava/util/List;"⟩ : MethodName)) hown (mvT hZ (own_wk hw 72 rfl)) (mvT hZ (own_wk hw 73 rfl)) (notFace_of_selects (args := #[]) (mvT hZ (own_wk hw 75 rfl))) (mvT hZ (own_wk hw 75 rfl)) (mvT hZ (own_wk hw 74 rfl)) (by decide) (backOf (W := 0) (rm9_1 l Z ag hw [] b1928 b1872 k1872 (FP.l2d 0) (FP.l2d 0) b1840 u0_1843 ku0_1843 (0 : Int32) (0 : Int32) (2 : Int32) T1972.heap n0 sz1991 x1988 x1989 x1975 x1990 x1973 x1980 x1987) hZ (own_wk hw 76 rfl) (own_wk hw 39 rfl) (by decide) (by decide)) q1992a q1992c (g := (mkF m 165 (own_loc42 p0 p1 p2 p3 p4 p5 b1840 b1851 b1872 b1928 r1972) [.int 1, (.ref b1928)])) rfl (by rw [hml]; rfl) (Steps.refl _) (argsL := [(.int (1 : Int32))]) (rest := []) (lenOf pd_5 rfl) rfl (by show 2 * 0 + _ ≤ _; exact Nat.le_of_eq rfl) (hb hby at_165) (fun _ _ => ⟨rfl, rfl, (by decide : 10 + 1 ≤ _), (by decide : 33 + 4 ≤ _)⟩)
      dsimp only [Pt.U, Pt.locs, Pt.cells, Pt.slots] at X1992 l1992 y1992 z1992 st1992 hQ1992
      subst l1992 y1992 z1992
      obtain ⟨r1992, rfl, N1992q, K1992, ge_r1992, gq_r1992, o1992_0, o1992_1, o1992_2, o1992_3⟩ := hQ1992
      have N1992 := Fr.app N1972 N1992q
      have x1993 := x1973.keep K1992
      have x1994 := x1974.keep K1992 nin0
      have x1995 := x1975.keep K1992 nin0
      have x1996 := x1976.keep K1992 nin0
      have x1997 := x1977.keep K1992 nin0
      have x1998 := x1978.keep K1992 nin0
      have x1999 := x1979.keep K1992 nin0
      have x2000 := x1980.keep K1992 nin0
      have x2001 := x1981.keep K1992 nin0
      have x2002 := x1982.keep K1992 nin0
      have x2003 := x1983.keep K1992 nin0
      have x2004 := x1984.keep K1992 nin0
      have x2005 := x1985.keep K1992 nin0
      have x2006 := x1986.keep K1992 nin0
      have x2007 := x1987.keep K1992 nin0
      have x2008 := x1988.keep K1992
      have x2009 := x1989.keep K1992 nin0
      have x2010 := x1990.keep K1992 nin0
      have x2011 := o1972_0.keep K1992
      have x2012 := o1972_1.keep K1992 nin0
      have x2013 := o1972_2.keep K1992 nin0
      have x2014 := o1972_3.keep K1992 nin0
      have sz2015 : n0 ≤ T1992.heap.size := Nat.le_trans sz1991 K1992.1
      obtain ⟨cq2016, kq2016, q2016a, q2016b, q2016c⟩ := isOf hZ rfl x2011
      obtain ⟨_, _, ⟨T2016, L2016, k2016, n2016⟩, -, X2016, ⟨Lc2016, hQ2016, l2016, y2016, z2016⟩, st2016⟩ := X1992.interfaceBack hx (xi := (⟨"java/util/List", "size", "()I"⟩ : MethodName)) (y := (⟨"com/example/rank60/rank60/FusedList$Explanations$DocumentContributions", "size", "()I"⟩ : MethodName)) hown (mvT hZ (own_wk hw 104 rfl)) (mvT hZ (own_wk hw 105 rfl)) (mvT hZ (own_wk hw 106 rfl)) (mvT hZ (own_wk hw 107 rfl)) (mvT hZ (own_wk hw 108 rfl)) (mvT hZ (own_wk hw 109 rfl)) (mvT hZ (own_wk hw 110 rfl)) (mvT hZ (own_wk hw 111 rfl)) (by decide) (backOf (W := 0) (rm14 l Z ag hw [] r1972 ((0 : Int32) - (0 : Int32)) T1992.heap n0 sz2015 x2014) hZ (own_wk hw 112 rfl) (own_wk hw 91 rfl) (by decide) (by decide)) q2016a q2016b q2016c (g := (mkF m 172 (own_loc43 p0 p1 p2 p3 p4 p5 b1840 b1851 b1872 b1928 r1972 r1992) [(.ref r1972)])) rfl (by rw [hml]; rfl) (Steps.refl _) (argsL := []) (rest := []) (lenOf pd_1 rfl) rfl (by show 2 * 0 + _ ≤ _; exact Nat.le_of_eq rfl) (hb hby at_172) (fun _ _ => ⟨rfl, rfl, (by decide : 11 + 0 ≤ _), (by decide : 37 + 0 ≤ _)⟩)
      dsimp only [Pt.U, Pt.locs, Pt.cells, Pt.slots] at X2016 l2016 y2016 z2016 st2016 hQ2016
      subst l2016 y2016 z2016
      obtain ⟨rfl, N2016q, e2016⟩ := hQ2016
      have N2016 := Fr.app N1992 N2016q
      have cp2017 : ∀ target, own_S p e below T2016 (mkF m 184 (own_loc43 p0 p1 p2 p3 p4 p5 b1840 b1851 b1872 b1928 r1972 r1992) [(.ref r1992)]) target → own_S p e below s₁ (mkF m 0 (own_loc7 p0 p1 p2 p3 p4 p5) []) target := by
        intro target kt
        show own_S p e below s₁ (mkF m 0 (own_loc7 p0 p1 p2 p3 p4 p5) []) _
        refine cp1953 _ ?_
        show own_S p e below T1928 (mkF m 149 (own_loc40 p0 p1 p2 p3 p4 p5 b1840 b1851 b1872) [(.ref b1840), .int 1, (.ref b1872), (.ref b1851), (.ref b1928), (.ref b1928)]) _
        refine st1954.trans ?_
        show own_S p e below T1954 (mkF m 152 (own_loc40 p0 p1 p2 p3 p4 p5 b1840 b1851 b1872) [(.ref b1928)]) _
        refine XS.astore X1954.here hx rfl (hb hby at_152) rfl rfl (l' := (own_loc41 p0 p1 p2 p3 p4 p5 b1840 b1851 b1872 b1928)) rfl ?_
        show own_S p e below T1954 (mkF m 154 (own_loc41 p0 p1 p2 p3 p4 p5 b1840 b1851 b1872 b1928) []) _
        refine XS.aload X1954.here hx rfl (hb hby at_154) rfl rfl ?_
        show own_S p e below T1954 (mkF m 156 (own_loc41 p0 p1 p2 p3 p4 p5 b1840 b1851 b1872 b1928) [(.ref b1928)]) _
        refine XS.iconst X1954.here hx rfl (hb hby at_156) ?_
        show own_S p e below T1954 (mkF m 157 (own_loc41 p0 p1 p2 p3 p4 p5 b1840 b1851 b1872 b1928) [.int 0, (.ref b1928)]) _
        refine st1972.trans ?_
        show own_S p e below T1972 (mkF m 160 (own_loc41 p0 p1 p2 p3 p4 p5 b1840 b1851 b1872 b1928) [(.ref r1972)]) _
        refine XS.astore X1972.here hx rfl (hb hby at_160) rfl rfl (l' := (own_loc42 p0 p1 p2 p3 p4 p5 b1840 b1851 b1872 b1928 r1972)) rfl ?_
        show own_S p e below T1972 (mkF m 162 (own_loc42 p0 p1 p2 p3 p4 p5 b1840 b1851 b1872 b1928 r1972) []) _
        refine XS.aload X1972.here hx rfl (hb hby at_162) rfl rfl ?_
        show own_S p e below T1972 (mkF m 164 (own_loc42 p0 p1 p2 p3 p4 p5 b1840 b1851 b1872 b1928 r1972) [(.ref b1928)]) _
        refine XS.iconst X1972.here hx rfl (hb hby at_164) ?_
        show own_S p e below T1972 (mkF m 165 (own_loc42 p0 p1 p2 p3 p4 p5 b1840 b1851 b1872 b1928 r1972) [.int 1, (.ref b1928)]) _
        refine st1992.trans ?_
        show own_S p e below T1992 (mkF m 168 (own_loc42 p0 p1 p2 p3 p4 p5 b1840 b1851 b1872 b1928 r1972) [(.ref r1992)]) _
        refine XS.astore X1992.here hx rfl (hb hby at_168) rfl rfl (l' := (own_loc43 p0 p1 p2 p3 p4 p5 b1840 b1851 b1872 b1928 r1972 r1992)) rfl ?_
        show own_S p e below T1992 (mkF m 170 (own_loc43 p0 p1 p2 p3 p4 p5 b1840 b1851 b1872 b1928 r1972 r1992) []) _
        refine XS.aload X1992.here hx rfl (hb hby at_170) rfl rfl ?_
        show own_S p e below T1992 (mkF m 172 (own_loc43 p0 p1 p2 p3 p4 p5 b1840 b1851 b1872 b1928 r1972 r1992) [(.ref r1972)]) _
        refine st2016.trans ?_
        show own_S p e below T2016 (mkF m 177 (own_loc43 p0 p1 p2 p3 p4 p5 b1840 b1851 b1872 b1928 r1972 r1992) [(.int ((0 : Int32) - (0 : Int32)))]) _
        refine XS.iload X2016.here hx rfl (hb hby at_177) rfl ?_
        show own_S p e below T2016 (mkF m 179 (own_loc43 p0 p1 p2 p3 p4 p5 b1840 b1851 b1872 b1928 r1972 r1992) [(.int ((own_ushr p5 (1 : Int32)) % (3 : Int32))), (.int ((0 : Int32) - (0 : Int32)))]) _
        refine XS.icmpNo X2016.here hx rfl (hb hby at_179) rfl (teq (show ((0 : Int32) - (0 : Int32)) = ((own_ushr p5 (1 : Int32)) % (3 : Int32)) from (by rw [hc1895]; first | done | decide))).2 ?_
        show own_S p e below T2016 (mkF m 182 (own_loc43 p0 p1 p2 p3 p4 p5 b1840 b1851 b1872 b1928 r1972 r1992) []) _
        refine XS.aload X2016.here hx rfl (hb hby at_182) rfl rfl ?_
        exact kt
      obtain ⟨cq2018, kq2018, q2018a, q2018b, q2018c⟩ := isOf hZ e2016 o1992_0
      obtain ⟨_, _, ⟨T2018, L2018, k2018, n2018⟩, -, X2018, ⟨Lc2018, hQ2018, l2018, y2018, z2018⟩, st2018⟩ := X2016.interfaceBack hx (xi := (⟨"java/util/List", "size", "()I"⟩ : MethodName)) (y := (⟨"com/example/rank60/rank60/FusedList$Explanations$DocumentContributions", "size", "()I"⟩ : MethodName)) hown (mvT hZ (own_wk hw 104 rfl)) (mvT hZ (own_wk hw 105 rfl)) (mvT hZ (own_wk hw 106 rfl)) (mvT hZ (own_wk hw 107 rfl)) (mvT hZ (own_wk hw 108 rfl)) (mvT hZ (own_wk hw 109 rfl)) (mvT hZ (own_wk hw 110 rfl)) (mvT hZ (own_wk hw 111 rfl)) (by decide) (backOf (W := 0) (rm14 l Z ag hw [] r1992 ((2 : Int32) - (0 : Int32)) T1992.heap n0 sz2015 o1992_3) hZ (own_wk hw 112 rfl) (own_wk hw 91 rfl) (by decide) (by decide)) q2018a q2018b q2018c (g := (mkF m 184 (own_loc43 p0 p1 p2 p3 p4 p5 b1840 b1851 b1872 b1928 r1972 r1992) [(.ref r1992)])) rfl (by rw [hml]; rfl) (Steps.refl _) (argsL := []) (rest := []) (lenOf pd_1 rfl) rfl (by show 2 * 0 + _ ≤ _; exact Nat.le_of_eq rfl) (hb hby at_184) (fun _ _ => ⟨rfl, e2016, (by decide : 11 + 0 ≤ _), (by decide : 37 + 0 ≤ _)⟩)
      dsimp only [Pt.U, Pt.locs, Pt.cells, Pt.slots] at X2018 l2018 y2018 z2018 st2018 hQ2018
      subst l2018 y2018 z2018
      obtain ⟨rfl, N2018q, e2018⟩ := hQ2018
      have N2018 := Fr.app N2016 N2018q
      obtain ⟨cq2019, kq2019, q2019a, q2019b, q2019c⟩ := isOf hZ e2018 o1992_0
      obtain ⟨_, _, ⟨T2019, L2019, k2019, n2019⟩, -, X2019, ⟨Lc2019, hQ2019, l2019, y2019, z2019⟩, st2019⟩ := X2018.interfaceBack hx (xi := (⟨"java/util/List", "get", "(I)Ljava/lang/Object;"⟩ : MethodName)) (y := (⟨"com/example/rank60/rank60/FusedList$Explanations$DocumentContributions", "get", "(I)Ljava/lang/Object;"⟩ : MethodName)) hown (mvT hZ (own_wk hw 113 rfl)) (mvT hZ (own_wk hw 114 rfl)) (mvT hZ (own_wk hw 115 rfl)) (mvT hZ (own_wk hw 116 rfl)) (mvT hZ (own_wk hw 117 rfl)) (mvT hZ (own_wk hw 118 rfl)) (mvT hZ (own_wk hw 119 rfl)) (mvT hZ (own_wk hw 111 rfl)) (by decide) (backOf (W := 0) (rm15_001 l Z ag hw [] r1992 ((2 : Int32) - (0 : Int32)) b1840 u1_1843 u2_1843 u3_1843 u4_1843 ku1_1843 p0 p2 ku2_1843 p1 p3 ku3_1843 (FP.i2d (p4.toInt8.toInt32)) (FP.i2d ((p4 >>> ((16 : Int32) &&& 31)).toInt8.toInt32)) ku4_1843 (FP.i2d ((p4 >>> ((8 : Int32) &&& 31)).toInt8.toInt32)) (FP.i2d ((p4 >>> ((24 : Int32) &&& 31)).toInt8.toInt32)) T1992.heap n0 sz2015 o1992_0 o1992_2 o1992_3 o1992_1 x1993 x2003 x2004 x2006 x2005 x1996 x1997 x1998 x1999 (by decide)) hZ (own_wk hw 120 rfl) (own_wk hw 91 rfl) (by decide) (by decide)) q2019a q2019b q2019c (g := (mkF m 206 (own_loc43 p0 p1 p2 p3 p4 p5 b1840 b1851 b1872 b1928 r1972 r1992) [.int 0, (.ref r1992)])) rfl (by rw [hml]; rfl) (Steps.refl _) (argsL := [(.int (0 : Int32))]) (rest := []) (lenOf pd_4 rfl) rfl (by show 2 * 0 + _ ≤ _; exact Nat.le_of_eq rfl) (hb hby at_206) (fun _ _ => ⟨rfl, e2018, (by decide : 11 + 1 ≤ _), (by decide : 37 + 4 ≤ _)⟩)
      dsimp only [Pt.U, Pt.locs, Pt.cells, Pt.slots] at X2019 l2019 y2019 z2019 st2019 hQ2019
      subst l2019 y2019 z2019
      obtain ⟨r2019, rfl, N2019q, K2019, ge_r2019, gq_r2019, o2019_0, o2019_1, o2019_2, o2019_3, o2019_4⟩ := hQ2019
      have N2019 := Fr.app N2018 N2019q
      have x2020 := x1993.keep K2019
      have x2021 := x1994.keep K2019 nin0
      have x2022 := x1995.keep K2019 nin0
      have x2023 := x1996.keep K2019 nin0
      have x2024 := x1997.keep K2019 nin0
      have x2025 := x1998.keep K2019 nin0
      have x2026 := x1999.keep K2019 nin0
      have x2027 := x2000.keep K2019 nin0
      have x2028 := x2001.keep K2019 nin0
      have x2029 := x2002.keep K2019 nin0
      have x2030 := x2003.keep K2019 nin0
      have x2031 := x2004.keep K2019 nin0
      have x2032 := x2005.keep K2019 nin0
      have x2033 := x2006.keep K2019 nin0
      have x2034 := x2007.keep K2019 nin0
      have x2035 := x2008.keep K2019
      have x2036 := x2009.keep K2019 nin0
      have x2037 := x2010.keep K2019 nin0
      have x2038 := x2011.keep K2019
      have x2039 := x2012.keep K2019 nin0
      have x2040 := x2013.keep K2019 nin0
      have x2041 := x2014.keep K2019 nin0
      have x2042 := o1992_0.keep K2019
      have x2043 := o1992_1.keep K2019 nin0
      have x2044 := o1992_2.keep K2019 nin0
      have x2045 := o1992_3.keep K2019 nin0
      have sz2046 : n0 ≤ T2019.heap.size := Nat.le_trans sz2015 K2019.1
      obtain ⟨T2047, X2047, e2047, st2047⟩ := castY X2019 hx hZ hown (own_wk hw 151 rfl) rfl (Ins.self o2019_0) (g := (mkF m 211 (own_loc43 p0 p1 p2 p3 p4 p5 b1840 b1851 b1872 b1928 r1972 r1992) [(.ref r2019)])) rfl rfl (hb hby at_211)
      have cp2048 : ∀ target, own_S p e below T2047 (mkF m 219 (own_loc44 p0 p1 p2 p3 p4 p5 b1840 b1851 b1872 b1928 r1972 r1992 r2019) [.int 1, (.ref r1992)]) target → own_S p e below s₁ (mkF m 0 (own_loc7 p0 p1 p2 p3 p4 p5) []) target := by
        intro target kt
        show own_S p e below s₁ (mkF m 0 (own_loc7 p0 p1 p2 p3 p4 p5) []) _
        refine cp2017 _ ?_
        show own_S p e below T2016 (mkF m 184 (own_loc43 p0 p1 p2 p3 p4 p5 b1840 b1851 b1872 b1928 r1972 r1992) [(.ref r1992)]) _
        refine st2018.trans ?_
        show own_S p e below T2018 (mkF m 189 (own_loc43 p0 p1 p2 p3 p4 p5 b1840 b1851 b1872 b1928 r1972 r1992) [(.int ((2 : Int32) - (0 : Int32)))]) _
        refine XS.iconst X2018.here hx rfl (hb hby at_189) ?_
        show own_S p e below T2018 (mkF m 190 (own_loc43 p0 p1 p2 p3 p4 p5 b1840 b1851 b1872 b1928 r1972 r1992) [.int 2, (.int ((2 : Int32) - (0 : Int32)))]) _
        refine XS.iload X2018.here hx rfl (hb hby at_190) rfl ?_
        show own_S p e below T2018 (mkF m 192 (own_loc43 p0 p1 p2 p3 p4 p5 b1840 b1851 b1872 b1928 r1972 r1992) [(.int ((own_ushr p5 (1 : Int32)) % (3 : Int32))), .int 2, (.int ((2 : Int32) - (0 : Int32)))]) _
        refine XS.isub X2018.here hx rfl (hb hby at_192) rfl ?_
        show own_S p e below T2018 (mkF m 193 (own_loc43 p0 p1 p2 p3 p4 p5 b1840 b1851 b1872 b1928 r1972 r1992) [(.int ((2 : Int32) - ((own_ushr p5 (1 : Int32)) % (3 : Int32)))), (.int ((2 : Int32) - (0 : Int32)))]) _
        refine XS.icmpYes X2018.here hx rfl (pc0 := 193) (pc' := 198) rfl (hb hby at_193) rfl (teq (show ((2 : Int32) - (0 : Int32)) = ((2 : Int32) - ((own_ushr p5 (1 : Int32)) % (3 : Int32))) from (by rw [hc1895]; first | done | decide))).1 (by decide) (by decide) ?_
        show own_S p e below T2018 (mkF m 198 (own_loc43 p0 p1 p2 p3 p4 p5 b1840 b1851 b1872 b1928 r1972 r1992) []) _
        refine XS.iload X2018.here hx rfl (hb hby at_198) rfl ?_
        show own_S p e below T2018 (mkF m 200 (own_loc43 p0 p1 p2 p3 p4 p5 b1840 b1851 b1872 b1928 r1972 r1992) [(.int ((own_ushr p5 (1 : Int32)) % (3 : Int32)))]) _
        refine XS.ifNo X2018.here hx rfl (hb hby at_200) rfl ((if0 _ _).trans (teq hc1895).2) ?_
        show own_S p e below T2018 (mkF m 203 (own_loc43 p0 p1 p2 p3 p4 p5 b1840 b1851 b1872 b1928 r1972 r1992) []) _
        refine XS.aload X2018.here hx rfl (hb hby at_203) rfl rfl ?_
        show own_S p e below T2018 (mkF m 205 (own_loc43 p0 p1 p2 p3 p4 p5 b1840 b1851 b1872 b1928 r1972 r1992) [(.ref r1992)]) _
        refine XS.iconst X2018.here hx rfl (hb hby at_205) ?_
        show own_S p e below T2018 (mkF m 206 (own_loc43 p0 p1 p2 p3 p4 p5 b1840 b1851 b1872 b1928 r1972 r1992) [.int 0, (.ref r1992)]) _
        refine st2019.trans ?_
        show own_S p e below T2019 (mkF m 211 (own_loc43 p0 p1 p2 p3 p4 p5 b1840 b1851 b1872 b1928 r1972 r1992) [(.ref r2019)]) _
        refine st2047 _ ?_
        show own_S p e below T2047 (mkF m 214 (own_loc43 p0 p1 p2 p3 p4 p5 b1840 b1851 b1872 b1928 r1972 r1992) [(.ref r2019)]) _
        refine XS.astore X2047.here hx rfl (hb hby at_214) rfl rfl (l' := (own_loc44 p0 p1 p2 p3 p4 p5 b1840 b1851 b1872 b1928 r1972 r1992 r2019)) rfl ?_
        show own_S p e below T2047 (mkF m 216 (own_loc44 p0 p1 p2 p3 p4 p5 b1840 b1851 b1872 b1928 r1972 r1992 r2019) []) _
        refine XS.aload X2047.here hx rfl (hb hby at_216) rfl rfl ?_
        show own_S p e below T2047 (mkF m 218 (own_loc44 p0 p1 p2 p3 p4 p5 b1840 b1851 b1872 b1928 r1972 r1992 r2019) [(.ref r1992)]) _
        refine XS.iconst X2047.here hx rfl (hb hby at_218) ?_
        exact kt
      obtain ⟨cq2049, kq2049, q2049a, q2049b, q2049c⟩ := isOf hZ e2047 x2042
      obtain ⟨_, _, ⟨T2049, L2049, k2049, n2049⟩, -, X2049, ⟨Lc2049, hQ2049, l2049, y2049, z2049⟩, st2049⟩ := X2047.interfaceBack hx (xi := (⟨"java/util/List", "get", "(I)Ljava/lang/Object;"⟩ : MethodName)) (y := (⟨"com/example/rank60/rank60/FusedList$Explanations$DocumentContributions", "get", "(I)Ljava/lang/Object;"⟩ : MethodName)) hown (mvT hZ (own_wk hw 113 rfl)) (mvT hZ (own_wk hw 114 rfl)) (mvT hZ (own_wk hw 115 rfl)) (mvT hZ (own_wk hw 116 rfl)) (mvT hZ (own_wk hw 117 rfl)) (mvT hZ (own_wk hw 118 rfl)) (mvT hZ (own_wk hw 119 rfl)) (mvT hZ (own_wk hw 111 rfl)) (by decide) (backOf (W := 0) (rm15_101 l Z ag hw [] r1992 ((2 : Int32) - (0 : Int32)) b1840 u1_1843 u2_1843 u3_1843 u4_1843 ku1_1843 p0 p2 ku2_1843 p1 p3 ku3_1843 (FP.i2d (p4.toInt8.toInt32)) (FP.i2d ((p4 >>> ((16 : Int32) &&& 31)).toInt8.toInt32)) ku4_1843 (FP.i2d ((p4 >>> ((8 : Int32) &&& 31)).toInt8.toInt32)) (FP.i2d ((p4 >>> ((24 : Int32) &&& 31)).toInt8.toInt32)) T2019.heap n0 sz2046 x2042 x2044 x2045 x2043 x2020 x2030 x2031 x2033 x2032 x2023 x2024 x2025 x2026 (by decide)) hZ (own_wk hw 120 rfl) (own_wk hw 91 rfl) (by decide) (by decide)) q2049a q2049b q2049c (g := (mkF m 219 (own_loc44 p0 p1 p2 p3 p4 p5 b1840 b1851 b1872 b1928 r1972 r1992 r2019) [.int 1, (.ref r1992)])) rfl (by rw [hml]; rfl) (Steps.refl _) (argsL := [(.int (1 : Int32))]) (rest := []) (lenOf pd_4 rfl) rfl (by show 2 * 0 + _ ≤ _; exact Nat.le_of_eq rfl) (hb hby at_219) (fun _ _ => ⟨rfl, e2047, (by decide : 12 + 1 ≤ _), (by decide : 41 + 4 ≤ _)⟩)
      dsimp only [Pt.U, Pt.locs, Pt.cells, Pt.slots] at X2049 l2049 y2049 z2049 st2049 hQ2049
      subst l2049 y2049 z2049
      obtain ⟨r2049, rfl, N2049q, K2049, ge_r2049, gq_r2049, o2049_0, o2049_1, o2049_2, o2049_3, o2049_4⟩ := hQ2049
      have N2049 := Fr.app N2019 N2049q
      have x2050 := x2020.keep K2049
      have x2051 := x2021.keep K2049 nin0
      have x2052 := x2022.keep K2049 nin0
      have x2053 := x2023.keep K2049 nin0
      have x2054 := x2024.keep K2049 nin0
      have x2055 := x2025.keep K2049 nin0
      have x2056 := x2026.keep K2049 nin0
      have x2057 := x2027.keep K2049 nin0
      have x2058 := x2028.keep K2049 nin0
      have x2059 := x2029.keep K2049 nin0
      have x2060 := x2030.keep K2049 nin0
      have x2061 := x2031.keep K2049 nin0
      have x2062 := x2032.keep K2049 nin0
      have x2063 := x2033.keep K2049 nin0
      have x2064 := x2034.keep K2049 nin0
      have x2065 := x2035.keep K2049
      have x2066 := x2036.keep K2049 nin0
      have x2067 := x2037.keep K2049 nin0
      have x2068 := x2038.keep K2049
      have x2069 := x2039.keep K2049 nin0
      have x2070 := x2040.keep K2049 nin0
      have x2071 := x2041.keep K2049 nin0
      have x2072 := x2042.keep K2049
      have x2073 := x2043.keep K2049 nin0
      have x2074 := x2044.keep K2049 nin0
      have x2075 := x2045.keep K2049 nin0
      have x2076 := o2019_0.keep K2049
      have x2077 := o2019_1.keep K2049 nin0
      have x2078 := o2019_2.keep K2049 nin0
      have x2079 := o2019_3.keep K2049 nin0
      have x2080 := o2019_4.keep K2049 nin0
      have sz2081 : n0 ≤ T2049.heap.size := Nat.le_trans sz2046 K2049.1
      obtain ⟨T2082, X2082, e2082, st2082⟩ := castY X2049 hx hZ hown (own_wk hw 151 rfl) rfl (Ins.self o2049_0) (g := (mkF m 224 (own_loc44 p0 p1 p2 p3 p4 p5 b1840 b1851 b1872 b1928 r1972 r1992 r2019) [(.ref r2049)])) rfl rfl (hb hby at_224)
      obtain ⟨_, _, ⟨T2083, L2083, k2083, n2083⟩, -, X2083, ⟨Lc2083, hQ2083, l2083, y2083, z2083⟩, st2083⟩ := Jvm.LawKit.callS X2082 hx (y := (⟨"com/example/rank60/rank60/ExplanationsAddPinLaw", "matches", "(Lcom/example/rank60/rank60/FusedHit$Contribution;IIDDZ)Z"⟩ : MethodName)) hown (mvT hZ (own_wk hw 153 rfl)) (mvT hZ (own_wk hw 154 rfl)) (mvT hZ (own_wk hw 155 rfl)) (mvT hZ (own_wk hw 156 rfl)) (by decide) (backOf (W := 0) (rm19_1 l Z ag hw [] r2019 p0 p1 (FP.i2d (p4.toInt8.toInt32)) (FP.i2d ((p4 >>> ((8 : Int32) &&& 31)).toInt8.toInt32))  T2049.heap n0 sz2081 x2076 x2077 x2078 x2079 x2080 (own_i2dn _) (own_i2dn _)) hZ (own_wk hw 156 rfl) (own_wk hw 155 rfl) (by decide) (by decide)) (g := (mkF m 303 (own_loc45 p0 p1 p2 p3 p4 p5 b1840 b1851 b1872 b1928 r1972 r1992 r2019 r2049) [.int 1, (.double (FP.i2d ((p4 >>> ((8 : Int32) &&& 31)).toInt8.toInt32))), (.double (FP.i2d (p4.toInt8.toInt32))), (.int p1), (.int p0), (.ref r2019)])) rfl (by rw [hml]; rfl) (argsL := [(.ref r2019), (.int p0), (.int p1), (.double (FP.i2d (p4.toInt8.toInt32))), (.double (FP.i2d ((p4 >>> ((8 : Int32) &&& 31)).toInt8.toInt32))), (.int (1 : Int32))]) (rest := []) (lenOf pd_10 rfl) rfl (by show 2 * 0 + _ ≤ _; exact Nat.le_of_eq rfl) (hb hby at_303) (fun _ _ => ⟨rfl, e2082, (by decide : 13 + 0 ≤ _), (by decide : 45 + 0 ≤ _)⟩)
      dsimp only [Pt.U, Pt.locs, Pt.cells, Pt.slots] at X2083 l2083 y2083 z2083 st2083 hQ2083
      subst l2083 y2083 z2083
      obtain ⟨rfl, N2083q, e2083⟩ := hQ2083
      have N2083 := Fr.app N2049 N2083q
      have cp2084 : ∀ target, own_S p e below T2083 (mkF m 319 (own_loc45 p0 p1 p2 p3 p4 p5 b1840 b1851 b1872 b1928 r1972 r1992 r2019 r2049) [.int 1, (.double (FP.i2d ((p4 >>> ((24 : Int32) &&& 31)).toInt8.toInt32))), (.double (FP.i2d ((p4 >>> ((16 : Int32) &&& 31)).toInt8.toInt32))), (.int p3), (.int p2), (.ref r2049)]) target → own_S p e below s₁ (mkF m 0 (own_loc7 p0 p1 p2 p3 p4 p5) []) target := by
        intro target kt
        show own_S p e below s₁ (mkF m 0 (own_loc7 p0 p1 p2 p3 p4 p5) []) _
        refine cp2048 _ ?_
        show own_S p e below T2047 (mkF m 219 (own_loc44 p0 p1 p2 p3 p4 p5 b1840 b1851 b1872 b1928 r1972 r1992 r2019) [.int 1, (.ref r1992)]) _
        refine st2049.trans ?_
        show own_S p e below T2049 (mkF m 224 (own_loc44 p0 p1 p2 p3 p4 p5 b1840 b1851 b1872 b1928 r1972 r1992 r2019) [(.ref r2049)]) _
        refine st2082 _ ?_
        show own_S p e below T2082 (mkF m 227 (own_loc44 p0 p1 p2 p3 p4 p5 b1840 b1851 b1872 b1928 r1972 r1992 r2019) [(.ref r2049)]) _
        refine XS.astore X2082.here hx rfl (hb hby at_227) rfl rfl (l' := (own_loc45 p0 p1 p2 p3 p4 p5 b1840 b1851 b1872 b1928 r1972 r1992 r2019 r2049)) rfl ?_
        show own_S p e below T2082 (mkF m 229 (own_loc45 p0 p1 p2 p3 p4 p5 b1840 b1851 b1872 b1928 r1972 r1992 r2019 r2049) []) _
        refine XS.goto X2082.here hx rfl (pc0 := 229) (pc' := 293) rfl (hb hby at_229) (by decide) (by decide) ?_
        show own_S p e below T2082 (mkF m 293 (own_loc45 p0 p1 p2 p3 p4 p5 b1840 b1851 b1872 b1928 r1972 r1992 r2019 r2049) []) _
        refine XS.aload X2082.here hx rfl (hb hby at_293) rfl rfl ?_
        show own_S p e below T2082 (mkF m 295 (own_loc45 p0 p1 p2 p3 p4 p5 b1840 b1851 b1872 b1928 r1972 r1992 r2019 r2049) [(.ref r2019)]) _
        refine XS.iloadN X2082.here hx rfl (hb hby at_295) rfl ?_
        show own_S p e below T2082 (mkF m 296 (own_loc45 p0 p1 p2 p3 p4 p5 b1840 b1851 b1872 b1928 r1972 r1992 r2019 r2049) [(.int p0), (.ref r2019)]) _
        refine XS.iloadN X2082.here hx rfl (hb hby at_296) rfl ?_
        show own_S p e below T2082 (mkF m 297 (own_loc45 p0 p1 p2 p3 p4 p5 b1840 b1851 b1872 b1928 r1972 r1992 r2019 r2049) [(.int p1), (.int p0), (.ref r2019)]) _
        refine XS.dload X2082.here hx rfl (hb hby at_297) rfl ?_
        show own_S p e below T2082 (mkF m 299 (own_loc45 p0 p1 p2 p3 p4 p5 b1840 b1851 b1872 b1928 r1972 r1992 r2019 r2049) [(.double (FP.i2d (p4.toInt8.toInt32))), (.int p1), (.int p0), (.ref r2019)]) _
        refine XS.dload X2082.here hx rfl (hb hby at_299) rfl ?_
        show own_S p e below T2082 (mkF m 301 (own_loc45 p0 p1 p2 p3 p4 p5 b1840 b1851 b1872 b1928 r1972 r1992 r2019 r2049) [(.double (FP.i2d ((p4 >>> ((8 : Int32) &&& 31)).toInt8.toInt32))), (.double (FP.i2d (p4.toInt8.toInt32))), (.int p1), (.int p0), (.ref r2019)]) _
        refine XS.iload X2082.here hx rfl (hb hby at_301) rfl ?_
        show own_S p e below T2082 (mkF m 303 (own_loc45 p0 p1 p2 p3 p4 p5 b1840 b1851 b1872 b1928 r1972 r1992 r2019 r2049) [.int 1, (.double (FP.i2d ((p4 >>> ((8 : Int32) &&& 31)).toInt8.toInt32))), (.double (FP.i2d (p4.toInt8.toInt32))), (.int p1), (.int p0), (.ref r2019)]) _
        refine st2083 _ ?_
        show own_S p e below T2083 (mkF m 306 (own_loc45 p0 p1 p2 p3 p4 p5 b1840 b1851 b1872 b1928 r1972 r1992 r2019 r2049) [.int 1]) _
        refine XS.ifNo X2083.here hx rfl (hb hby at_306) rfl ((if0 _ _).trans (feq (by decide : ¬ ((1 : Int32) = (0 : Int32)))).1) ?_
        show own_S p e below T2083 (mkF m 309 (own_loc45 p0 p1 p2 p3 p4 p5 b1840 b1851 b1872 b1928 r1972 r1992 r2019 r2049) []) _
        refine XS.aload X2083.here hx rfl (hb hby at_309) rfl rfl ?_
        show own_S p e below T2083 (mkF m 311 (own_loc45 p0 p1 p2 p3 p4 p5 b1840 b1851 b1872 b1928 r1972 r1992 r2019 r2049) [(.ref r2049)]) _
        refine XS.iloadN X2083.here hx rfl (hb hby at_311) rfl ?_
        show own_S p e below T2083 (mkF m 312 (own_loc45 p0 p1 p2 p3 p4 p5 b1840 b1851 b1872 b1928 r1972 r1992 r2019 r2049) [(.int p2), (.ref r2049)]) _
        refine XS.iloadN X2083.here hx rfl (hb hby at_312) rfl ?_
        show own_S p e below T2083 (mkF m 313 (own_loc45 p0 p1 p2 p3 p4 p5 b1840 b1851 b1872 b1928 r1972 r1992 r2019 r2049) [(.int p3), (.int p2), (.ref r2049)]) _
        refine XS.dload X2083.here hx rfl (hb hby at_313) rfl ?_
        show own_S p e below T2083 (mkF m 315 (own_loc45 p0 p1 p2 p3 p4 p5 b1840 b1851 b1872 b1928 r1972 r1992 r2019 r2049) [(.double (FP.i2d ((p4 >>> ((16 : Int32) &&& 31)).toInt8.toInt32))), (.int p3), (.int p2), (.ref r2049)]) _
        refine XS.dload X2083.here hx rfl (hb hby at_315) rfl ?_
        show own_S p e below T2083 (mkF m 317 (own_loc45 p0 p1 p2 p3 p4 p5 b1840 b1851 b1872 b1928 r1972 r1992 r2019 r2049) [(.double (FP.i2d ((p4 >>> ((24 : Int32) &&& 31)).toInt8.toInt32))), (.double (FP.i2d ((p4 >>> ((16 : Int32) &&& 31)).toInt8.toInt32))), (.int p3), (.int p2), (.ref r2049)]) _
        refine XS.iload X2083.here hx rfl (hb hby at_317) rfl ?_
        exact kt
      obtain ⟨_, _, ⟨T2085, L2085, k2085, n2085⟩, -, X2085, ⟨Lc2085, hQ2085, l2085, y2085, z2085⟩, st2085⟩ := Jvm.LawKit.callS X2083 hx (y := (⟨"com/example/rank60/rank60/ExplanationsAddPinLaw", "matches", "(Lcom/example/rank60/rank60/FusedHit$Contribution;IIDDZ)Z"⟩ : MethodName)) hown (mvT hZ (own_wk hw 153 rfl)) (mvT hZ (own_wk hw 154 rfl)) (mvT hZ (own_wk hw 155 rfl)) (mvT hZ (own_wk hw 156 rfl)) (by decide) (backOf (W := 0) (rm19_1 l Z ag hw [] r2049 p2 p3 (FP.i2d ((p4 >>> ((16 : Int32) &&& 31)).toInt8.toInt32)) (FP.i2d ((p4 >>> ((24 : Int32) &&& 31)).toInt8.toInt32))  T2049.heap n0 sz2081 o2049_0 o2049_1 o2049_2 o2049_3 o2049_4 (own_i2dn _) (own_i2dn _)) hZ (own_wk hw 156 rfl) (own_wk hw 155 rfl) (by decide) (by decide)) (g := (mkF m 319 (own_loc45 p0 p1 p2 p3 p4 p5 b1840 b1851 b1872 b1928 r1972 r1992 r2019 r2049) [.int 1, (.double (FP.i2d ((p4 >>> ((24 : Int32) &&& 31)).toInt8.toInt32))), (.double (FP.i2d ((p4 >>> ((16 : Int32) &&& 31)).toInt8.toInt32))), (.int p3), (.int p2), (.ref r2049)])) rfl (by rw [hml]; rfl) (argsL := [(.ref r2049), (.int p2), (.int p3), (.double (FP.i2d ((p4 >>> ((16 : Int32) &&& 31)).toInt8.toInt32))), (.double (FP.i2d ((p4 >>> ((24 : Int32) &&& 31)).toInt8.toInt32))), (.int (1 : Int32))]) (rest := []) (lenOf pd_10 rfl) rfl (by show 2 * 0 + _ ≤ _; exact Nat.le_of_eq rfl) (hb hby at_319) (fun _ _ => ⟨rfl, e2083, (by decide : 13 + 0 ≤ _), (by decide : 45 + 0 ≤ _)⟩)
      dsimp only [Pt.U, Pt.locs, Pt.cells, Pt.slots] at X2085 l2085 y2085 z2085 st2085 hQ2085
      subst l2085 y2085 z2085
      obtain ⟨rfl, N2085q, e2085⟩ := hQ2085
      have N2085 := Fr.app N2083 N2085q
      obtain ⟨fs, hr, hrun, hended, hW, hsame⟩ := X2085.leave (v := some (.int (1 : Int32))) (fun h => by rw [Bd.returns] at h; cases h)
      refine ⟨_, _, pre0 _ ?_, hrun, hended, _, _, rfl, ?_, ⟨_, rfl⟩, hW, hsame.mono (by decide) (by decide)⟩
      · show own_S p e below s₁ (mkF m 0 (own_loc7 p0 p1 p2 p3 p4 p5) []) _
        refine cp2084 _ ?_
        show own_S p e below T2083 (mkF m 319 (own_loc45 p0 p1 p2 p3 p4 p5 b1840 b1851 b1872 b1928 r1972 r1992 r2019 r2049) [.int 1, (.double (FP.i2d ((p4 >>> ((24 : Int32) &&& 31)).toInt8.toInt32))), (.double (FP.i2d ((p4 >>> ((16 : Int32) &&& 31)).toInt8.toInt32))), (.int p3), (.int p2), (.ref r2049)]) _
        refine st2085 _ ?_
        show own_S p e below T2085 (mkF m 322 (own_loc45 p0 p1 p2 p3 p4 p5 b1840 b1851 b1872 b1928 r1972 r1992 r2019 r2049) [.int 1]) _
        refine XS.ifNo X2085.here hx rfl (hb hby at_322) rfl ((if0 _ _).trans (feq (by decide : ¬ ((1 : Int32) = (0 : Int32)))).1) ?_
        show own_S p e below T2085 (mkF m 325 (own_loc45 p0 p1 p2 p3 p4 p5 b1840 b1851 b1872 b1928 r1972 r1992 r2019 r2049) []) _
        refine XS.iconst X2085.here hx rfl (hb hby at_325) ?_
        show own_S p e below T2085 (mkF m 326 (own_loc45 p0 p1 p2 p3 p4 p5 b1840 b1851 b1872 b1928 r1972 r1992 r2019 r2049) [.int 1]) _
        refine XS.goto X2085.here hx rfl (pc0 := 326) (pc' := 330) rfl (hb hby at_326) (by decide) (by decide) ?_
        show own_S p e below T2085 (mkF m 330 (own_loc45 p0 p1 p2 p3 p4 p5 b1840 b1851 b1872 b1928 r1972 r1992 r2019 r2049) [.int 1]) _
        exact retN X2085 hx (t := .boolean) Bd.returns (by simp) (hb hby at_330) hr
      · exact ⟨rfl, N2085⟩
    · obtain ⟨cq2086, kq2086, q2086a, q2086b, q2086c⟩ := isOf hZ e1872 x1880
      obtain ⟨_, _, ⟨T2086, L2086, k2086, n2086⟩, -, X2086, ⟨Lc2086, hQ2086, l2086, y2086, z2086⟩, st2086⟩ := X1872.virtualBack hx (y := (⟨"com/example/rank60/rank60/FusedList$Explanations", "add", "(IIDD)V"⟩ : MethodName)) (z := (⟨"com/example/rank60/rank60/FusedList$Explanations", "add", "(IIDD)V"⟩ : MethodName)) hown (mvT hZ (own_wk hw 23 rfl)) (mvT hZ (own_wk hw 24 rfl)) (notFace_of_selects (args := #[]) (mvT hZ (own_wk hw 26 rfl))) (mvT hZ (own_wk hw 26 rfl)) (mvT hZ (own_wk hw 25 rfl)) (by decide) (backOf (W := 0) (rm3_01 l Z ag hw [] b1840 p0 p1 (FP.i2d (p4.toInt8.toInt32)) (FP.i2d ((p4 >>> ((8 : Int32) &&& 31)).toInt8.toInt32)) u1_1843 u2_1843 u3_1843 u4_1843 (0 : Int32) u0_1843 ku1_1843 (0 : Int32) (0 : Int32) ku2_1843 (0 : Int32) (0 : Int32) ku3_1843 (FP.l2d 0) (FP.l2d 0) ku4_1843 (FP.l2d 0) (FP.l2d 0) h1872 n0 sz1894 x1880 x1882 x1883 x1884 x1885 x1886 x1887 x1881 x1889 x1890 x1891 x1892 ge_b1840 ge_u1_1843 ge_u2_1843 ge_u3_1843 ge_u4_1843 ne1845 ne1846 ne1847 ne1848 ne1843_4 ne1843_5 ne1843_6 ne1843_7 ne1843_8 ne1843_9) hZ (own_wk hw 27 rfl) (own_wk hw 2 rfl) (by decide) (by decide)) q2086a q2086c (g := (mkF m 97 (own_loc40 p0 p1 p2 p3 p4 p5 b1840 b1851 b1872) [(.double (FP.i2d ((p4 >>> ((8 : Int32) &&& 31)).toInt8.toInt32))), (.double (FP.i2d (p4.toInt8.toInt32))), (.int p1), (.int p0), (.ref b1840)])) rfl (by rw [hml]; rfl) (Steps.refl _) (argsL := [(.int p0), (.int p1), (.double (FP.i2d (p4.toInt8.toInt32))), (.double (FP.i2d ((p4 >>> ((8 : Int32) &&& 31)).toInt8.toInt32)))]) (rest := []) (lenOf pd_7 rfl) rfl (by show 2 * 0 + _ ≤ _; exact Nat.le_of_eq rfl) (hb hby at_97) (fun _ _ => ⟨rfl, e1872, (by decide : 8 + 0 ≤ _), (by decide : 22 + 0 ≤ _)⟩)
      dsimp only [Pt.U, Pt.locs, Pt.cells, Pt.slots] at X2086 l2086 y2086 z2086 st2086 hQ2086
      subst l2086 y2086 z2086
      obtain ⟨rfl, N2086q, K2086, o2086_0, o2086_1, o2086_2, o2086_3, o2086_4, o2086_5, o2086_6, o2086_7, o2086_8, o2086_9, o2086_10⟩ := hQ2086
      have N2086 := Fr.app N1843 N2086q
      have x2087 := x1880.keep K2086
      have x2088 := x1888.keep K2086 (ninS (Ne.symm ne1844) (ninS ne1843_0 (ninS ne1843_1 (ninS ne1843_2 (ninS ne1843_3 nin0)))))
      have x2089 := x1893.keep K2086 (ninS (Ne.symm ne1852) (ninS (Ne.symm ne1854) (ninS (Ne.symm ne1855) (ninS (Ne.symm ne1856) (ninS (Ne.symm ne1857) nin0)))))
      have x2090 := V1872.keep K2086 (ninS (Ne.symm ne1873) (ninS (Ne.symm ne1875) (ninS (Ne.symm ne1876) (ninS (Ne.symm ne1877) (ninS (Ne.symm ne1878) nin0)))))
      have sz2091 : n0 ≤ T2086.heap.size := Nat.le_trans sz1894 K2086.1
      have cp2093 : ∀ target, own_S p e below T2086 (mkF m 103 (own_loc40 p0 p1 p2 p3 p4 p5 b1840 b1851 b1872) [.int 1, (.int ((own_ushr p5 (1 : Int32)) % (3 : Int32)))]) target → own_S p e below s₁ (mkF m 0 (own_loc7 p0 p1 p2 p3 p4 p5) []) target := by
        intro target kt
        show own_S p e below s₁ (mkF m 0 (own_loc7 p0 p1 p2 p3 p4 p5) []) _
        refine cp1896 _ ?_
        show own_S p e below T1872 (mkF m 81 (own_loc40 p0 p1 p2 p3 p4 p5 b1840 b1851 b1872) [(.int ((own_ushr p5 (1 : Int32)) % (3 : Int32)))]) _
        refine XS.ifYes X1872.here hx rfl (pc0 := 81) (pc' := 89) rfl (hb hby at_81) rfl ((if0 _ _).trans (feq hc1895).2) (by decide) (by decide) ?_
        show own_S p e below T1872 (mkF m 89 (own_loc40 p0 p1 p2 p3 p4 p5 b1840 b1851 b1872) []) _
        refine XS.aload X1872.here hx rfl (hb hby at_89) rfl rfl ?_
        show own_S p e below T1872 (mkF m 91 (own_loc40 p0 p1 p2 p3 p4 p5 b1840 b1851 b1872) [(.ref b1840)]) _
        refine XS.iloadN X1872.here hx rfl (hb hby at_91) rfl ?_
        show own_S p e below T1872 (mkF m 92 (own_loc40 p0 p1 p2 p3 p4 p5 b1840 b1851 b1872) [(.int p0), (.ref b1840)]) _
        refine XS.iloadN X1872.here hx rfl (hb hby at_92) rfl ?_
        show own_S p e below T1872 (mkF m 93 (own_loc40 p0 p1 p2 p3 p4 p5 b1840 b1851 b1872) [(.int p1), (.int p0), (.ref b1840)]) _
        refine XS.dload X1872.here hx rfl (hb hby at_93) rfl ?_
        show own_S p e below T1872 (mkF m 95 (own_loc40 p0 p1 p2 p3 p4 p5 b1840 b1851 b1872) [(.double (FP.i2d (p4.toInt8.toInt32))), (.int p1), (.int p0), (.ref b1840)]) _
        refine XS.dload X1872.here hx rfl (hb hby at_95) rfl ?_
        show own_S p e below T1872 (mkF m 97 (own_loc40 p0 p1 p2 p3 p4 p5 b1840 b1851 b1872) [(.double (FP.i2d ((p4 >>> ((8 : Int32) &&& 31)).toInt8.toInt32))), (.double (FP.i2d (p4.toInt8.toInt32))), (.int p1), (.int p0), (.ref b1840)]) _
        refine st2086.trans ?_
        show own_S p e below T2086 (mkF m 100 (own_loc40 p0 p1 p2 p3 p4 p5 b1840 b1851 b1872) []) _
        refine XS.iload X2086.here hx rfl (hb hby at_100) rfl ?_
        show own_S p e below T2086 (mkF m 102 (own_loc40 p0 p1 p2 p3 p4 p5 b1840 b1851 b1872) [(.int ((own_ushr p5 (1 : Int32)) % (3 : Int32)))]) _
        refine XS.iconst X2086.here hx rfl (hb hby at_102) ?_
        exact kt
      by_cases hc2092 : ((own_ushr p5 (1 : Int32)) % (3 : Int32)) = (1 : Int32)
      · obtain ⟨cq2094, kq2094, q2094a, q2094b, q2094c⟩ := isOf hZ rfl x2087
        obtain ⟨_, _, ⟨T2094, L2094, k2094, n2094⟩, -, X2094, ⟨Lc2094, hQ2094, l2094, y2094, z2094⟩, st2094⟩ := X2086.virtualBack hx (y := (⟨"com/example/rank60/rank60/FusedList$Explanations", "endDocument", "()V"⟩ : MethodName)) (z := (⟨"com/example/rank60/rank60/FusedList$Explanations", "endDocument", "()V"⟩ : MethodName)) hown (mvT hZ (own_wk hw 30 rfl)) (mvT hZ (own_wk hw 31 rfl)) (notFace_of_selects (args := #[]) (mvT hZ (own_wk hw 33 rfl))) (mvT hZ (own_wk hw 33 rfl)) (mvT hZ (own_wk hw 32 rfl)) (by decide) (backOf (W := 0) (rm4_0 l Z ag hw [] b1840 u0_1843 (1 : Int32) u1_1843 u2_1843 u4_1843 (.ref u3_1843) ku0_1843 (0 : Int32) (0 : Int32) (0 : Int32) T2086.heap n0 sz2091 x2087 o2086_5 o2086_4 o2086_6 o2086_0 o2086_1 o2086_3 o2086_2 x2088 ge_b1840 ge_u0_1843 ne1844) hZ (own_wk hw 34 rfl) (own_wk hw 2 rfl) (by decide) (by decide)) q2094a q2094c (g := (mkF m 108 (own_loc40 p0 p1 p2 p3 p4 p5 b1840 b1851 b1872) [(.ref b1840)])) rfl (by rw [hml]; rfl) (Steps.refl _) (argsL := []) (rest := []) (lenOf pd_2 rfl) rfl (by show 2 * 0 + _ ≤ _; exact Nat.le_of_eq rfl) (hb hby at_108) (fun _ _ => ⟨rfl, rfl, (by decide : 8 + 0 ≤ _), (by decide : 22 + 0 ≤ _)⟩)
        dsimp only [Pt.U, Pt.locs, Pt.cells, Pt.slots] at X2094 l2094 y2094 z2094 st2094 hQ2094
        subst l2094 y2094 z2094
        obtain ⟨rfl, N2094q, K2094, o2094_0, o2094_1, o2094_2, o2094_3, o2094_4, o2094_5, o2094_6, o2094_7⟩ := hQ2094
        have N2094 := Fr.app N2086 N2094q
        have x2095 := x2087.keep K2094
        have x2096 := x2089.keep K2094 (ninS (Ne.symm ne1852) (ninS (Ne.symm ne1853) nin0))
        have x2097 := x2090.keep K2094 (ninS (Ne.symm ne1873) (ninS (Ne.symm ne1874) nin0))
        have x2098 := o2086_7.keep K2094 (ninS (Ne.symm ne1845) (ninS (Ne.symm ne1843_0) nin0))
        have x2099 := o2086_8.keep K2094 (ninS (Ne.symm ne1846) (ninS (Ne.symm ne1843_1) nin0))
        have x2100 := o2086_9.keep K2094 (ninS (Ne.symm ne1847) (ninS (Ne.symm ne1843_2) nin0))
        have x2101 := o2086_10.keep K2094 (ninS (Ne.symm ne1848) (ninS (Ne.symm ne1843_3) nin0))
        have sz2102 : n0 ≤ T2094.heap.size := Nat.le_trans sz2091 K2094.1
        obtain ⟨cq2103, kq2103, q2103a, q2103b, q2103c⟩ := isOf hZ rfl x2095
        obtain ⟨_, _, ⟨T2103, L2103, k2103, n2103⟩, -, X2103, ⟨Lc2103, hQ2103, l2103, y2103, z2103⟩, st2103⟩ := X2094.virtualBack hx (y := (⟨"com/example/rank60/rank60/FusedList$Explanations", "add", "(IIDD)V"⟩ : MethodName)) (z := (⟨"com/example/rank60/rank60/FusedList$Explanations", "add", "(IIDD)V"⟩ : MethodName)) hown (mvT hZ (own_wk hw 23 rfl)) (mvT hZ (own_wk hw 24 rfl)) (notFace_of_selects (args := #[]) (mvT hZ (own_wk hw 26 rfl))) (mvT hZ (own_wk hw 26 rfl)) (mvT hZ (own_wk hw 25 rfl)) (by decide) (backOf (W := 0) (rm3_11 l Z ag hw [] b1840 p2 p3 (FP.i2d ((p4 >>> ((16 : Int32) &&& 31)).toInt8.toInt32)) (FP.i2d ((p4 >>> ((24 : Int32) &&& 31)).toInt8.toInt32)) u1_1843 u2_1843 u3_1843 u4_1843 (1 : Int32) u0_1843 ku1_1843 p0 (0 : Int32) ku2_1843 p1 (0 : Int32) ku3_1843 (FP.i2d (p4.toInt8.toInt32)) (FP.l2d 0) ku4_1843 (FP.i2d ((p4 >>> ((8 : Int32) &&& 31)).toInt8.toInt32)) (FP.l2d 0) T2094.heap n0 sz2102 x2095 o2094_3 o2094_4 o2094_6 o2094_5 o2094_2 o2094_1 o2094_0 x2098 x2099 x2100 x2101 ge_b1840 ge_u1_1843 ge_u2_1843 ge_u3_1843 ge_u4_1843 ne1845 ne1846 ne1847 ne1848 ne1843_4 ne1843_5 ne1843_6 ne1843_7 ne1843_8 ne1843_9) hZ (own_wk hw 27 rfl) (own_wk hw 2 rfl) (by decide) (by decide)) q2103a q2103c (g := (mkF m 119 (own_loc40 p0 p1 p2 p3 p4 p5 b1840 b1851 b1872) [(.double (FP.i2d ((p4 >>> ((24 : Int32) &&& 31)).toInt8.toInt32))), (.double (FP.i2d ((p4 >>> ((16 : Int32) &&& 31)).toInt8.toInt32))), (.int p3), (.int p2), (.ref b1840)])) rfl (by rw [hml]; rfl) (Steps.refl _) (argsL := [(.int p2), (.int p3), (.double (FP.i2d ((p4 >>> ((16 : Int32) &&& 31)).toInt8.toInt32))), (.double (FP.i2d ((p4 >>> ((24 : Int32) &&& 31)).toInt8.toInt32)))]) (rest := []) (lenOf pd_7 rfl) rfl (by show 2 * 0 + _ ≤ _; exact Nat.le_of_eq rfl) (hb hby at_119) (fun _ _ => ⟨rfl, rfl, (by decide : 8 + 0 ≤ _), (by decide : 22 + 0 ≤ _)⟩)
        dsimp only [Pt.U, Pt.locs, Pt.cells, Pt.slots] at X2103 l2103 y2103 z2103 st2103 hQ2103
        subst l2103 y2103 z2103
        obtain ⟨rfl, N2103q, K2103, o2103_0, o2103_1, o2103_2, o2103_3, o2103_4, o2103_5, o2103_6, o2103_7, o2103_8, o2103_9, o2103_10⟩ := hQ2103
        have N2103 := Fr.app N2094 N2103q
        have x2104 := x2095.keep K2103
        have x2105 := x2096.keep K2103 (ninS (Ne.symm ne1852) (ninS (Ne.symm ne1854) (ninS (Ne.symm ne1855) (ninS (Ne.symm ne1856) (ninS (Ne.symm ne1857) nin0)))))
        have x2106 := x2097.keep K2103 (ninS (Ne.symm ne1873) (ninS (Ne.symm ne1875) (ninS (Ne.symm ne1876) (ninS (Ne.symm ne1877) (ninS (Ne.symm ne1878) nin0)))))
        have x2107 := o2094_7.keep K2103 (ninS (Ne.symm ne1844) (ninS ne1843_0 (ninS ne1843_1 (ninS ne1843_2 (ninS ne1843_3 nin0)))))
        have sz2108 : n0 ≤ T2103.heap.size := Nat.le_trans sz2102 K2103.1
        have cp2109 : ∀ target, own_S p e below T2103 (mkF m 135 (own_loc40 p0 p1 p2 p3 p4 p5 b1840 b1851 b1872) [(.ref b1840)]) target → own_S p e below s₁ (mkF m 0 (own_loc7 p0 p1 p2 p3 p4 p5) []) target := by
          intro target kt
          show own_S p e below s₁ (mkF m 0 (own_loc7 p0 p1 p2 p3 p4 p5) []) _
          refine cp2093 _ ?_
          show own_S p e below T2086 (mkF m 103 (own_loc40 p0 p1 p2 p3 p4 p5 b1840 b1851 b1872) [.int 1, (.int ((own_ushr p5 (1 : Int32)) % (3 : Int32)))]) _
          refine XS.icmpNo X2086.here hx rfl (hb hby at_103) rfl (teq hc2092).2 ?_
          show own_S p e below T2086 (mkF m 106 (own_loc40 p0 p1 p2 p3 p4 p5 b1840 b1851 b1872) []) _
          refine XS.aload X2086.here hx rfl (hb hby at_106) rfl rfl ?_
          show own_S p e below T2086 (mkF m 108 (own_loc40 p0 p1 p2 p3 p4 p5 b1840 b1851 b1872) [(.ref b1840)]) _
          refine st2094.trans ?_
          show own_S p e below T2094 (mkF m 111 (own_loc40 p0 p1 p2 p3 p4 p5 b1840 b1851 b1872) []) _
          refine XS.aload X2094.here hx rfl (hb hby at_111) rfl rfl ?_
          show own_S p e below T2094 (mkF m 113 (own_loc40 p0 p1 p2 p3 p4 p5 b1840 b1851 b1872) [(.ref b1840)]) _
          refine XS.iloadN X2094.here hx rfl (hb hby at_113) rfl ?_
          show own_S p e below T2094 (mkF m 114 (own_loc40 p0 p1 p2 p3 p4 p5 b1840 b1851 b1872) [(.int p2), (.ref b1840)]) _
          refine XS.iloadN X2094.here hx rfl (hb hby at_114) rfl ?_
          show own_S p e below T2094 (mkF m 115 (own_loc40 p0 p1 p2 p3 p4 p5 b1840 b1851 b1872) [(.int p3), (.int p2), (.ref b1840)]) _
          refine XS.dload X2094.here hx rfl (hb hby at_115) rfl ?_
          show own_S p e below T2094 (mkF m 117 (own_loc40 p0 p1 p2 p3 p4 p5 b1840 b1851 b1872) [(.double (FP.i2d ((p4 >>> ((16 : Int32) &&& 31)).toInt8.toInt32))), (.int p3), (.int p2), (.ref b1840)]) _
          refine XS.dload X2094.here hx rfl (hb hby at_117) rfl ?_
          show own_S p e below T2094 (mkF m 119 (own_loc40 p0 p1 p2 p3 p4 p5 b1840 b1851 b1872) [(.double (FP.i2d ((p4 >>> ((24 : Int32) &&& 31)).toInt8.toInt32))), (.double (FP.i2d ((p4 >>> ((16 : Int32) &&& 31)).toInt8.toInt32))), (.int p3), (.int p2), (.ref b1840)]) _
          refine st2103.trans ?_
          show own_S p e below T2103 (mkF m 122 (own_loc40 p0 p1 p2 p3 p4 p5 b1840 b1851 b1872) []) _
          refine XS.iload X2103.here hx rfl (hb hby at_122) rfl ?_
          show own_S p e below T2103 (mkF m 124 (own_loc40 p0 p1 p2 p3 p4 p5 b1840 b1851 b1872) [(.int ((own_ushr p5 (1 : Int32)) % (3 : Int32)))]) _
          refine XS.iconst X2103.here hx rfl (hb hby at_124) ?_
          show own_S p e below T2103 (mkF m 125 (own_loc40 p0 p1 p2 p3 p4 p5 b1840 b1851 b1872) [.int 2, (.int ((own_ushr p5 (1 : Int32)) % (3 : Int32)))]) _
          refine XS.icmpYes X2103.here hx rfl (pc0 := 125) (pc' := 133) rfl (hb hby at_125) rfl (feq (show ¬ (((own_ushr p5 (1 : Int32)) % (3 : Int32)) = (2 : Int32)) from (fun q => absurd (hc2092.symm.trans q) (by decide)))).2 (by decide) (by decide) ?_
          show own_S p e below T2103 (mkF m 133 (own_loc40 p0 p1 p2 p3 p4 p5 b1840 b1851 b1872) []) _
          refine XS.aload X2103.here hx rfl (hb hby at_133) rfl rfl ?_
          exact kt
        obtain ⟨cq2110, kq2110, q2110a, q2110b, q2110c⟩ := isOf hZ rfl x2104
        obtain ⟨_, _, ⟨T2110, L2110, k2110, n2110⟩, -, X2110, ⟨Lc2110, hQ2110, l2110, y2110, z2110⟩, st2110⟩ := X2103.virtualBack hx (y := (⟨"com/example/rank60/rank60/FusedList$Explanations", "endDocument", "()V"⟩ : MethodName)) (z := (⟨"com/example/rank60/rank60/FusedList$Explanations", "endDocument", "()V"⟩ : MethodName)) hown (mvT hZ (own_wk hw 30 rfl)) (mvT hZ (own_wk hw 31 rfl)) (notFace_of_selects (args := #[]) (mvT hZ (own_wk hw 33 rfl))) (mvT hZ (own_wk hw 33 rfl)) (mvT hZ (own_wk hw 32 rfl)) (by decide) (backOf (W := 0) (rm4_1 l Z ag hw [] b1840 u0_1843 (2 : Int32) u1_1843 u2_1843 u4_1843 (.ref u3_1843) ku0_1843 (0 : Int32) (1 : Int32) (0 : Int32) T2103.heap n0 sz2108 x2104 o2103_5 o2103_4 o2103_6 o2103_0 o2103_1 o2103_3 o2103_2 x2107 ge_b1840 ge_u0_1843 ne1844) hZ (own_wk hw 34 rfl) (own_wk hw 2 rfl) (by decide) (by decide)) q2110a q2110c (g := (mkF m 135 (own_loc40 p0 p1 p2 p3 p4 p5 b1840 b1851 b1872) [(.ref b1840)])) rfl (by rw [hml]; rfl) (Steps.refl _) (argsL := []) (rest := []) (lenOf pd_2 rfl) rfl (by show 2 * 0 + _ ≤ _; exact Nat.le_of_eq rfl) (hb hby at_135) (fun _ _ => ⟨rfl, rfl, (by decide : 8 + 0 ≤ _), (by decide : 22 + 0 ≤ _)⟩)
        dsimp only [Pt.U, Pt.locs, Pt.cells, Pt.slots] at X2110 l2110 y2110 z2110 st2110 hQ2110
        subst l2110 y2110 z2110
        obtain ⟨rfl, N2110q, K2110, o2110_0, o2110_1, o2110_2, o2110_3, o2110_4, o2110_5, o2110_6, o2110_7⟩ := hQ2110
        have N2110 := Fr.app N2103 N2110q
        have x2111 := x2104.keep K2110
        have x2112 := x2105.keep K2110 (ninS (Ne.symm ne1852) (ninS (Ne.symm ne1853) nin0))
        have x2113 := x2106.keep K2110 (ninS (Ne.symm ne1873) (ninS (Ne.symm ne1874) nin0))
        have x2114 := o2103_7.keep K2110 (ninS (Ne.symm ne1845) (ninS (Ne.symm ne1843_0) nin0))
        have x2115 := o2103_8.keep K2110 (ninS (Ne.symm ne1846) (ninS (Ne.symm ne1843_1) nin0))
        have x2116 := o2103_9.keep K2110 (ninS (Ne.symm ne1847) (ninS (Ne.symm ne1843_2) nin0))
        have x2117 := o2103_10.keep K2110 (ninS (Ne.symm ne1848) (ninS (Ne.symm ne1843_3) nin0))
        have sz2118 : n0 ≤ T2110.heap.size := Nat.le_trans sz2108 K2110.1
        obtain ⟨T2119, h2119, X2119, e2119, E2119, A2119, D2119, -, st2119⟩ := newO X2110 hx hZ hown (own_wk hw 37 rfl) (own_wk hw 38 rfl) (own_wk hw 39 rfl) rfl (g := (mkF m 138 (own_loc40 p0 p1 p2 p3 p4 p5 b1840 b1851 b1872) [])) rfl (hb hby at_138) (by decide) (by decide)
        obtain ⟨b2119, g2119⟩ : ∃ z, z = T2110.heap.size := ⟨_, rfl⟩
        have ne2120 : b1840 ≠ b2119 := Nat.ne_of_lt (Nat.lt_of_lt_of_le x2111.lt (Nat.le_of_eq g2119.symm))
        have ne2121 : u0_1843 ≠ b2119 := Nat.ne_of_lt (Nat.lt_of_lt_of_le o2110_7.lt (Nat.le_of_eq g2119.symm))
        have ne2122 : u1_1843 ≠ b2119 := Nat.ne_of_lt (Nat.lt_of_lt_of_le x2114.lt (Nat.le_of_eq g2119.symm))
        have ne2123 : u2_1843 ≠ b2119 := Nat.ne_of_lt (Nat.lt_of_lt_of_le x2115.lt (Nat.le_of_eq g2119.symm))
        have ne2124 : u3_1843 ≠ b2119 := Nat.ne_of_lt (Nat.lt_of_lt_of_le x2116.lt (Nat.le_of_eq g2119.symm))
        have ne2125 : u4_1843 ≠ b2119 := Nat.ne_of_lt (Nat.lt_of_lt_of_le x2117.lt (Nat.le_of_eq g2119.symm))
        have ne2126 : b1851 ≠ b2119 := Nat.ne_of_lt (Nat.lt_of_lt_of_le x2112.lt (Nat.le_of_eq g2119.symm))
        have ne2127 : b1872 ≠ b2119 := Nat.ne_of_lt (Nat.lt_of_lt_of_le x2113.lt (Nat.le_of_eq g2119.symm))
        have ge_b2119 : n0 ≤ b2119 := Nat.le_trans sz2118 (Nat.le_of_eq g2119.symm)
        rw [← g2119] at A2119 D2119 st2119
        have x2128 := x2111.ext E2119
        have x2129 := x2112.ext E2119
        have x2130 := x2113.ext E2119
        have x2131 := x2114.ext E2119
        have x2132 := x2115.ext E2119
        have x2133 := x2116.ext E2119
        have x2134 := x2117.ext E2119
        have x2135 := o2110_0.ext E2119
        have x2136 := o2110_1.ext E2119
        have x2137 := o2110_2.ext E2119
        have x2138 := o2110_3.ext E2119
        have x2139 := o2110_4.ext E2119
        have x2140 := o2110_5.ext E2119
        have x2141 := o2110_6.ext E2119
        have x2142 := o2110_7.ext E2119
        have sz2143 : n0 ≤ h2119.size := Nat.le_trans sz2118 E2119.1
        have F2119_modCount : Fld Z h2119 b2119 "java/util/AbstractList" "modCount" "I" (.int (0 : Int32)) := D2119 (Or.inl (own_wk hw 59 rfl)) (ty := .int) (by decide)
        have F2119_ids : Fld Z h2119 b2119 "com/example/rank60/rank60/FusedList" "ids" "[Ljava/lang/String;" .null := D2119 (Or.inr (own_wk hw 61 rfl)) (ty := (.array (.object "java/lang/String"))) (by decide)
        have F2119_documents : Fld Z h2119 b2119 "com/example/rank60/rank60/FusedList" "documents" "[I" .null := D2119 (Or.inr (own_wk hw 63 rfl)) (ty := (.array .int)) (by decide)
        have F2119_numbering : Fld Z h2119 b2119 "com/example/rank60/rank60/FusedList" "numbering" "Lcom/example/rank60/rank60/DocumentNumbering;" .null := D2119 (Or.inr (own_wk hw 65 rfl)) (ty := (.object "com/example/rank60/rank60/DocumentNumbering")) (by decide)
        have F2119_scores : Fld Z h2119 b2119 "com/example/rank60/rank60/FusedList" "scores" "[D" .null := D2119 (Or.inr (own_wk hw 67 rfl)) (ty := (.array .double)) (by decide)
        have F2119_firstRank : Fld Z h2119 b2119 "com/example/rank60/rank60/FusedList" "firstRank" "I" (.int (0 : Int32)) := D2119 (Or.inr (own_wk hw 69 rfl)) (ty := .int) (by decide)
        have F2119_explanations : Fld Z h2119 b2119 "com/example/rank60/rank60/FusedList" "explanations" "Lcom/example/rank60/rank60/FusedList$Explanations;" .null := D2119 (Or.inr (own_wk hw 71 rfl)) (ty := (.object "com/example/rank60/rank60/FusedList$Explanations")) (by decide)
        obtain ⟨_, _, ⟨T2144, L2144, k2144, n2144⟩, -, X2144, ⟨Lc2144, hQ2144, l2144, y2144, z2144⟩, st2144⟩ := X2119.specialBack hx (y := (⟨"com/example/rank60/rank60/FusedList", "<init>", "([Ljava/lang/String;[DILcom/example/rank60/rank60/FusedList$Explanations;)V"⟩ : MethodName)) rfl hown (mvT hZ (own_wk hw 40 rfl)) (mvT hZ (own_wk hw 41 rfl)) (mvT hZ (own_wk hw 42 rfl)) (by decide) (backOf (W := 1) (rm5 l Z ag hw [] b2119 b1851 b1872 (1 : Int32) b1840  h2119 n0 sz2143 A2119 F2119_modCount F2119_ids F2119_documents F2119_numbering F2119_scores F2119_explanations F2119_firstRank ge_b2119) hZ (own_wk hw 42 rfl) (own_wk hw 39 rfl) (by decide) (by decide)) (g := (mkF m 149 (own_loc40 p0 p1 p2 p3 p4 p5 b1840 b1851 b1872) [(.ref b1840), .int 1, (.ref b1872), (.ref b1851), (.ref b2119), (.ref b2119)])) rfl (by rw [hml]; rfl) (Steps.refl _) (a := b2119) (argsL := [(.ref b1851), (.ref b1872), (.int (1 : Int32)), (.ref b1840)]) (rest := [(.ref b2119)]) (lenOf pd_12 rfl) rfl (by show 2 * 0 + _ ≤ _; exact Nat.le_of_eq rfl) (hb hby at_149) (fun _ _ => ⟨rfl, e2119, (by decide : 9 + 0 ≤ _), (by decide : 29 + 0 ≤ _)⟩)
        dsimp only [Pt.U, Pt.locs, Pt.cells, Pt.slots] at X2144 l2144 y2144 z2144 st2144 hQ2144
        subst l2144 y2144 z2144
        obtain ⟨rfl, N2144q, K2144, o2144_0, o2144_1⟩ := hQ2144
        have N2144 := Fr.app N2110 N2144q
        have x2145 := x2128.keep K2144
        have x2146 := x2129.keep K2144 (ninS ne2126 nin0)
        have x2147 := x2130.keep K2144 (ninS ne2127 nin0)
        have x2148 := x2131.keep K2144 (ninS ne2122 nin0)
        have x2149 := x2132.keep K2144 (ninS ne2123 nin0)
        have x2150 := x2133.keep K2144 (ninS ne2124 nin0)
        have x2151 := x2134.keep K2144 (ninS ne2125 nin0)
        have x2152 := x2135.keep K2144 (ninS ne2120 nin0)
        have x2153 := x2136.keep K2144 (ninS ne2120 nin0)
        have x2154 := x2137.keep K2144 (ninS ne2120 nin0)
        have x2155 := x2138.keep K2144 (ninS ne2120 nin0)
        have x2156 := x2139.keep K2144 (ninS ne2120 nin0)
        have x2157 := x2140.keep K2144 (ninS ne2120 nin0)
        have x2158 := x2141.keep K2144 (ninS ne2120 nin0)
        have x2159 := x2142.keep K2144 (ninS ne2121 nin0)
        have x2160 := A2119.keep K2144
        have sz2161 : n0 ≤ T2144.heap.size := Nat.le_trans sz2143 K2144.1
        obtain ⟨cq2162, kq2162, q2162a, q2162b, q2162c⟩ := isOf hZ rfl x2160
        obtain ⟨_, _, ⟨T2162, L2162, k2162, n2162⟩, -, X2162, ⟨Lc2162, hQ2162, l2162, y2162, z2162⟩, st2162⟩ := X2144.virtualBack hx (y := (⟨"com/example/rank60/rank60/FusedList", "contributions", "(I)Ljava/util/List;"⟩ : MethodName)) (z := (⟨"com/example/rank60/rank60/FusedList", "contributions", "(I)Ljava/util/List;"⟩ : MethodName)) hown (mvT hZ (own_wk hw 72 rfl)) (mvT hZ (own_wk hw 73 rfl)) (notFace_of_selects (args := #[]) (mvT hZ (own_wk hw 75 rfl))) (mvT hZ (own_wk hw 75 rfl)) (mvT hZ (own_wk hw 74 rfl)) (by decide) (backOf (W := 0) (rm9_0 l Z ag hw [] b2119 b1872 k1872 (FP.l2d 0) (FP.l2d 0) b1840 u0_1843 ku0_1843 (0 : Int32) (1 : Int32) (2 : Int32) T2144.heap n0 sz2161 x2160 o2144_0 x2147 o2144_1 x2145 x2152 x2159) hZ (own_wk hw 76 rfl) (own_wk hw 39 rfl) (by decide) (by decide)) q2162a q2162c (g := (mkF m 157 (own_loc46 p0 p1 p2 p3 p4 p5 b1840 b1851 b1872 b2119) [.int 0, (.ref b2119)])) rfl (by rw [hml]; rfl) (Steps.refl _) (argsL := [(.int (0 : Int32))]) (rest := []) (lenOf pd_5 rfl) rfl (by show 2 * 0 + _ ≤ _; exact Nat.le_of_eq rfl) (hb hby at_157) (fun _ _ => ⟨rfl, rfl, (by decide : 9 + 1 ≤ _), (by decide : 29 + 4 ≤ _)⟩)
        dsimp only [Pt.U, Pt.locs, Pt.cells, Pt.slots] at X2162 l2162 y2162 z2162 st2162 hQ2162
        subst l2162 y2162 z2162
        obtain ⟨r2162, rfl, N2162q, K2162, ge_r2162, gq_r2162, o2162_0, o2162_1, o2162_2, o2162_3⟩ := hQ2162
        have N2162 := Fr.app N2144 N2162q
        have x2163 := x2145.keep K2162
        have x2164 := x2146.keep K2162 nin0
        have x2165 := x2147.keep K2162 nin0
        have x2166 := x2148.keep K2162 nin0
        have x2167 := x2149.keep K2162 nin0
        have x2168 := x2150.keep K2162 nin0
        have x2169 := x2151.keep K2162 nin0
        have x2170 := x2152.keep K2162 nin0
        have x2171 := x2153.keep K2162 nin0
        have x2172 := x2154.keep K2162 nin0
        have x2173 := x2155.keep K2162 nin0
        have x2174 := x2156.keep K2162 nin0
        have x2175 := x2157.keep K2162 nin0
        have x2176 := x2158.keep K2162 nin0
        have x2177 := x2159.keep K2162 nin0
        have x2178 := x2160.keep K2162
        have x2179 := o2144_0.keep K2162 nin0
        have x2180 := o2144_1.keep K2162 nin0
        have sz2181 : n0 ≤ T2162.heap.size := Nat.le_trans sz2161 K2162.1
        have cp2182 : ∀ target, own_S p e below T2162 (mkF m 165 (own_loc47 p0 p1 p2 p3 p4 p5 b1840 b1851 b1872 b2119 r2162) [.int 1, (.ref b2119)]) target → own_S p e below s₁ (mkF m 0 (own_loc7 p0 p1 p2 p3 p4 p5) []) target := by
          intro target kt
          show own_S p e below s₁ (mkF m 0 (own_loc7 p0 p1 p2 p3 p4 p5) []) _
          refine cp2109 _ ?_
          show own_S p e below T2103 (mkF m 135 (own_loc40 p0 p1 p2 p3 p4 p5 b1840 b1851 b1872) [(.ref b1840)]) _
          refine st2110.trans ?_
          show own_S p e below T2110 (mkF m 138 (own_loc40 p0 p1 p2 p3 p4 p5 b1840 b1851 b1872) []) _
          refine st2119 _ ?_
          show own_S p e below T2119 (mkF m 141 (own_loc40 p0 p1 p2 p3 p4 p5 b1840 b1851 b1872) [(.ref b2119)]) _
          refine XS.dup X2119.here hx rfl (hb hby at_141) rfl rfl ?_
          show own_S p e below T2119 (mkF m 142 (own_loc40 p0 p1 p2 p3 p4 p5 b1840 b1851 b1872) [(.ref b2119), (.ref b2119)]) _
          refine XS.aload X2119.here hx rfl (hb hby at_142) rfl rfl ?_
          show own_S p e below T2119 (mkF m 144 (own_loc40 p0 p1 p2 p3 p4 p5 b1840 b1851 b1872) [(.ref b1851), (.ref b2119), (.ref b2119)]) _
          refine XS.aload X2119.here hx rfl (hb hby at_144) rfl rfl ?_
          show own_S p e below T2119 (mkF m 146 (own_loc40 p0 p1 p2 p3 p4 p5 b1840 b1851 b1872) [(.ref b1872), (.ref b1851), (.ref b2119), (.ref b2119)]) _
          refine XS.iconst X2119.here hx rfl (hb hby at_146) ?_
          show own_S p e below T2119 (mkF m 147 (own_loc40 p0 p1 p2 p3 p4 p5 b1840 b1851 b1872) [.int 1, (.ref b1872), (.ref b1851), (.ref b2119), (.ref b2119)]) _
          refine XS.aload X2119.here hx rfl (hb hby at_147) rfl rfl ?_
          show own_S p e below T2119 (mkF m 149 (own_loc40 p0 p1 p2 p3 p4 p5 b1840 b1851 b1872) [(.ref b1840), .int 1, (.ref b1872), (.ref b1851), (.ref b2119), (.ref b2119)]) _
          refine st2144.trans ?_
          show own_S p e below T2144 (mkF m 152 (own_loc40 p0 p1 p2 p3 p4 p5 b1840 b1851 b1872) [(.ref b2119)]) _
          refine XS.astore X2144.here hx rfl (hb hby at_152) rfl rfl (l' := (own_loc46 p0 p1 p2 p3 p4 p5 b1840 b1851 b1872 b2119)) rfl ?_
          show own_S p e below T2144 (mkF m 154 (own_loc46 p0 p1 p2 p3 p4 p5 b1840 b1851 b1872 b2119) []) _
          refine XS.aload X2144.here hx rfl (hb hby at_154) rfl rfl ?_
          show own_S p e below T2144 (mkF m 156 (own_loc46 p0 p1 p2 p3 p4 p5 b1840 b1851 b1872 b2119) [(.ref b2119)]) _
          refine XS.iconst X2144.here hx rfl (hb hby at_156) ?_
          show own_S p e below T2144 (mkF m 157 (own_loc46 p0 p1 p2 p3 p4 p5 b1840 b1851 b1872 b2119) [.int 0, (.ref b2119)]) _
          refine st2162.trans ?_
          show own_S p e below T2162 (mkF m 160 (own_loc46 p0 p1 p2 p3 p4 p5 b1840 b1851 b1872 b2119) [(.ref r2162)]) _
          refine XS.astore X2162.here hx rfl (hb hby at_160) rfl rfl (l' := (own_loc47 p0 p1 p2 p3 p4 p5 b1840 b1851 b1872 b2119 r2162)) rfl ?_
          show own_S p e below T2162 (mkF m 162 (own_loc47 p0 p1 p2 p3 p4 p5 b1840 b1851 b1872 b2119 r2162) []) _
          refine XS.aload X2162.here hx rfl (hb hby at_162) rfl rfl ?_
          show own_S p e below T2162 (mkF m 164 (own_loc47 p0 p1 p2 p3 p4 p5 b1840 b1851 b1872 b2119 r2162) [(.ref b2119)]) _
          refine XS.iconst X2162.here hx rfl (hb hby at_164) ?_
          exact kt
        obtain ⟨cq2183, kq2183, q2183a, q2183b, q2183c⟩ := isOf hZ rfl x2178
        obtain ⟨_, _, ⟨T2183, L2183, k2183, n2183⟩, -, X2183, ⟨Lc2183, hQ2183, l2183, y2183, z2183⟩, st2183⟩ := X2162.virtualBack hx (y := (⟨"com/example/rank60/rank60/FusedList", "contributions", "(I)Ljava/util/List;"⟩ : MethodName)) (z := (⟨"com/example/rank60/rank60/FusedList", "contributions", "(I)Ljava/util/List;"⟩ : MethodName)) hown (mvT hZ (own_wk hw 72 rfl)) (mvT hZ (own_wk hw 73 rfl)) (notFace_of_selects (args := #[]) (mvT hZ (own_wk hw 75 rfl))) (mvT hZ (own_wk hw 75 rfl)) (mvT hZ (own_wk hw 74 rfl)) (by decide) (backOf (W := 0) (rm9_1 l Z ag hw [] b2119 b1872 k1872 (FP.l2d 0) (FP.l2d 0) b1840 u0_1843 ku0_1843 (0 : Int32) (1 : Int32) (2 : Int32) T2162.heap n0 sz2181 x2178 x2179 x2165 x2180 x2163 x2170 x2177) hZ (own_wk hw 76 rfl) (own_wk hw 39 rfl) (by decide) (by decide)) q2183a q2183c (g := (mkF m 165 (own_loc47 p0 p1 p2 p3 p4 p5 b1840 b1851 b1872 b2119 r2162) [.int 1, (.ref b2119)])) rfl (by rw [hml]; rfl) (Steps.refl _) (argsL := [(.int (1 : Int32))]) (rest := []) (lenOf pd_5 rfl) rfl (by show 2 * 0 + _ ≤ _; exact Nat.le_of_eq rfl) (hb hby at_165) (fun _ _ => ⟨rfl, rfl, (by decide : 10 + 1 ≤ _), (by decide : 33 + 4 ≤ _)⟩)
        dsimp only [Pt.U, Pt.locs, Pt.cells, Pt.slots] at X2183 l2183 y2183 z2183 st2183 hQ2183
        subst l2183 y2183 z2183
        obtain ⟨r2183, rfl, N2183q, K2183, ge_r2183, gq_r2183, o2183_0, o2183_1, o2183_2, o2183_3⟩ := hQ2183
        have N2183 := Fr.app N2162 N2183q
        have x2184 := x2163.keep K2183
        have x2185 := x2164.keep K2183 nin0
        have x2186 := x2165.keep K2183 nin0
        have x2187 := x2166.keep K2183 nin0
        have x2188 := x2167.keep K2183 nin0
        have x2189 := x2168.keep K2183 nin0
        have x2190 := x2169.keep K2183 nin0
        have x2191 := x2170.keep K2183 nin0
        have x2192 := x2171.keep K2183 nin0
        have x2193 := x2172.keep K2183 nin0
        have x2194 := x2173.keep K2183 nin0
        have x2195 := x2174.keep K2183 nin0
        have x2196 := x2175.keep K2183 nin0
        have x2197 := x2176.keep K2183 nin0
        have x2198 := x2177.keep K2183 nin0
        have x2199 := x2178.keep K2183
        have x2200 := x2179.keep K2183 nin0
        have x2201 := x2180.keep K2183 nin0
        have x2202 := o2162_0.keep K2183
        have x2203 := o2162_1.keep K2183 nin0
        have x2204 := o2162_2.keep K2183 nin0
        have x2205 := o2162_3.keep K2183 nin0
        have sz2206 : n0 ≤ T2183.heap.size := Nat.le_trans sz2181 K2183.1
        obtain ⟨cq2207, kq2207, q2207a, q2207b, q2207c⟩ := isOf hZ rfl x2202
        obtain ⟨_, _, ⟨T2207, L2207, k2207, n2207⟩, -, X2207, ⟨Lc2207, hQ2207, l2207, y2207, z2207⟩, st2207⟩ := X2183.interfaceBack hx (xi := (⟨"java/util/List", "size", "()I"⟩ : MethodName)) (y := (⟨"com/example/rank60/rank60/FusedList$Explanations$DocumentContributions", "size", "()I"⟩ : MethodName)) hown (mvT hZ (own_wk hw 104 rfl)) (mvT hZ (own_wk hw 105 rfl)) (mvT hZ (own_wk hw 106 rfl)) (mvT hZ (own_wk hw 107 rfl)) (mvT hZ (own_wk hw 108 rfl)) (mvT hZ (own_wk hw 109 rfl)) (mvT hZ (own_wk hw 110 rfl)) (mvT hZ (own_wk hw 111 rfl)) (by decide) (backOf (W := 0) (rm14 l Z ag hw [] r2162 ((1 : Int32) - (0 : Int32)) T2183.heap n0 sz2206 x2205) hZ (own_wk hw 112 rfl) (own_wk hw 91 rfl) (by decide) (by decide)) q2207a q2207b q2207c (g := (mkF m 172 (own_loc48 p0 p1 p2 p3 p4 p5 b1840 b1851 b1872 b2119 r2162 r2183) [(.ref r2162)])) rfl (by rw [hml]; rfl) (Steps.refl _) (argsL := []) (rest := []) (lenOf pd_1 rfl) rfl (by show 2 * 0 + _ ≤ _; exact Nat.le_of_eq rfl) (hb hby at_172) (fun _ _ => ⟨rfl, rfl, (by decide : 11 + 0 ≤ _), (by decide : 37 + 0 ≤ _)⟩)
        dsimp only [Pt.U, Pt.locs, Pt.cells, Pt.slots] at X2207 l2207 y2207 z2207 st2207 hQ2207
        subst l2207 y2207 z2207
        obtain ⟨rfl, N2207q, e2207⟩ := hQ2207
        have N2207 := Fr.app N2183 N2207q
        obtain ⟨cq2208, kq2208, q2208a, q2208b, q2208c⟩ := isOf hZ e2207 o2183_0
        obtain ⟨_, _, ⟨T2208, L2208, k2208, n2208⟩, -, X2208, ⟨Lc2208, hQ2208, l2208, y2208, z2208⟩, st2208⟩ := X2207.interfaceBack hx (xi := (⟨"java/util/List", "size", "()I"⟩ : MethodName)) (y := (⟨"com/example/rank60/rank60/FusedList$Explanations$DocumentContributions", "size", "()I"⟩ : MethodName)) hown (mvT hZ (own_wk hw 104 rfl)) (mvT hZ (own_wk hw 105 rfl)) (mvT hZ (own_wk hw 106 rfl)) (mvT hZ (own_wk hw 107 rfl)) (mvT hZ (own_wk hw 108 rfl)) (mvT hZ (own_wk hw 109 rfl)) (mvT hZ (own_wk hw 110 rfl)) (mvT hZ (own_wk hw 111 rfl)) (by decide) (backOf (W := 0) (rm14 l Z ag hw [] r2183 ((2 : Int32) - (1 : Int32)) T2183.heap n0 sz2206 o2183_3) hZ (own_wk hw 112 rfl) (own_wk hw 91 rfl) (by decide) (by decide)) q2208a q2208b q2208c (g := (mkF m 184 (own_loc48 p0 p1 p2 p3 p4 p5 b1840 b1851 b1872 b2119 r2162 r2183) [(.ref r2183)])) rfl (by rw [hml]; rfl) (Steps.refl _) (argsL := []) (rest := []) (lenOf pd_1 rfl) rfl (by show 2 * 0 + _ ≤ _; exact Nat.le_of_eq rfl) (hb hby at_184) (fun _ _ => ⟨rfl, e2207, (by decide : 11 + 0 ≤ _), (by decide : 37 + 0 ≤ _)⟩)
        dsimp only [Pt.U, Pt.locs, Pt.cells, Pt.slots] at X2208 l2208 y2208 z2208 st2208 hQ2208
        subst l2208 y2208 z2208
        obtain ⟨rfl, N2208q, e2208⟩ := hQ2208
        have N2208 := Fr.app N2207 N2208q
        have cp2209 : ∀ target, own_S p e below T2208 (mkF m 241 (own_loc48 p0 p1 p2 p3 p4 p5 b1840 b1851 b1872 b2119 r2162 r2183) [.int 0, (.ref r2162)]) target → own_S p e below s₁ (mkF m 0 (own_loc7 p0 p1 p2 p3 p4 p5) []) target := by
          intro target kt
          show own_S p e below s₁ (mkF m 0 (own_loc7 p0 p1 p2 p3 p4 p5) []) _
          refine cp2182 _ ?_
          show own_S p e below T2162 (mkF m 165 (own_loc47 p0 p1 p2 p3 p4 p5 b1840 b1851 b1872 b2119 r2162) [.int 1, (.ref b2119)]) _
          refine st2183.trans ?_
          show own_S p e below T2183 (mkF m 168 (own_loc47 p0 p1 p2 p3 p4 p5 b1840 b1851 b1872 b2119 r2162) [(.ref r2183)]) _
          refine XS.astore X2183.here hx rfl (hb hby at_168) rfl rfl (l' := (own_loc48 p0 p1 p2 p3 p4 p5 b1840 b1851 b1872 b2119 r2162 r2183)) rfl ?_
          show own_S p e below T2183 (mkF m 170 (own_loc48 p0 p1 p2 p3 p4 p5 b1840 b1851 b1872 b2119 r2162 r2183) []) _
          refine XS.aload X2183.here hx rfl (hb hby at_170) rfl rfl ?_
          show own_S p e below T2183 (mkF m 172 (own_loc48 p0 p1 p2 p3 p4 p5 b1840 b1851 b1872 b2119 r2162 r2183) [(.ref r2162)]) _
          refine st2207.trans ?_
          show own_S p e below T2207 (mkF m 177 (own_loc48 p0 p1 p2 p3 p4 p5 b1840 b1851 b1872 b2119 r2162 r2183) [(.int ((1 : Int32) - (0 : Int32)))]) _
          refine XS.iload X2207.here hx rfl (hb hby at_177) rfl ?_
          show own_S p e below T2207 (mkF m 179 (own_loc48 p0 p1 p2 p3 p4 p5 b1840 b1851 b1872 b2119 r2162 r2183) [(.int ((own_ushr p5 (1 : Int32)) % (3 : Int32))), (.int ((1 : Int32) - (0 : Int32)))]) _
          refine XS.icmpNo X2207.here hx rfl (hb hby at_179) rfl (teq (show ((1 : Int32) - (0 : Int32)) = ((own_ushr p5 (1 : Int32)) % (3 : Int32)) from (by rw [hc2092]; first | done | decide))).2 ?_
          show own_S p e below T2207 (mkF m 182 (own_loc48 p0 p1 p2 p3 p4 p5 b1840 b1851 b1872 b2119 r2162 r2183) []) _
          refine XS.aload X2207.here hx rfl (hb hby at_182) rfl rfl ?_
          show own_S p e below T2207 (mkF m 184 (own_loc48 p0 p1 p2 p3 p4 p5 b1840 b1851 b1872 b2119 r2162 r2183) [(.ref r2183)]) _
          refine st2208.trans ?_
          show own_S p e below T2208 (mkF m 189 (own_loc48 p0 p1 p2 p3 p4 p5 b1840 b1851 b1872 b2119 r2162 r2183) [(.int ((2 : Int32) - (1 : Int32)))]) _
          refine XS.iconst X2208.here hx rfl (hb hby at_189) ?_
          show own_S p e below T2208 (mkF m 190 (own_loc48 p0 p1 p2 p3 p4 p5 b1840 b1851 b1872 b2119 r2162 r2183) [.int 2, (.int ((2 : Int32) - (1 : Int32)))]) _
          refine XS.iload X2208.here hx rfl (hb hby at_190) rfl ?_
          show own_S p e below T2208 (mkF m 192 (own_loc48 p0 p1 p2 p3 p4 p5 b1840 b1851 b1872 b2119 r2162 r2183) [(.int ((own_ushr p5 (1 : Int32)) % (3 : Int32))), .int 2, (.int ((2 : Int32) - (1 : Int32)))]) _
          refine XS.isub X2208.here hx rfl (hb hby at_192) rfl ?_
          show own_S p e below T2208 (mkF m 193 (own_loc48 p0 p1 p2 p3 p4 p5 b1840 b1851 b1872 b2119 r2162 r2183) [(.int ((2 : Int32) - ((own_ushr p5 (1 : Int32)) % (3 : Int32)))), (.int ((2 : Int32) - (1 : Int32)))]) _
          refine XS.icmpYes X2208.here hx rfl (pc0 := 193) (pc' := 198) rfl (hb hby at_193) rfl (teq (show ((2 : Int32) - (1 : Int32)) = ((2 : Int32) - ((own_ushr p5 (1 : Int32)) % (3 : Int32))) from (by rw [hc2092]; first | done | decide))).1 (by decide) (by decide) ?_
          show own_S p e below T2208 (mkF m 198 (own_loc48 p0 p1 p2 p3 p4 p5 b1840 b1851 b1872 b2119 r2162 r2183) []) _
          refine XS.iload X2208.here hx rfl (hb hby at_198) rfl ?_
          show own_S p e below T2208 (mkF m 200 (own_loc48 p0 p1 p2 p3 p4 p5 b1840 b1851 b1872 b2119 r2162 r2183) [(.int ((own_ushr p5 (1 : Int32)) % (3 : Int32)))]) _
          refine XS.ifYes X2208.here hx rfl (pc0 := 200) (pc' := 232) rfl (hb hby at_200) rfl ((if0 _ _).trans (feq hc1895).2) (by decide) (by decide) ?_
          show own_S p e below T2208 (mkF m 232 (own_loc48 p0 p1 p2 p3 p4 p5 b1840 b1851 b1872 b2119 r2162 r2183) []) _
          refine XS.iload X2208.here hx rfl (hb hby at_232) rfl ?_
          show own_S p e below T2208 (mkF m 234 (own_loc48 p0 p1 p2 p3 p4 p5 b1840 b1851 b1872 b2119 r2162 r2183) [(.int ((own_ushr p5 (1 : Int32)) % (3 : Int32)))]) _
          refine XS.iconst X2208.here hx rfl (hb hby at_234) ?_
          show own_S p e below T2208 (mkF m 235 (own_loc48 p0 p1 p2 p3 p4 p5 b1840 b1851 b1872 b2119 r2162 r2183) [.int 1, (.int ((own_ushr p5 (1 : Int32)) % (3 : Int32)))]) _
          refine XS.icmpNo X2208.here hx rfl (hb hby at_235) rfl (teq hc2092).2 ?_
          show own_S p e below T2208 (mkF m 238 (own_loc48 p0 p1 p2 p3 p4 p5 b1840 b1851 b1872 b2119 r2162 r2183) []) _
          refine XS.aload X2208.here hx rfl (hb hby at_238) rfl rfl ?_
          show own_S p e below T2208 (mkF m 240 (own_loc48 p0 p1 p2 p3 p4 p5 b1840 b1851 b1872 b2119 r2162 r2183) [(.ref r2162)]) _
          refine XS.iconst X2208.here hx rfl (hb hby at_240) ?_
          exact kt
        obtain ⟨cq2210, kq2210, q2210a, q2210b, q2210c⟩ := isOf hZ e2208 x2202
        obtain ⟨_, _, ⟨T2210, L2210, k2210, n2210⟩, -, X2210, ⟨Lc2210, hQ2210, l2210, y2210, z2210⟩, st2210⟩ := X2208.interfaceBack hx (xi := (⟨"java/util/List", "get", "(I)Ljava/lang/Object;"⟩ : MethodName)) (y := (⟨"com/example/rank60/rank60/FusedList$Explanations$DocumentContributions", "get", "(I)Ljava/lang/Object;"⟩ : MethodName)) hown (mvT hZ (own_wk hw 113 rfl)) (mvT hZ (own_wk hw 114 rfl)) (mvT hZ (own_wk hw 115 rfl)) (mvT hZ (own_wk hw 116 rfl)) (mvT hZ (own_wk hw 117 rfl)) (mvT hZ (own_wk hw 118 rfl)) (mvT hZ (own_wk hw 119 rfl)) (mvT hZ (own_wk hw 111 rfl)) (by decide) (backOf (W := 0) (rm15_001 l Z ag hw [] r2162 ((1 : Int32) - (0 : Int32)) b1840 u1_1843 u2_1843 u3_1843 u4_1843 ku1_1843 p0 p2 ku2_1843 p1 p3 ku3_1843 (FP.i2d (p4.toInt8.toInt32)) (FP.i2d ((p4 >>> ((16 : Int32) &&& 31)).toInt8.toInt32)) ku4_1843 (FP.i2d ((p4 >>> ((8 : Int32) &&& 31)).toInt8.toInt32)) (FP.i2d ((p4 >>> ((24 : Int32) &&& 31)).toInt8.toInt32)) T2183.heap n0 sz2206 x2202 x2204 x2205 x2203 x2184 x2194 x2195 x2197 x2196 x2187 x2188 x2189 x2190 (by decide)) hZ (own_wk hw 120 rfl) (own_wk hw 91 rfl) (by decide) (by decide)) q2210a q2210b q2210c (g := (mkF m 241 (own_loc48 p0 p1 p2 p3 p4 p5 b1840 b1851 b1872 b2119 r2162 r2183) [.int 0, (.ref r2162)])) rfl (by rw [hml]; rfl) (Steps.refl _) (argsL := [(.int (0 : Int32))]) (rest := []) (lenOf pd_4 rfl) rfl (by show 2 * 0 + _ ≤ _; exact Nat.le_of_eq rfl) (hb hby at_241) (fun _ _ => ⟨rfl, e2208, (by decide : 11 + 1 ≤ _), (by decide : 37 + 4 ≤ _)⟩)
        dsimp only [Pt.U, Pt.locs, Pt.cells, Pt.slots] at X2210 l2210 y2210 z2210 st2210 hQ2210
        subst l2210 y2210 z2210
        obtain ⟨r2210, rfl, N2210q, K2210, ge_r2210, gq_r2210, o2210_0, o2210_1, o2210_2, o2210_3, o2210_4⟩ := hQ2210
        have N2210 := Fr.app N2208 N2210q
        have x2211 := x2184.keep K2210
        have x2212 := x2185.keep K2210 nin0
        have x2213 := x2186.keep K2210 nin0
        have x2214 := x2187.keep K2210 nin0
        have x2215 := x2188.keep K2210 nin0
        have x2216 := x2189.keep K2210 nin0
        have x2217 := x2190.keep K2210 nin0
        have x2218 := x2191.keep K2210 nin0
        have x2219 := x2192.keep K2210 nin0
        have x2220 := x2193.keep K2210 nin0
        have x2221 := x2194.keep K2210 nin0
        have x2222 := x2195.keep K2210 nin0
        have x2223 := x2196.keep K2210 nin0
        have x2224 := x2197.keep K2210 nin0
        have x2225 := x2198.keep K2210 nin0
        have x2226 := x2199.keep K2210
        have x2227 := x2200.keep K2210 nin0
        have x2228 := x2201.keep K2210 nin0
        have x2229 := x2202.keep K2210
        have x2230 := x2203.keep K2210 nin0
        have x2231 := x2204.keep K2210 nin0
        have x2232 := x2205.keep K2210 nin0
        have x2233 := o2183_0.keep K2210
        have x2234 := o2183_1.keep K2210 nin0
        have x2235 := o2183_2.keep K2210 nin0
        have x2236 := o2183_3.keep K2210 nin0
        have sz2237 : n0 ≤ T2210.heap.size := Nat.le_trans sz2206 K2210.1
        obtain ⟨T2238, X2238, e2238, st2238⟩ := castY X2210 hx hZ hown (own_wk hw 151 rfl) rfl (Ins.self o2210_0) (g := (mkF m 246 (own_loc48 p0 p1 p2 p3 p4 p5 b1840 b1851 b1872 b2119 r2162 r2183) [(.ref r2210)])) rfl rfl (hb hby at_246)
        obtain ⟨cq2239, kq2239, q2239a, q2239b, q2239c⟩ := isOf hZ e2238 x2233
        obtain ⟨_, _, ⟨T2239, L2239, k2239, n2239⟩, -, X2239, ⟨Lc2239, hQ2239, l2239, y2239, z2239⟩, st2239⟩ := X2238.interfaceBack hx (xi := (⟨"java/util/List", "get", "(I)Ljava/lang/Object;"⟩ : MethodName)) (y := (⟨"com/example/rank60/rank60/FusedList$Explanations$DocumentContributions", "get", "(I)Ljava/lang/Object;"⟩ : MethodName)) hown (mvT hZ (own_wk hw 113 rfl)) (mvT hZ (own_wk hw 114 rfl)) (mvT hZ (own_wk hw 115 rfl)) (mvT hZ (own_wk hw 116 rfl)) (mvT hZ (own_wk hw 117 rfl)) (mvT hZ (own_wk hw 118 rfl)) (mvT hZ (own_wk hw 119 rfl)) (mvT hZ (own_wk hw 111 rfl)) (by decide) (backOf (W := 0) (rm15_011 l Z ag hw [] r2183 ((2 : Int32) - (1 : Int32)) b1840 u1_1843 u2_1843 u3_1843 u4_1843 ku1_1843 p0 p2 ku2_1843 p1 p3 ku3_1843 (FP.i2d (p4.toInt8.toInt32)) (FP.i2d ((p4 >>> ((16 : Int32) &&& 31)).toInt8.toInt32)) ku4_1843 (FP.i2d ((p4 >>> ((8 : Int32) &&& 31)).toInt8.toInt32)) (FP.i2d ((p4 >>> ((24 : Int32) &&& 31)).toInt8.toInt32)) T2210.heap n0 sz2237 x2233 x2235 x2236 x2234 x2211 x2221 x2222 x2224 x2223 x2214 x2215 x2216 x2217 (by decide)) hZ (own_wk hw 120 rfl) (own_wk hw 91 rfl) (by decide) (by decide)) q2239a q2239b q2239c (g := (mkF m 254 (own_loc49 p0 p1 p2 p3 p4 p5 b1840 b1851 b1872 b2119 r2162 r2183 r2210) [.int 0, (.ref r2183)])) rfl (by rw [hml]; rfl) (Steps.refl _) (argsL := [(.int (0 : Int32))]) (rest := []) (lenOf pd_4 rfl) rfl (by show 2 * 0 + _ ≤ _; exact Nat.le_of_eq rfl) (hb hby at_254) (fun _ _ => ⟨rfl, e2238, (by decide : 12 + 1 ≤ _), (by decide : 41 + 4 ≤ _)⟩)
        dsimp only [Pt.U, Pt.locs, Pt.cells, Pt.slots] at X2239 l2239 y2239 z2239 st2239 hQ2239
        subst l2239 y2239 z2239
        obtain ⟨r2239, rfl, N2239q, K2239, ge_r2239, gq_r2239, o2239_0, o2239_1, o2239_2, o2239_3, o2239_4⟩ := hQ2239
        have N2239 := Fr.app N2210 N2239q
        have x2240 := x2211.keep K2239
        have x2241 := x2212.keep K2239 nin0
        have x2242 := x2213.keep K2239 nin0
        have x2243 := x2214.keep K2239 nin0
        have x2244 := x2215.keep K2239 nin0
        have x2245 := x2216.keep K2239 nin0
        have x2246 := x2217.keep K2239 nin0
        have x2247 := x2218.keep K2239 nin0
        have x2248 := x2219.keep K2239 nin0
        have x2249 := x2220.keep K2239 nin0
        have x2250 := x2221.keep K2239 nin0
        have x2251 := x2222.keep K2239 nin0
        have x2252 := x2223.keep K2239 nin0
        have x2253 := x2224.keep K2239 nin0
        have x2254 := x2225.keep K2239 nin0
        have x2255 := x2226.keep K2239
        have x2256 := x2227.keep K2239 nin0
        have x2257 := x2228.keep K2239 nin0
        have x2258 := x2229.keep K2239
        have x2259 := x2230.keep K2239 nin0
        have x2260 := x2231.keep K2239 nin0
        have x2261 := x2232.keep K2239 nin0
        have x2262 := x2233.keep K2239
        have x2263 := x2234.keep K2239 nin0
        have x2264 := x2235.keep K2239 nin0
        have x2265 := x2236.keep K2239 nin0
        have x2266 := o2210_0.keep K2239
        have x2267 := o2210_1.keep K2239 nin0
        have x2268 := o2210_2.keep K2239 nin0
        have x2269 := o2210_3.keep K2239 nin0
        have x2270 := o2210_4.keep K2239 nin0
        have sz2271 : n0 ≤ T2239.heap.size := Nat.le_trans sz2237 K2239.1
        obtain ⟨T2272, X2272, e2272, st2272⟩ := castY X2239 hx hZ hown (own_wk hw 151 rfl) rfl (Ins.self o2239_0) (g := (mkF m 259 (own_loc49 p0 p1 p2 p3 p4 p5 b1840 b1851 b1872 b2119 r2162 r2183 r2210) [(.ref r2239)])) rfl rfl (hb hby at_259)
        have cp2273 : ∀ target, own_S p e below T2272 (mkF m 303 (own_loc50 p0 p1 p2 p3 p4 p5 b1840 b1851 b1872 b2119 r2162 r2183 r2210 r2239) [.int 1, (.double (FP.i2d ((p4 >>> ((8 : Int32) &&& 31)).toInt8.toInt32))), (.double (FP.i2d (p4.toInt8.toInt32))), (.int p1), (.int p0), (.ref r2210)]) target → own_S p e below s₁ (mkF m 0 (own_loc7 p0 p1 p2 p3 p4 p5) []) target := by
          intro target kt
          show own_S p e below s₁ (mkF m 0 (own_loc7 p0 p1 p2 p3 p4 p5) []) _
          refine cp2209 _ ?_
          show own_S p e below T2208 (mkF m 241 (own_loc48 p0 p1 p2 p3 p4 p5 b1840 b1851 b1872 b2119 r2162 r2183) [.int 0, (.ref r2162)]) _
          refine st2210.trans ?_
          show own_S p e below T2210 (mkF m 246 (own_loc48 p0 p1 p2 p3 p4 p5 b1840 b1851 b1872 b2119 r2162 r2183) [(.ref r2210)]) _
          refine st2238 _ ?_
          show own_S p e below T2238 (mkF m 249 (own_loc48 p0 p1 p2 p3 p4 p5 b1840 b1851 b1872 b2119 r2162 r2183) [(.ref r2210)]) _
          refine XS.astore X2238.here hx rfl (hb hby at_249) rfl rfl (l' := (own_loc49 p0 p1 p2 p3 p4 p5 b1840 b1851 b1872 b2119 r2162 r2183 r2210)) rfl ?_
          show own_S p e below T2238 (mkF m 251 (own_loc49 p0 p1 p2 p3 p4 p5 b1840 b1851 b1872 b2119 r2162 r2183 r2210) []) _
          refine XS.aload X2238.here hx rfl (hb hby at_251) rfl rfl ?_
          show own_S p e below T2238 (mkF m 253 (own_loc49 p0 p1 p2 p3 p4 p5 b1840 b1851 b1872 b2119 r2162 r2183 r2210) [(.ref r2183)]) _
          refine XS.iconst X2238.here hx rfl (hb hby at_253) ?_
          show own_S p e below T2238 (mkF m 254 (own_loc49 p0 p1 p2 p3 p4 p5 b1840 b1851 b1872 b2119 r2162 r2183 r2210) [.int 0, (.ref r2183)]) _
          refine st2239.trans ?_
          show own_S p e below T2239 (mkF m 259 (own_loc49 p0 p1 p2 p3 p4 p5 b1840 b1851 b1872 b2119 r2162 r2183 r2210) [(.ref r2239)]) _
          refine st2272 _ ?_
          show own_S p e below T2272 (mkF m 262 (own_loc49 p0 p1 p2 p3 p4 p5 b1840 b1851 b1872 b2119 r2162 r2183 r2210) [(.ref r2239)]) _
          refine XS.astore X2272.here hx rfl (hb hby at_262) rfl rfl (l' := (own_loc50 p0 p1 p2 p3 p4 p5 b1840 b1851 b1872 b2119 r2162 r2183 r2210 r2239)) rfl ?_
          show own_S p e below T2272 (mkF m 264 (own_loc50 p0 p1 p2 p3 p4 p5 b1840 b1851 b1872 b2119 r2162 r2183 r2210 r2239) []) _
          refine XS.goto X2272.here hx rfl (pc0 := 264) (pc' := 293) rfl (hb hby at_264) (by decide) (by decide) ?_
          show own_S p e below T2272 (mkF m 293 (own_loc50 p0 p1 p2 p3 p4 p5 b1840 b1851 b1872 b2119 r2162 r2183 r2210 r2239) []) _
          refine XS.aload X2272.here hx rfl (hb hby at_293) rfl rfl ?_
          show own_S p e below T2272 (mkF m 295 (own_loc50 p0 p1 p2 p3 p4 p5 b1840 b1851 b1872 b2119 r2162 r2183 r2210 r2239) [(.ref r2210)]) _
          refine XS.iloadN X2272.here hx rfl (hb hby at_295) rfl ?_
          show own_S p e below T2272 (mkF m 296 (own_loc50 p0 p1 p2 p3 p4 p5 b1840 b1851 b1872 b2119 r2162 r2183 r2210 r2239) [(.int p0), (.ref r2210)]) _
          refine XS.iloadN X2272.here hx rfl (hb hby at_296) rfl ?_
          show own_S p e below T2272 (mkF m 297 (own_loc50 p0 p1 p2 p3 p4 p5 b1840 b1851 b1872 b2119 r2162 r2183 r2210 r2239) [(.int p1), (.int p0), (.ref r2210)]) _
          refine XS.dload X2272.here hx rfl (hb hby at_297) rfl ?_
          show own_S p e below T2272 (mkF m 299 (own_loc50 p0 p1 p2 p3 p4 p5 b1840 b1851 b1872 b2119 r2162 r2183 r2210 r2239) [(.double (FP.i2d (p4.toInt8.toInt32))), (.int p1), (.int p0), (.ref r2210)]) _
          refine XS.dload X2272.here hx rfl (hb hby at_299) rfl ?_
          show own_S p e below T2272 (mkF m 301 (own_loc50 p0 p1 p2 p3 p4 p5 b1840 b1851 b1872 b2119 r2162 r2183 r2210 r2239) [(.double (FP.i2d ((p4 >>> ((8 : Int32) &&& 31)).toInt8.toInt32))), (.double (FP.i2d (p4.toInt8.toInt32))), (.int p1), (.int p0), (.ref r2210)]) _
          refine XS.iload X2272.here hx rfl (hb hby at_301) rfl ?_
          exact kt
        obtain ⟨_, _, ⟨T2274, L2274, k2274, n2274⟩, -, X2274, ⟨Lc2274, hQ2274, l2274, y2274, z2274⟩, st2274⟩ := Jvm.LawKit.callS X2272 hx (y := (⟨"com/example/rank60/rank60/ExplanationsAddPinLaw", "matches", "(Lcom/example/rank60/rank60/FusedHit$Contribution;IIDDZ)Z"⟩ : MethodName)) hown (mvT hZ (own_wk hw 153 rfl)) (mvT hZ (own_wk hw 154 rfl)) (mvT hZ (own_wk hw 155 rfl)) (mvT hZ (own_wk hw 156 rfl)) (by decide) (backOf (W := 0) (rm19_1 l Z ag hw [] r2210 p0 p1 (FP.i2d (p4.toInt8.toInt32)) (FP.i2d ((p4 >>> ((8 : Int32) &&& 31)).toInt8.toInt32))  T2239.heap n0 sz2271 x2266 x2267 x2268 x2269 x2270 (own_i2dn _) (own_i2dn _)) hZ (own_wk hw 156 rfl) (own_wk hw 155 rfl) (by decide) (by decide)) (g := (mkF m 303 (own_loc50 p0 p1 p2 p3 p4 p5 b1840 b1851 b1872 b2119 r2162 r2183 r2210 r2239) [.int 1, (.double (FP.i2d ((p4 >>> ((8 : Int32) &&& 31)).toInt8.toInt32))), (.double (FP.i2d (p4.toInt8.toInt32))), (.int p1), (.int p0), (.ref r2210)])) rfl (by rw [hml]; rfl) (argsL := [(.ref r2210), (.int p0), (.int p1), (.double (FP.i2d (p4.toInt8.toInt32))), (.double (FP.i2d ((p4 >>> ((8 : Int32) &&& 31)).toInt8.toInt32))), (.int (1 : Int32))]) (rest := []) (lenOf pd_10 rfl) rfl (by show 2 * 0 + _ ≤ _; exact Nat.le_of_eq rfl) (hb hby at_303) (fun _ _ => ⟨rfl, e2272, (by decide : 13 + 0 ≤ _), (by decide : 45 + 0 ≤ _)⟩)
        dsimp only [Pt.U, Pt.locs, Pt.cells, Pt.slots] at X2274 l2274 y2274 z2274 st2274 hQ2274
        subst l2274 y2274 z2274
        obtain ⟨rfl, N2274q, e2274⟩ := hQ2274
        have N2274 := Fr.app N2239 N2274q
        obtain ⟨_, _, ⟨T2275, L2275, k2275, n2275⟩, -, X2275, ⟨Lc2275, hQ2275, l2275, y2275, z2275⟩, st2275⟩ := Jvm.LawKit.callS X2274 hx (y := (⟨"com/example/rank60/rank60/ExplanationsAddPinLaw", "matches", "(Lcom/example/rank60/rank60/FusedHit$Contribution;IIDDZ)Z"⟩ : MethodName)) hown (mvT hZ (own_wk hw 153 rfl)) (mvT hZ (own_wk hw 154 rfl)) (mvT hZ (own_wk hw 155 rfl)) (mvT hZ (own_wk hw 156 rfl)) (by decide) (backOf (W := 0) (rm19_1 l Z ag hw [] r2239 p2 p3 (FP.i2d ((p4 >>> ((16 : Int32) &&& 31)).toInt8.toInt32)) (FP.i2d ((p4 >>> ((24 : Int32) &&& 31)).toInt8.toInt32))  T2239.heap n0 sz2271 o2239_0 o2239_1 o2239_2 o2239_3 o2239_4 (own_i2dn _) (own_i2dn _)) hZ (own_wk hw 156 rfl) (own_wk hw 155 rfl) (by decide) (by decide)) (g := (mkF m 319 (own_loc50 p0 p1 p2 p3 p4 p5 b1840 b1851 b1872 b2119 r2162 r2183 r2210 r2239) [.int 1, (.double (FP.i2d ((p4 >>> ((24 : Int32) &&& 31)).toInt8.toInt32))), (.double (FP.i2d ((p4 >>> ((16 : Int32) &&& 31)).toInt8.toInt32))), (.int p3), (.int p2), (.ref r2239)])) rfl (by rw [hml]; rfl) (argsL := [(.ref r2239), (.int p2), (.int p3), (.double (FP.i2d ((p4 >>> ((16 : Int32) &&& 31)).toInt8.toInt32))), (.double (FP.i2d ((p4 >>> ((24 : Int32) &&& 31)).toInt8.toInt32))), (.int (1 : Int32))]) (rest := []) (lenOf pd_10 rfl) rfl (by show 2 * 0 + _ ≤ _; exact Nat.le_of_eq rfl) (hb hby at_319) (fun _ _ => ⟨rfl, e2274, (by decide : 13 + 0 ≤ _), (by decide : 45 + 0 ≤ _)⟩)
        dsimp only [Pt.U, Pt.locs, Pt.cells, Pt.slots] at X2275 l2275 y2275 z2275 st2275 hQ2275
        subst l2275 y2275 z2275
        obtain ⟨rfl, N2275q, e2275⟩ := hQ2275
        have N2275 := Fr.app N2274 N2275q
        obtain ⟨fs, hr, hrun, hended, hW, hsame⟩ := X2275.leave (v := some (.int (1 : Int32))) (fun h => by rw [Bd.returns] at h; cases h)
        refine ⟨_, _, pre0 _ ?_, hrun, hended, _, _, rfl, ?_, ⟨_, rfl⟩, hW, hsame.mono (by decide) (by decide)⟩
        · show own_S p e below s₁ (mkF m 0 (own_loc7 p0 p1 p2 p3 p4 p5) []) _
          refine cp2273 _ ?_
          show own_S p e below T2272 (mkF m 303 (own_loc50 p0 p1 p2 p3 p4 p5 b1840 b1851 b1872 b2119 r2162 r2183 r2210 r2239) [.int 1, (.double (FP.i2d ((p4 >>> ((8 : Int32) &&& 31)).toInt8.toInt32))), (.double (FP.i2d (p4.toInt8.toInt32))), (.int p1), (.int p0), (.ref r2210)]) _
          refine st2274 _ ?_
          show own_S p e below T2274 (mkF m 306 (own_loc50 p0 p1 p2 p3 p4 p5 b1840 b1851 b1872 b2119 r2162 r2183 r2210 r2239) [.int 1]) _
          refine XS.ifNo X2274.here hx rfl (hb hby at_306) rfl ((if0 _ _).trans (feq (by decide : ¬ ((1 : Int32) = (0 : Int32)))).1) ?_
          show own_S p e below T2274 (mkF m 309 (own_loc50 p0 p1 p2 p3 p4 p5 b1840 b1851 b1872 b2119 r2162 r2183 r2210 r2239) []) _
          refine XS.aload X2274.here hx rfl (hb hby at_309) rfl rfl ?_
          show own_S p e below T2274 (mkF m 311 (own_loc50 p0 p1 p2 p3 p4 p5 b1840 b1851 b1872 b2119 r2162 r2183 r2210 r2239) [(.ref r2239)]) _
          refine XS.iloadN X2274.here hx rfl (hb hby at_311) rfl ?_
          show own_S p e below T2274 (mkF m 312 (own_loc50 p0 p1 p2 p3 p4 p5 b1840 b1851 b1872 b2119 r2162 r2183 r2210 r2239) [(.int p2), (.ref r2239)]) _
          refine XS.iloadN X2274.here hx rfl (hb hby at_312) rfl ?_
          show own_S p e below T2274 (mkF m 313 (own_loc50 p0 p1 p2 p3 p4 p5 b1840 b1851 b1872 b2119 r2162 r2183 r2210 r2239) [(.int p3), (.int p2), (.ref r2239)]) _
          refine XS.dload X2274.here hx rfl (hb hby at_313) rfl ?_
          show own_S p e below T2274 (mkF m 315 (own_loc50 p0 p1 p2 p3 p4 p5 b1840 b1851 b1872 b2119 r2162 r2183 r2210 r2239) [(.double (FP.i2d ((p4 >>> ((16 : Int32) &&& 31)).toInt8.toInt32))), (.int p3), (.int p2), (.ref r2239)]) _
          refine XS.dload X2274.here hx rfl (hb hby at_315) rfl ?_
          show own_S p e below T2274 (mkF m 317 (own_loc50 p0 p1 p2 p3 p4 p5 b1840 b1851 b1872 b2119 r2162 r2183 r2210 r2239) [(.double (FP.i2d ((p4 >>> ((24 : Int32) &&& 31)).toInt8.toInt32))), (.double (FP.i2d ((p4 >>> ((16 : Int32) &&& 31)).toInt8.toInt32))), (.int p3), (.int p2), (.ref r2239)]) _
          refine XS.iload X2274.here hx rfl (hb hby at_317) rfl ?_
          show own_S p e below T2274 (mkF m 319 (own_loc50 p0 p1 p2 p3 p4 p5 b1840 b1851 b1872 b2119 r2162 r2183 r2210 r2239) [.int 1, (.double (FP.i2d ((p4 >>> ((24 : Int32) &&& 31)).toInt8.toInt32))), (.double (FP.i2d ((p4 >>> ((16 : Int32) &&& 31)).toInt8.toInt32))), (.int p3), (.int p2), (.ref r2239)]) _
          refine st2275 _ ?_
          show own_S p e below T2275 (mkF m 322 (own_loc50 p0 p1 p2 p3 p4 p5 b1840 b1851 b1872 b2119 r2162 r2183 r2210 r2239) [.int 1]) _
          refine XS.ifNo X2275.here hx rfl (hb hby at_322) rfl ((if0 _ _).trans (feq (by decide : ¬ ((1 : Int32) = (0 : Int32)))).1) ?_
          show own_S p e below T2275 (mkF m 325 (own_loc50 p0 p1 p2 p3 p4 p5 b1840 b1851 b1872 b2119 r2162 r2183 r2210 r2239) []) _
          refine XS.iconst X2275.here hx rfl (hb hby at_325) ?_
          show own_S p e below T2275 (mkF m 326 (own_loc50 p0 p1 p2 p3 p4 p5 b1840 b1851 b1872 b2119 r2162 r2183 r2210 r2239) [.int 1]) _
          refine XS.goto X2275.here hx rfl (pc0 := 326) (pc' := 330) rfl (hb hby at_326) (by decide) (by decide) ?_
          show own_S p e below T2275 (mkF m 330 (own_loc50 p0 p1 p2 p3 p4 p5 b1840 b1851 b1872 b2119 r2162 r2183 r2210 r2239) [.int 1]) _
          exact retN X2275 hx (t := .boolean) Bd.returns (by simp) (hb hby at_330) hr
        · exact ⟨rfl, N2275⟩
      · obtain ⟨cq2276, kq2276, q2276a, q2276b, q2276c⟩ := isOf hZ rfl x2087
        obtain ⟨_, _, ⟨T2276, L2276, k2276, n2276⟩, -, X2276, ⟨Lc2276, hQ2276, l2276, y2276, z2276⟩, st2276⟩ := X2086.virtualBack hx (y := (⟨"com/example/rank60/rank60/FusedList$Explanations", "add", "(IIDD)V"⟩ : MethodName)) (z := (⟨"com/example/rank60/rank60/FusedList$Explanations", "add", "(IIDD)V"⟩ : MethodName)) hown (mvT hZ (own_wk hw 23 rfl)) (mvT hZ (own_wk hw 24 rfl)) (notFace_of_selects (args := #[]) (mvT hZ (own_wk hw 26 rfl))) (mvT hZ (own_wk hw 26 rfl)) (mvT hZ (own_wk hw 25 rfl)) (by decide) (backOf (W := 0) (rm3_11 l Z ag hw [] b1840 p2 p3 (FP.i2d ((p4 >>> ((16 : Int32) &&& 31)).toInt8.toInt32)) (FP.i2d ((p4 >>> ((24 : Int32) &&& 31)).toInt8.toInt32)) u1_1843 u2_1843 u3_1843 u4_1843 (0 : Int32) u0_1843 ku1_1843 p0 (0 : Int32) ku2_1843 p1 (0 : Int32) ku3_1843 (FP.i2d (p4.toInt8.toInt32)) (FP.l2d 0) ku4_1843 (FP.i2d ((p4 >>> ((8 : Int32) &&& 31)).toInt8.toInt32)) (FP.l2d 0) T2086.heap n0 sz2091 x2087 o2086_0 o2086_1 o2086_2 o2086_3 o2086_6 o2086_4 o2086_5 o2086_7 o2086_8 o2086_9 o2086_10 ge_b1840 ge_u1_1843 ge_u2_1843 ge_u3_1843 ge_u4_1843 ne1845 ne1846 ne1847 ne1848 ne1843_4 ne1843_5 ne1843_6 ne1843_7 ne1843_8 ne1843_9) hZ (own_wk hw 27 rfl) (own_wk hw 2 rfl) (by decide) (by decide)) q2276a q2276c (g := (mkF m 119 (own_loc40 p0 p1 p2 p3 p4 p5 b1840 b1851 b1872) [(.double (FP.i2d ((p4 >>> ((24 : Int32) &&& 31)).toInt8.toInt32))), (.double (FP.i2d ((p4 >>> ((16 : Int32) &&& 31)).toInt8.toInt32))), (.int p3), (.int p2), (.ref b1840)])) rfl (by rw [hml]; rfl) (Steps.refl _) (argsL := [(.int p2), (.int p3), (.double (FP.i2d ((p4 >>> ((16 : Int32) &&& 31)).toInt8.toInt32))), (.double (FP.i2d ((p4 >>> ((24 : Int32) &&& 31)).toInt8.toInt32)))]) (rest := []) (lenOf pd_7 rfl) rfl (by show 2 * 0 + _ ≤ _; exact Nat.le_of_eq rfl) (hb hby at_119) (fun _ _ => ⟨rfl, rfl, (by decide : 8 + 0 ≤ _), (by decide : 22 + 0 ≤ _)⟩)
        dsimp only [Pt.U, Pt.locs, Pt.cells, Pt.slots] at X2276 l2276 y2276 z2276 st2276 hQ2276
        subst l2276 y2276 z2276
        obtain ⟨rfl, N2276q, K2276, o2276_0, o2276_1, o2276_2, o2276_3, o2276_4, o2276_5, o2276_6, o2276_7, o2276_8, o2276_9, o2276_10⟩ := hQ2276
        have N2276 := Fr.app N2086 N2276q
        have x2277 := x2087.keep K2276
        have x2278 := x2088.keep K2276 (ninS (Ne.symm ne1844) (ninS ne1843_0 (ninS ne1843_1 (ninS ne1843_2 (ninS ne1843_3 nin0)))))
        have x2279 := x2089.keep K2276 (ninS (Ne.symm ne1852) (ninS (Ne.symm ne1854) (ninS (Ne.symm ne1855) (ninS (Ne.symm ne1856) (ninS (Ne.symm ne1857) nin0)))))
        have x2280 := x2090.keep K2276 (ninS (Ne.symm ne1873) (ninS (Ne.symm ne1875) (ninS (Ne.symm ne1876) (ninS (Ne.symm ne1877) (ninS (Ne.symm ne1878) nin0)))))
        have sz2281 : n0 ≤ T2276.heap.size := Nat.le_trans sz2091 K2276.1
        obtain ⟨cq2282, kq2282, q2282a, q2282b, q2282c⟩ := isOf hZ rfl x2277
        obtain ⟨_, _, ⟨T2282, L2282, k2282, n2282⟩, -, X2282, ⟨Lc2282, hQ2282, l2282, y2282, z2282⟩, st2282⟩ := X2276.virtualBack hx (y := (⟨"com/example/rank60/rank60/FusedList$Explanations", "endDocument", "()V"⟩ : MethodName)) (z := (⟨"com/example/rank60/rank60/FusedList$Explanations", "endDocument", "()V"⟩ : MethodName)) hown (mvT hZ (own_wk hw 30 rfl)) (mvT hZ (own_wk hw 31 rfl)) (notFace_of_selects (args := #[]) (mvT hZ (own_wk hw 33 rfl))) (mvT hZ (own_wk hw 33 rfl)) (mvT hZ (own_wk hw 32 rfl)) (by decide) (backOf (W := 0) (rm4_0 l Z ag hw [] b1840 u0_1843 (2 : Int32) u1_1843 u2_1843 u4_1843 (.ref u3_1843) ku0_1843 (0 : Int32) (0 : Int32) (0 : Int32) T2276.heap n0 sz2281 x2277 o2276_5 o2276_4 o2276_6 o2276_0 o2276_1 o2276_3 o2276_2 x2278 ge_b1840 ge_u0_1843 ne1844) hZ (own_wk hw 34 rfl) (own_wk hw 2 rfl) (by decide) (by decide)) q2282a q2282c (g := (mkF m 130 (own_loc40 p0 p1 p2 p3 p4 p5 b1840 b1851 b1872) [(.ref b1840)])) rfl (by rw [hml]; rfl) (Steps.refl _) (argsL := []) (rest := []) (lenOf pd_2 rfl) rfl (by show 2 * 0 + _ ≤ _; exact Nat.le_of_eq rfl) (hb hby at_130) (fun _ _ => ⟨rfl, rfl, (by decide : 8 + 0 ≤ _), (by decide : 22 + 0 ≤ _)⟩)
        dsimp only [Pt.U, Pt.locs, Pt.cells, Pt.slots] at X2282 l2282 y2282 z2282 st2282 hQ2282
        subst l2282 y2282 z2282
        obtain ⟨rfl, N2282q, K2282, o2282_0, o2282_1, o2282_2, o2282_3, o2282_4, o2282_5, o2282_6, o2282_7⟩ := hQ2282
        have N2282 := Fr.app N2276 N2282q
        have x2283 := x2277.keep K2282
        have x2284 := x2279.keep K2282 (ninS (Ne.symm ne1852) (ninS (Ne.symm ne1853) nin0))
        have x2285 := x2280.keep K2282 (ninS (Ne.symm ne1873) (ninS (Ne.symm ne1874) nin0))
        have x2286 := o2276_7.keep K2282 (ninS (Ne.symm ne1845) (ninS (Ne.symm ne1843_0) nin0))
        have x2287 := o2276_8.keep K2282 (ninS (Ne.symm ne1846) (ninS (Ne.symm ne1843_1) nin0))
        have x2288 := o2276_9.keep K2282 (ninS (Ne.symm ne1847) (ninS (Ne.symm ne1843_2) nin0))
        have x2289 := o2276_10.keep K2282 (ninS (Ne.symm ne1848) (ninS (Ne.symm ne1843_3) nin0))
        have sz2290 : n0 ≤ T2282.heap.size := Nat.le_trans sz2281 K2282.1
        have cp2291 : ∀ target, own_S p e below T2282 (mkF m 135 (own_loc40 p0 p1 p2 p3 p4 p5 b1840 b1851 b1872) [(.ref b1840)]) target → own_S p e below s₁ (mkF m 0 (own_loc7 p0 p1 p2 p3 p4 p5) []) target := by
          intro target kt
          show own_S p e below s₁ (mkF m 0 (own_loc7 p0 p1 p2 p3 p4 p5) []) _
          refine cp2093 _ ?_
          show own_S p e below T2086 (mkF m 103 (own_loc40 p0 p1 p2 p3 p4 p5 b1840 b1851 b1872) [.int 1, (.int ((own_ushr p5 (1 : Int32)) % (3 : Int32)))]) _
          refine XS.icmpYes X2086.here hx rfl (pc0 := 103) (pc' := 111) rfl (hb hby at_103) rfl (feq hc2092).2 (by decide) (by decide) ?_
          show own_S p e below T2086 (mkF m 111 (own_loc40 p0 p1 p2 p3 p4 p5 b1840 b1851 b1872) []) _
          refine XS.aload X2086.here hx rfl (hb hby at_111) rfl rfl ?_
          show own_S p e below T2086 (mkF m 113 (own_loc40 p0 p1 p2 p3 p4 p5 b1840 b1851 b1872) [(.ref b1840)]) _
          refine XS.iloadN X2086.here hx rfl (hb hby at_113) rfl ?_
          show own_S p e below T2086 (mkF m 114 (own_loc40 p0 p1 p2 p3 p4 p5 b1840 b1851 b1872) [(.int p2), (.ref b1840)]) _
          refine XS.iloadN X2086.here hx rfl (hb hby at_114) rfl ?_
          show own_S p e below T2086 (mkF m 115 (own_loc40 p0 p1 p2 p3 p4 p5 b1840 b1851 b1872) [(.int p3), (.int p2), (.ref b1840)]) _
          refine XS.dload X2086.here hx rfl (hb hby at_115) rfl ?_
          show own_S p e below T2086 (mkF m 117 (own_loc40 p0 p1 p2 p3 p4 p5 b1840 b1851 b1872) [(.double (FP.i2d ((p4 >>> ((16 : Int32) &&& 31)).toInt8.toInt32))), (.int p3), (.int p2), (.ref b1840)]) _
          refine XS.dload X2086.here hx rfl (hb hby at_117) rfl ?_
          show own_S p e below T2086 (mkF m 119 (own_loc40 p0 p1 p2 p3 p4 p5 b1840 b1851 b1872) [(.double (FP.i2d ((p4 >>> ((24 : Int32) &&& 31)).toInt8.toInt32))), (.double (FP.i2d ((p4 >>> ((16 : Int32) &&& 31)).toInt8.toInt32))), (.int p3), (.int p2), (.ref b1840)]) _
          refine st2276.trans ?_
          show own_S p e below T2276 (mkF m 122 (own_loc40 p0 p1 p2 p3 p4 p5 b1840 b1851 b1872) []) _
          refine XS.iload X2276.here hx rfl (hb hby at_122) rfl ?_
          show own_S p e below T2276 (mkF m 124 (own_loc40 p0 p1 p2 p3 p4 p5 b1840 b1851 b1872) [(.int ((own_ushr p5 (1 : Int32)) % (3 : Int32)))]) _
          refine XS.iconst X2276.here hx rfl (hb hby at_124) ?_
          show own_S p e below T2276 (mkF m 125 (own_loc40 p0 p1 p2 p3 p4 p5 b1840 b1851 b1872) [.int 2, (.int ((own_ushr p5 (1 : Int32)) % (3 : Int32)))]) _
          refine XS.icmpNo X2276.here hx rfl (hb hby at_125) rfl (teq (show ((own_ushr p5 (1 : Int32)) % (3 : Int32)) = (2 : Int32) from (own_split p5 hc1895 hc2092))).2 ?_
          show own_S p e below T2276 (mkF m 128 (own_loc40 p0 p1 p2 p3 p4 p5 b1840 b1851 b1872) []) _
          refine XS.aload X2276.here hx rfl (hb hby at_128) rfl rfl ?_
          show own_S p e below T2276 (mkF m 130 (own_loc40 p0 p1 p2 p3 p4 p5 b1840 b1851 b1872) [(.ref b1840)]) _
          refine st2282.trans ?_
          show own_S p e below T2282 (mkF m 133 (own_loc40 p0 p1 p2 p3 p4 p5 b1840 b1851 b1872) []) _
          refine XS.aload X2282.here hx rfl (hb hby at_133) rfl rfl ?_
          exact kt
        obtain ⟨cq2292, kq2292, q2292a, q2292b, q2292c⟩ := isOf hZ rfl x2283
        obtain ⟨_, _, ⟨T2292, L2292, k2292, n2292⟩, -, X2292, ⟨Lc2292, hQ2292, l2292, y2292, z2292⟩, st2292⟩ := X2282.virtualBack hx (y := (⟨"com/example/rank60/rank60/FusedList$Explanations", "endDocument", "()V"⟩ : MethodName)) (z := (⟨"com/example/rank60/rank60/FusedList$Explanations", "endDocument", "()V"⟩ : MethodName)) hown (mvT hZ (own_wk hw 30 rfl)) (mvT hZ (own_wk hw 31 rfl)) (notFace_of_selects (args := #[]) (mvT hZ (own_wk hw 33 rfl))) (mvT hZ (own_wk hw 33 rfl)) (mvT hZ (own_wk hw 32 rfl)) (by decide) (backOf (W := 0) (rm4_1 l Z ag hw [] b1840 u0_1843 (2 : Int32) u1_1843 u2_1843 u4_1843 (.ref u3_1843) ku0_1843 (0 : Int32) (2 : Int32) (0 : Int32) T2282.heap n0 sz2290 x2283 o2282_0 o2282_1 o2282_2 o2282_3 o2282_4 o2282_5 o2282_6 o2282_7 ge_b1840 ge_u0_1843 ne1844) hZ (own_wk hw 34 rfl) (own_wk hw 2 rfl) (by decide) (by decide)) q2292a q2292c (g := (mkF m 135 (own_loc40 p0 p1 p2 p3 p4 p5 b1840 b1851 b1872) [(.ref b1840)])) rfl (by rw [hml]; rfl) (Steps.refl _) (argsL := []) (rest := []) (lenOf pd_2 rfl) rfl (by show 2 * 0 + _ ≤ _; exact Nat.le_of_eq rfl) (hb hby at_135) (fun _ _ => ⟨rfl, rfl, (by decide : 8 + 0 ≤ _), (by decide : 22 + 0 ≤ _)⟩)
        dsimp only [Pt.U, Pt.locs, Pt.cells, Pt.slots] at X2292 l2292 y2292 z2292 st2292 hQ2292
        subst l2292 y2292 z2292
        obtain ⟨rfl, N2292q, K2292, o2292_0, o2292_1, o2292_2, o2292_3, o2292_4, o2292_5, o2292_6, o2292_7⟩ := hQ2292
        have N2292 := Fr.app N2282 N2292q
        have x2293 := x2283.keep K2292
        have x2294 := x2284.keep K2292 (ninS (Ne.symm ne1852) (ninS (Ne.symm ne1853) nin0))
        have x2295 := x2285.keep K2292 (ninS (Ne.symm ne1873) (ninS (Ne.symm ne1874) nin0))
        have x2296 := x2286.keep K2292 (ninS (Ne.symm ne1845) (ninS (Ne.symm ne1843_0) nin0))
        have x2297 := x2287.keep K2292 (ninS (Ne.symm ne1846) (ninS (Ne.symm ne1843_1) nin0))
        have x2298 := x2288.keep K2292 (ninS (Ne.symm ne1847) (ninS (Ne.symm ne1843_2) nin0))
        have x2299 := x2289.keep K2292 (ninS (Ne.symm ne1848) (ninS (Ne.symm ne1843_3) nin0))
        have sz2300 : n0 ≤ T2292.heap.size := Nat.le_trans sz2290 K2292.1
        obtain ⟨T2301, h2301, X2301, e2301, E2301, A2301, D2301, -, st2301⟩ := newO X2292 hx hZ hown (own_wk hw 37 rfl) (own_wk hw 38 rfl) (own_wk hw 39 rfl) rfl (g := (mkF m 138 (own_loc40 p0 p1 p2 p3 p4 p5 b1840 b1851 b1872) [])) rfl (hb hby at_138) (by decide) (by decide)
        obtain ⟨b2301, g2301⟩ : ∃ z, z = T2292.heap.size := ⟨_, rfl⟩
        have ne2302 : b1840 ≠ b2301 := Nat.ne_of_lt (Nat.lt_of_lt_of_le x2293.lt (Nat.le_of_eq g2301.symm))
        have ne2303 : u0_1843 ≠ b2301 := Nat.ne_of_lt (Nat.lt_of_lt_of_le o2292_7.lt (Nat.le_of_eq g2301.symm))
        have ne2304 : u1_1843 ≠ b2301 := Nat.ne_of_lt (Nat.lt_of_lt_of_le x2296.lt (Nat.le_of_eq g2301.symm))
        have ne2305 : u2_1843 ≠ b2301 := Nat.ne_of_lt (Nat.lt_of_lt_of_le x2297.lt (Nat.le_of_eq g2301.symm))
        have ne2306 : u3_1843 ≠ b2301 := Nat.ne_of_lt (Nat.lt_of_lt_of_le x2298.lt (Nat.le_of_eq g2301.symm))
        have ne2307 : u4_1843 ≠ b2301 := Nat.ne_of_lt (Nat.lt_of_lt_of_le x2299.lt (Nat.le_of_eq g2301.symm))
        have ne2308 : b1851 ≠ b2301 := Nat.ne_of_lt (Nat.lt_of_lt_of_le x2294.lt (Nat.le_of_eq g2301.symm))
        have ne2309 : b1872 ≠ b2301 := Nat.ne_of_lt (Nat.lt_of_lt_of_le x2295.lt (Nat.le_of_eq g2301.symm))
        have ge_b2301 : n0 ≤ b2301 := Nat.le_trans sz2300 (Nat.le_of_eq g2301.symm)
        rw [← g2301] at A2301 D2301 st2301
        have x2310 := x2293.ext E2301
        have x2311 := x2294.ext E2301
        have x2312 := x2295.ext E2301
        have x2313 := x2296.ext E2301
        have x2314 := x2297.ext E2301
        have x2315 := x2298.ext E2301
        have x2316 := x2299.ext E2301
        have x2317 := o2292_0.ext E2301
        have x2318 := o2292_1.ext E2301
        have x2319 := o2292_2.ext E2301
        have x2320 := o2292_3.ext E2301
        have x2321 := o2292_4.ext E2301
        have x2322 := o2292_5.ext E2301
        have x2323 := o2292_6.ext E2301
        have x2324 := o2292_7.ext E2301
        have sz2325 : n0 ≤ h2301.size := Nat.le_trans sz2300 E2301.1
        have F2301_modCount : Fld Z h2301 b2301 "java/util/AbstractList" "modCount" "I" (.int (0 : Int32)) := D2301 (Or.inl (own_wk hw 59 rfl)) (ty := .int) (by decide)
        have F2301_ids : Fld Z h2301 b2301 "com/example/rank60/rank60/FusedList" "ids" "[Ljava/lang/String;" .null := D2301 (Or.inr (own_wk hw 61 rfl)) (ty := (.array (.object "java/lang/String"))) (by decide)
        have F2301_documents : Fld Z h2301 b2301 "com/example/rank60/rank60/FusedList" "documents" "[I" .null := D2301 (Or.inr (own_wk hw 63 rfl)) (ty := (.array .int)) (by decide)
        have F2301_numbering : Fld Z h2301 b2301 "com/example/rank60/rank60/FusedList" "numbering" "Lcom/example/rank60/rank60/DocumentNumbering;" .null := D2301 (Or.inr (own_wk hw 65 rfl)) (ty := (.object "com/example/rank60/rank60/DocumentNumbering")) (by decide)
        have F2301_scores : Fld Z h2301 b2301 "com/example/rank60/rank60/FusedList" "scores" "[D" .null := D2301 (Or.inr (own_wk hw 67 rfl)) (ty := (.array .double)) (by decide)
        have F2301_firstRank : Fld Z h2301 b2301 "com/example/rank60/rank60/FusedList" "firstRank" "I" (.int (0 : Int32)) := D2301 (Or.inr (own_wk hw 69 rfl)) (ty := .int) (by decide)
        have F2301_explanations : Fld Z h2301 b2301 "com/example/rank60/rank60/FusedList" "explanations" "Lcom/example/rank60/rank60/FusedList$Explanations;" .null := D2301 (Or.inr (own_wk hw 71 rfl)) (ty := (.object "com/example/rank60/rank60/FusedList$Explanations")) (by decide)
        obtain ⟨_, _, ⟨T2326, L2326, k2326, n2326⟩, -, X2326, ⟨Lc2326, hQ2326, l2326, y2326, z2326⟩, st2326⟩ := X2301.specialBack hx (y := (⟨"com/example/rank60/rank60/FusedList", "<init>", "([Ljava/lang/String;[DILcom/example/rank60/rank60/FusedList$Explanations;)V"⟩ : MethodName)) rfl hown (mvT hZ (own_wk hw 40 rfl)) (mvT hZ (own_wk hw 41 rfl)) (mvT hZ (own_wk hw 42 rfl)) (by decide) (backOf (W := 1) (rm5 l Z ag hw [] b2301 b1851 b1872 (1 : Int32) b1840  h2301 n0 sz2325 A2301 F2301_modCount F2301_ids F2301_documents F2301_numbering F2301_scores F2301_explanations F2301_firstRank ge_b2301) hZ (own_wk hw 42 rfl) (own_wk hw 39 rfl) (by decide) (by decide)) (g := (mkF m 149 (own_loc40 p0 p1 p2 p3 p4 p5 b1840 b1851 b1872) [(.ref b1840), .int 1, (.ref b1872), (.ref b1851), (.ref b2301), (.ref b2301)])) rfl (by rw [hml]; rfl) (Steps.refl _) (a := b2301) (argsL := [(.ref b1851), (.ref b1872), (.int (1 : Int32)), (.ref b1840)]) (rest := [(.ref b2301)]) (lenOf pd_12 rfl) rfl (by show 2 * 0 + _ ≤ _; exact Nat.le_of_eq rfl) (hb hby at_149) (fun _ _ => ⟨rfl, e2301, (by decide : 9 + 0 ≤ _), (by decide : 29 + 0 ≤ _)⟩)
        dsimp only [Pt.U, Pt.locs, Pt.cells, Pt.slots] at X2326 l2326 y2326 z2326 st2326 hQ2326
        subst l2326 y2326 z2326
        obtain ⟨rfl, N2326q, K2326, o2326_0, o2326_1⟩ := hQ2326
        have N2326 := Fr.app N2292 N2326q
        have x2327 := x2310.keep K2326
        have x2328 := x2311.keep K2326 (ninS ne2308 nin0)
        have x2329 := x2312.keep K2326 (ninS ne2309 nin0)
        have x2330 := x2313.keep K2326 (ninS ne2304 nin0)
        have x2331 := x2314.keep K2326 (ninS ne2305 nin0)
        have x2332 := x2315.keep K2326 (ninS ne2306 nin0)
        have x2333 := x2316.keep K2326 (ninS ne2307 nin0)
        have x2334 := x2317.keep K2326 (ninS ne2302 nin0)
        have x2335 := x2318.keep K2326 (ninS ne2302 nin0)
        have x2336 := x2319.keep K2326 (ninS ne2302 nin0)
        have x2337 := x2320.keep K2326 (ninS ne2302 nin0)
        have x2338 := x2321.keep K2326 (ninS ne2302 nin0)
        have x2339 := x2322.keep K2326 (ninS ne2302 nin0)
        have x2340 := x2323.keep K2326 (ninS ne2302 nin0)
        have x2341 := x2324.keep K2326 (ninS ne2303 nin0)
        have x2342 := A2301.keep K2326
        have sz2343 : n0 ≤ T2326.heap.size := Nat.le_trans sz2325 K2326.1
        obtain ⟨cq2344, kq2344, q2344a, q2344b, q2344c⟩ := isOf hZ rfl x2342
        obtain ⟨_, _, ⟨T2344, L2344, k2344, n2344⟩, -, X2344, ⟨Lc2344, hQ2344, l2344, y2344, z2344⟩, st2344⟩ := X2326.virtualBack hx (y := (⟨"com/example/rank60/rank60/FusedList", "contributions", "(I)Ljava/util/List;"⟩ : MethodName)) (z := (⟨"com/example/rank60/rank60/FusedList", "contributions", "(I)Ljava/util/List;"⟩ : MethodName)) hown (mvT hZ (own_wk hw 72 rfl)) (mvT hZ (own_wk hw 73 rfl)) (notFace_of_selects (args := #[]) (mvT hZ (own_wk hw 75 rfl))) (mvT hZ (own_wk hw 75 rfl)) (mvT hZ (own_wk hw 74 rfl)) (by decide) (backOf (W := 0) (rm9_0 l Z ag hw [] b2301 b1872 k1872 (FP.l2d 0) (FP.l2d 0) b1840 u0_1843 ku0_1843 (0 : Int32) (2 : Int32) (2 : Int32) T2326.heap n0 sz2343 x2342 o2326_0 x2329 o2326_1 x2327 x2334 x2341) hZ (own_wk hw 76 rfl) (own_wk hw 39 rfl) (by decide) (by decide)) q2344a q2344c (g := (mkF m 157 (own_loc51 p0 p1 p2 p3 p4 p5 b1840 b1851 b1872 b2301) [.int 0, (.ref b2301)])) rfl (by rw [hml]; rfl) (Steps.refl _) (argsL := [(.int (0 : Int32))]) (rest := []) (lenOf pd_5 rfl) rfl (by show 2 * 0 + _ ≤ _; exact Nat.le_of_eq rfl) (hb hby at_157) (fun _ _ => ⟨rfl, rfl, (by decide : 9 + 1 ≤ _), (by decide : 29 + 4 ≤ _)⟩)
        dsimp only [Pt.U, Pt.locs, Pt.cells, Pt.slots] at X2344 l2344 y2344 z2344 st2344 hQ2344
        subst l2344 y2344 z2344
        obtain ⟨r2344, rfl, N2344q, K2344, ge_r2344, gq_r2344, o2344_0, o2344_1, o2344_2, o2344_3⟩ := hQ2344
        have N2344 := Fr.app N2326 N2344q
        have x2345 := x2327.keep K2344
        have x2346 := x2328.keep K2344 nin0
        have x2347 := x2329.keep K2344 nin0
        have x2348 := x2330.keep K2344 nin0
        have x2349 := x2331.keep K2344 nin0
        have x2350 := x2332.keep K2344 nin0
        have x2351 := x2333.keep K2344 nin0
        have x2352 := x2334.keep K2344 nin0
        have x2353 := x2335.keep K2344 nin0
        have x2354 := x2336.keep K2344 nin0
        have x2355 := x2337.keep K2344 nin0
        have x2356 := x2338.keep K2344 nin0
        have x2357 := x2339.keep K2344 nin0
        have x2358 := x2340.keep K2344 nin0
        have x2359 := x2341.keep K2344 nin0
        have x2360 := x2342.keep K2344
        have x2361 := o2326_0.keep K2344 nin0
        have x2362 := o2326_1.keep K2344 nin0
        have sz2363 : n0 ≤ T2344.heap.size := Nat.le_trans sz2343 K2344.1
        have cp2364 : ∀ target, own_S p e below T2344 (mkF m 165 (own_loc52 p0 p1 p2 p3 p4 p5 b1840 b1851 b1872 b2301 r2344) [.int 1, (.ref b2301)]) target → own_S p e below s₁ (mkF m 0 (own_loc7 p0 p1 p2 p3 p4 p5) []) target := by
          intro target kt
          show own_S p e below s₁ (mkF m 0 (own_loc7 p0 p1 p2 p3 p4 p5) []) _
          refine cp2291 _ ?_
          show own_S p e below T2282 (mkF m 135 (own_loc40 p0 p1 p2 p3 p4 p5 b1840 b1851 b1872) [(.ref b1840)]) _
          refine st2292.trans ?_
          show own_S p e below T2292 (mkF m 138 (own_loc40 p0 p1 p2 p3 p4 p5 b1840 b1851 b1872) []) _
          refine st2301 _ ?_
          show own_S p e below T2301 (mkF m 141 (own_loc40 p0 p1 p2 p3 p4 p5 b1840 b1851 b1872) [(.ref b2301)]) _
          refine XS.dup X2301.here hx rfl (hb hby at_141) rfl rfl ?_
          show own_S p e below T2301 (mkF m 142 (own_loc40 p0 p1 p2 p3 p4 p5 b1840 b1851 b1872) [(.ref b2301), (.ref b2301)]) _
          refine XS.aload X2301.here hx rfl (hb hby at_142) rfl rfl ?_
          show own_S p e below T2301 (mkF m 144 (own_loc40 p0 p1 p2 p3 p4 p5 b1840 b1851 b1872) [(.ref b1851), (.ref b2301), (.ref b2301)]) _
          refine XS.aload X2301.here hx rfl (hb hby at_144) rfl rfl ?_
          show own_S p e below T2301 (mkF m 146 (own_loc40 p0 p1 p2 p3 p4 p5 b1840 b1851 b1872) [(.ref b1872), (.ref b1851), (.ref b2301), (.ref b2301)]) _
          refine XS.iconst X2301.here hx rfl (hb hby at_146) ?_
          show own_S p e below T2301 (mkF m 147 (own_loc40 p0 p1 p2 p3 p4 p5 b1840 b1851 b1872) [.int 1, (.ref b1872), (.ref b1851), (.ref b2301), (.ref b2301)]) _
          refine XS.aload X2301.here hx rfl (hb hby at_147) rfl rfl ?_
          show own_S p e below T2301 (mkF m 149 (own_loc40 p0 p1 p2 p3 p4 p5 b1840 b1851 b1872) [(.ref b1840), .int 1, (.ref b1872), (.ref b1851), (.ref b2301), (.ref b2301)]) _
          refine st2326.trans ?_
          show own_S p e below T2326 (mkF m 152 (own_loc40 p0 p1 p2 p3 p4 p5 b1840 b1851 b1872) [(.ref b2301)]) _
          refine XS.astore X2326.here hx rfl (hb hby at_152) rfl rfl (l' := (own_loc51 p0 p1 p2 p3 p4 p5 b1840 b1851 b1872 b2301)) rfl ?_
          show own_S p e below T2326 (mkF m 154 (own_loc51 p0 p1 p2 p3 p4 p5 b1840 b1851 b1872 b2301) []) _
          refine XS.aload X2326.here hx rfl (hb hby at_154) rfl rfl ?_
          show own_S p e below T2326 (mkF m 156 (own_loc51 p0 p1 p2 p3 p4 p5 b1840 b1851 b1872 b2301) [(.ref b2301)]) _
          refine XS.iconst X2326.here hx rfl (hb hby at_156) ?_
          show own_S p e below T2326 (mkF m 157 (own_loc51 p0 p1 p2 p3 p4 p5 b1840 b1851 b1872 b2301) [.int 0, (.ref b2301)]) _
          refine st2344.trans ?_
          show own_S p e below T2344 (mkF m 160 (own_loc51 p0 p1 p2 p3 p4 p5 b1840 b1851 b1872 b2301) [(.ref r2344)]) _
          refine XS.astore X2344.here hx rfl (hb hby at_160) rfl rfl (l' := (own_loc52 p0 p1 p2 p3 p4 p5 b1840 b1851 b1872 b2301 r2344)) rfl ?_
          show own_S p e below T2344 (mkF m 162 (own_loc52 p0 p1 p2 p3 p4 p5 b1840 b1851 b1872 b2301 r2344) []) _
          refine XS.aload X2344.here hx rfl (hb hby at_162) rfl rfl ?_
          show own_S p e below T2344 (mkF m 164 (own_loc52 p0 p1 p2 p3 p4 p5 b1840 b1851 b1872 b2301 r2344) [(.ref b2301)]) _
          refine XS.iconst X2344.here hx rfl (hb hby at_164) ?_
          exact kt
        obtain ⟨cq2365, kq2365, q2365a, q2365b, q2365c⟩ := isOf hZ rfl x2360
        obtain ⟨_, _, ⟨T2365, L2365, k2365, n2365⟩, -, X2365, ⟨Lc2365, hQ2365, l2365, y2365, z2365⟩, st2365⟩ := X2344.virtualBack hx (y := (⟨"com/example/rank60/rank60/FusedList", "contributions", "(I)Ljava/util/List;"⟩ : MethodName)) (z := (⟨"com/example/rank60/rank60/FusedList", "contributions", "(I)Ljava/util/List;"⟩ : MethodName)) hown (mvT hZ (own_wk hw 72 rfl)) (mvT hZ (own_wk hw 73 rfl)) (notFace_of_selects (args := #[]) (mvT hZ (own_wk hw 75 rfl))) (mvT hZ (own_wk hw 75 rfl)) (mvT hZ (own_wk hw 74 rfl)) (by decide) (backOf (W := 0) (rm9_1 l Z ag hw [] b2301 b1872 k1872 (FP.l2d 0) (FP.l2d 0) b1840 u0_1843 ku0_1843 (0 : Int32) (2 : Int32) (2 : Int32) T2344.heap n0 sz2363 x2360 x2361 x2347 x2362 x2345 x2352 x2359) hZ (own_wk hw 76 rfl) (own_wk hw 39 rfl) (by decide) (by decide)) q2365a q2365c (g := (mkF m 165 (own_loc52 p0 p1 p2 p3 p4 p5 b1840 b1851 b1872 b2301 r2344) [.int 1, (.ref b2301)])) rfl (by rw [hml]; rfl) (Steps.refl _) (argsL := [(.int (1 : Int32))]) (rest := []) (lenOf pd_5 rfl) rfl (by show 2 * 0 + _ ≤ _; exact Nat.le_of_eq rfl) (hb hby at_165) (fun _ _ => ⟨rfl, rfl, (by decide : 10 + 1 ≤ _), (by decide : 33 + 4 ≤ _)⟩)
        dsimp only [Pt.U, Pt.locs, Pt.cells, Pt.slots] at X2365 l2365 y2365 z2365 st2365 hQ2365
        subst l2365 y2365 z2365
        obtain ⟨r2365, rfl, N2365q, K2365, ge_r2365, gq_r2365, o2365_0, o2365_1, o2365_2, o2365_3⟩ := hQ2365
        have N2365 := Fr.app N2344 N2365q
        have x2366 := x2345.keep K2365
        have x2367 := x2346.keep K2365 nin0
        have x2368 := x2347.keep K2365 nin0
        have x2369 := x2348.keep K2365 nin0
        have x2370 := x2349.keep K2365 nin0
        have x2371 := x2350.keep K2365 nin0
        have x2372 := x2351.keep K2365 nin0
        have x2373 := x2352.keep K2365 nin0
        have x2374 := x2353.keep K2365 nin0
        have x2375 := x2354.keep K2365 nin0
        have x2376 := x2355.keep K2365 nin0
        have x2377 := x2356.keep K2365 nin0
        have x2378 := x2357.keep K2365 nin0
        have x2379 := x2358.keep K2365 nin0
        have x2380 := x2359.keep K2365 nin0
        have x2381 := x2360.keep K2365
        have x2382 := x2361.keep K2365 nin0
        have x2383 := x2362.keep K2365 nin0
        have x2384 := o2344_0.keep K2365
        have x2385 := o2344_1.keep K2365 nin0
        have x2386 := o2344_2.keep K2365 nin0
        have x2387 := o2344_3.keep K2365 nin0
        have sz2388 : n0 ≤ T2365.heap.size := Nat.le_trans sz2363 K2365.1
        obtain ⟨cq2389, kq2389, q2389a, q2389b, q2389c⟩ := isOf hZ rfl x2384
        obtain ⟨_, _, ⟨T2389, L2389, k2389, n2389⟩, -, X2389, ⟨Lc2389, hQ2389, l2389, y2389, z2389⟩, st2389⟩ := X2365.interfaceBack hx (xi := (⟨"java/util/List", "size", "()I"⟩ : MethodName)) (y := (⟨"com/example/rank60/rank60/FusedList$Explanations$DocumentContributions", "size", "()I"⟩ : MethodName)) hown (mvT hZ (own_wk hw 104 rfl)) (mvT hZ (own_wk hw 105 rfl)) (mvT hZ (own_wk hw 106 rfl)) (mvT hZ (own_wk hw 107 rfl)) (mvT hZ (own_wk hw 108 rfl)) (mvT hZ (own_wk hw 109 rfl)) (mvT hZ (own_wk hw 110 rfl)) (mvT hZ (own_wk hw 111 rfl)) (by decide) (backOf (W := 0) (rm14 l Z ag hw [] r2344 ((2 : Int32) - (0 : Int32)) T2365.heap n0 sz2388 x2387) hZ (own_wk hw 112 rfl) (own_wk hw 91 rfl) (by decide) (by decide)) q2389a q2389b q2389c (g := (mkF m 172 (own_loc53 p0 p1 p2 p3 p4 p5 b1840 b1851 b1872 b2301 r2344 r2365) [(.ref r2344)])) rfl (by rw [hml]; rfl) (Steps.refl _) (argsL := []) (rest := []) (lenOf pd_1 rfl) rfl (by show 2 * 0 + _ ≤ _; exact Nat.le_of_eq rfl) (hb hby at_172) (fun _ _ => ⟨rfl, rfl, (by decide : 11 + 0 ≤ _), (by decide : 37 + 0 ≤ _)⟩)
        dsimp only [Pt.U, Pt.locs, Pt.cells, Pt.slots] at X2389 l2389 y2389 z2389 st2389 hQ2389
        subst l2389 y2389 z2389
        obtain ⟨rfl, N2389q, e2389⟩ := hQ2389
        have N2389 := Fr.app N2365 N2389q
        obtain ⟨cq2390, kq2390, q2390a, q2390b, q2390c⟩ := isOf hZ e2389 o2365_0
        obtain ⟨_, _, ⟨T2390, L2390, k2390, n2390⟩, -, X2390, ⟨Lc2390, hQ2390, l2390, y2390, z2390⟩, st2390⟩ := X2389.interfaceBack hx (xi := (⟨"java/util/List", "size", "()I"⟩ : MethodName)) (y := (⟨"com/example/rank60/rank60/FusedList$Explanations$DocumentContributions", "size", "()I"⟩ : MethodName)) hown (mvT hZ (own_wk hw 104 rfl)) (mvT hZ (own_wk hw 105 rfl)) (mvT hZ (own_wk hw 106 rfl)) (mvT hZ (own_wk hw 107 rfl)) (mvT hZ (own_wk hw 108 rfl)) (mvT hZ (own_wk hw 109 rfl)) (mvT hZ (own_wk hw 110 rfl)) (mvT hZ (own_wk hw 111 rfl)) (by decide) (backOf (W := 0) (rm14 l Z ag hw [] r2365 ((2 : Int32) - (2 : Int32)) T2365.heap n0 sz2388 o2365_3) hZ (own_wk hw 112 rfl) (own_wk hw 91 rfl) (by decide) (by decide)) q2390a q2390b q2390c (g := (mkF m 184 (own_loc53 p0 p1 p2 p3 p4 p5 b1840 b1851 b1872 b2301 r2344 r2365) [(.ref r2365)])) rfl (by rw [hml]; rfl) (Steps.refl _) (argsL := []) (rest := []) (lenOf pd_1 rfl) rfl (by show 2 * 0 + _ ≤ _; exact Nat.le_of_eq rfl) (hb hby at_184) (fun _ _ => ⟨rfl, e2389, (by decide : 11 + 0 ≤ _), (by decide : 37 + 0 ≤ _)⟩)
        dsimp only [Pt.U, Pt.locs, Pt.cells, Pt.slots] at X2390 l2390 y2390 z2390 st2390 hQ2390
        subst l2390 y2390 z2390
        obtain ⟨rfl, N2390q, e2390⟩ := hQ2390
        have N2390 := Fr.app N2389 N2390q
        have cp2391 : ∀ target, own_S p e below T2390 (mkF m 270 (own_loc53 p0 p1 p2 p3 p4 p5 b1840 b1851 b1872 b2301 r2344 r2365) [.int 0, (.ref r2344)]) target → own_S p e below s₁ (mkF m 0 (own_loc7 p0 p1 p2 p3 p4 p5) []) target := by
          intro target kt
          show own_S p e below s₁ (mkF m 0 (own_loc7 p0 p1 p2 p3 p4 p5) []) _
          refine cp2364 _ ?_
          show own_S p e below T2344 (mkF m 165 (own_loc52 p0 p1 p2 p3 p4 p5 b1840 b1851 b1872 b2301 r2344) [.int 1, (.ref b2301)]) _
          refine st2365.trans ?_
          show own_S p e below T2365 (mkF m 168 (own_loc52 p0 p1 p2 p3 p4 p5 b1840 b1851 b1872 b2301 r2344) [(.ref r2365)]) _
          refine XS.astore X2365.here hx rfl (hb hby at_168) rfl rfl (l' := (own_loc53 p0 p1 p2 p3 p4 p5 b1840 b1851 b1872 b2301 r2344 r2365)) rfl ?_
          show own_S p e below T2365 (mkF m 170 (own_loc53 p0 p1 p2 p3 p4 p5 b1840 b1851 b1872 b2301 r2344 r2365) []) _
          refine XS.aload X2365.here hx rfl (hb hby at_170) rfl rfl ?_
          show own_S p e below T2365 (mkF m 172 (own_loc53 p0 p1 p2 p3 p4 p5 b1840 b1851 b1872 b2301 r2344 r2365) [(.ref r2344)]) _
          refine st2389.trans ?_
          show own_S p e below T2389 (mkF m 177 (own_loc53 p0 p1 p2 p3 p4 p5 b1840 b1851 b1872 b2301 r2344 r2365) [(.int ((2 : Int32) - (0 : Int32)))]) _
          refine XS.iload X2389.here hx rfl (hb hby at_177) rfl ?_
          show own_S p e below T2389 (mkF m 179 (own_loc53 p0 p1 p2 p3 p4 p5 b1840 b1851 b1872 b2301 r2344 r2365) [(.int ((own_ushr p5 (1 : Int32)) % (3 : Int32))), (.int ((2 : Int32) - (0 : Int32)))]) _
          refine XS.icmpNo X2389.here hx rfl (hb hby at_179) rfl (teq (show ((2 : Int32) - (0 : Int32)) = ((own_ushr p5 (1 : Int32)) % (3 : Int32)) from (by rw [(own_split p5 hc1895 hc2092)]; first | done | decide))).2 ?_
          show own_S p e below T2389 (mkF m 182 (own_loc53 p0 p1 p2 p3 p4 p5 b1840 b1851 b1872 b2301 r2344 r2365) []) _
          refine XS.aload X2389.here hx rfl (hb hby at_182) rfl rfl ?_
          show own_S p e below T2389 (mkF m 184 (own_loc53 p0 p1 p2 p3 p4 p5 b1840 b1851 b1872 b2301 r2344 r2365) [(.ref r2365)]) _
          refine st2390.trans ?_
          show own_S p e below T2390 (mkF m 189 (own_loc53 p0 p1 p2 p3 p4 p5 b1840 b1851 b1872 b2301 r2344 r2365) [(.int ((2 : Int32) - (2 : Int32)))]) _
          refine XS.iconst X2390.here hx rfl (hb hby at_189) ?_
          show own_S p e below T2390 (mkF m 190 (own_loc53 p0 p1 p2 p3 p4 p5 b1840 b1851 b1872 b2301 r2344 r2365) [.int 2, (.int ((2 : Int32) - (2 : Int32)))]) _
          refine XS.iload X2390.here hx rfl (hb hby at_190) rfl ?_
          show own_S p e below T2390 (mkF m 192 (own_loc53 p0 p1 p2 p3 p4 p5 b1840 b1851 b1872 b2301 r2344 r2365) [(.int ((own_ushr p5 (1 : Int32)) % (3 : Int32))), .int 2, (.int ((2 : Int32) - (2 : Int32)))]) _
          refine XS.isub X2390.here hx rfl (hb hby at_192) rfl ?_
          show own_S p e below T2390 (mkF m 193 (own_loc53 p0 p1 p2 p3 p4 p5 b1840 b1851 b1872 b2301 r2344 r2365) [(.int ((2 : Int32) - ((own_ushr p5 (1 : Int32)) % (3 : Int32)))), (.int ((2 : Int32) - (2 : Int32)))]) _
          refine XS.icmpYes X2390.here hx rfl (pc0 := 193) (pc' := 198) rfl (hb hby at_193) rfl (teq (show ((2 : Int32) - (2 : Int32)) = ((2 : Int32) - ((own_ushr p5 (1 : Int32)) % (3 : Int32))) from (by rw [(own_split p5 hc1895 hc2092)]; first | done | decide))).1 (by decide) (by decide) ?_
          show own_S p e below T2390 (mkF m 198 (own_loc53 p0 p1 p2 p3 p4 p5 b1840 b1851 b1872 b2301 r2344 r2365) []) _
          refine XS.iload X2390.here hx rfl (hb hby at_198) rfl ?_
          show own_S p e below T2390 (mkF m 200 (own_loc53 p0 p1 p2 p3 p4 p5 b1840 b1851 b1872 b2301 r2344 r2365) [(.int ((own_ushr p5 (1 : Int32)) % (3 : Int32)))]) _
          refine XS.ifYes X2390.here hx rfl (pc0 := 200) (pc' := 232) rfl (hb hby at_200) rfl ((if0 _ _).trans (feq hc1895).2) (by decide) (by decide) ?_
          show own_S p e below T2390 (mkF m 232 (own_loc53 p0 p1 p2 p3 p4 p5 b1840 b1851 b1872 b2301 r2344 r2365) []) _
          refine XS.iload X2390.here hx rfl (hb hby at_232) rfl ?_
          show own_S p e below T2390 (mkF m 234 (own_loc53 p0 p1 p2 p3 p4 p5 b1840 b1851 b1872 b2301 r2344 r2365) [(.int ((own_ushr p5 (1 : Int32)) % (3 : Int32)))]) _
          refine XS.iconst X2390.here hx rfl (hb hby at_234) ?_
          show own_S p e below T2390 (mkF m 235 (own_loc53 p0 p1 p2 p3 p4 p5 b1840 b1851 b1872 b2301 r2344 r2365) [.int 1, (.int ((own_ushr p5 (1 : Int32)) % (3 : Int32)))]) _
          refine XS.icmpYes X2390.here hx rfl (pc0 := 235) (pc' := 267) rfl (hb hby at_235) rfl (feq hc2092).2 (by decide) (by decide) ?_
          show own_S p e below T2390 (mkF m 267 (own_loc53 p0 p1 p2 p3 p4 p5 b1840 b1851 b1872 b2301 r2344 r2365) []) _
          refine XS.aload X2390.here hx rfl (hb hby at_267) rfl rfl ?_
          show own_S p e below T2390 (mkF m 269 (own_loc53 p0 p1 p2 p3 p4 p5 b1840 b1851 b1872 b2301 r2344 r2365) [(.ref r2344)]) _
          refine XS.iconst X2390.here hx rfl (hb hby at_269) ?_
          exact kt
        obtain ⟨cq2392, kq2392, q2392a, q2392b, q2392c⟩ := isOf hZ e2390 x2384
        obtain ⟨_, _, ⟨T2392, L2392, k2392, n2392⟩, -, X2392, ⟨Lc2392, hQ2392, l2392, y2392, z2392⟩, st2392⟩ := X2390.interfaceBack hx (xi := (⟨"java/util/List", "get", "(I)Ljava/lang/Object;"⟩ : MethodName)) (y := (⟨"com/example/rank60/rank60/FusedList$Explanations$DocumentContributions", "get", "(I)Ljava/lang/Object;"⟩ : MethodName)) hown (mvT hZ (own_wk hw 113 rfl)) (mvT hZ (own_wk hw 114 rfl)) (mvT hZ (own_wk hw 115 rfl)) (mvT hZ (own_wk hw 116 rfl)) (mvT hZ (own_wk hw 117 rfl)) (mvT hZ (own_wk hw 118 rfl)) (mvT hZ (own_wk hw 119 rfl)) (mvT hZ (own_wk hw 111 rfl)) (by decide) (backOf (W := 0) (rm15_001 l Z ag hw [] r2344 ((2 : Int32) - (0 : Int32)) b1840 u1_1843 u2_1843 u3_1843 u4_1843 ku1_1843 p0 p2 ku2_1843 p1 p3 ku3_1843 (FP.i2d (p4.toInt8.toInt32)) (FP.i2d ((p4 >>> ((16 : Int32) &&& 31)).toInt8.toInt32)) ku4_1843 (FP.i2d ((p4 >>> ((8 : Int32) &&& 31)).toInt8.toInt32)) (FP.i2d ((p4 >>> ((24 : Int32) &&& 31)).toInt8.toInt32)) T2365.heap n0 sz2388 x2384 x2386 x2387 x2385 x2366 x2376 x2377 x2379 x2378 x2369 x2370 x2371 x2372 (by decide)) hZ (own_wk hw 120 rfl) (own_wk hw 91 rfl) (by decide) (by decide)) q2392a q2392b q2392c (g := (mkF m 270 (own_loc53 p0 p1 p2 p3 p4 p5 b1840 b1851 b1872 b2301 r2344 r2365) [.int 0, (.ref r2344)])) rfl (by rw [hml]; rfl) (Steps.refl _) (argsL := [(.int (0 : Int32))]) (rest := []) (lenOf pd_4 rfl) rfl (by show 2 * 0 + _ ≤ _; exact Nat.le_of_eq rfl) (hb hby at_270) (fun _ _ => ⟨rfl, e2390, (by decide : 11 + 1 ≤ _), (by decide : 37 + 4 ≤ _)⟩)
        dsimp only [Pt.U, Pt.locs, Pt.cells, Pt.slots] at X2392 l2392 y2392 z2392 st2392 hQ2392
        subst l2392 y2392 z2392
        obtain ⟨r2392, rfl, N2392q, K2392, ge_r2392, gq_r2392, o2392_0, o2392_1, o2392_2, o2392_3, o2392_4⟩ := hQ2392
        have N2392 := Fr.app N2390 N2392q
        have x2393 := x2366.keep K2392
        have x2394 := x2367.keep K2392 nin0
        have x2395 := x2368.keep K2392 nin0
        have x2396 := x2369.keep K2392 nin0
        have x2397 := x2370.keep K2392 nin0
        have x2398 := x2371.keep K2392 nin0
        have x2399 := x2372.keep K2392 nin0
        have x2400 := x2373.keep K2392 nin0
        have x2401 := x2374.keep K2392 nin0
        have x2402 := x2375.keep K2392 nin0
        have x2403 := x2376.keep K2392 nin0
        have x2404 := x2377.keep K2392 nin0
        have x2405 := x2378.keep K2392 nin0
        have x2406 := x2379.keep K2392 nin0
        have x2407 := x2380.keep K2392 nin0
        have x2408 := x2381.keep K2392
        have x2409 := x2382.keep K2392 nin0
        have x2410 := x2383.keep K2392 nin0
        have x2411 := x2384.keep K2392
        have x2412 := x2385.keep K2392 nin0
        have x2413 := x2386.keep K2392 nin0
        have x2414 := x2387.keep K2392 nin0
        have x2415 := o2365_0.keep K2392
        have x2416 := o2365_1.keep K2392 nin0
        have x2417 := o2365_2.keep K2392 nin0
        have x2418 := o2365_3.keep K2392 nin0
        have sz2419 : n0 ≤ T2392.heap.size := Nat.le_trans sz2388 K2392.1
        obtain ⟨T2420, X2420, e2420, st2420⟩ := castY X2392 hx hZ hown (own_wk hw 151 rfl) rfl (Ins.self o2392_0) (g := (mkF m 275 (own_loc53 p0 p1 p2 p3 p4 p5 b1840 b1851 b1872 b2301 r2344 r2365) [(.ref r2392)])) rfl rfl (hb hby at_275)
        obtain ⟨cq2421, kq2421, q2421a, q2421b, q2421c⟩ := isOf hZ e2420 x2411
        obtain ⟨_, _, ⟨T2421, L2421, k2421, n2421⟩, -, X2421, ⟨Lc2421, hQ2421, l2421, y2421, z2421⟩, st2421⟩ := X2420.interfaceBack hx (xi := (⟨"java/util/List", "get", "(I)Ljava/lang/Object;"⟩ : MethodName)) (y := (⟨"com/example/rank60/rank60/FusedList$Explanations$DocumentContributions", "get", "(I)Ljava/lang/Object;"⟩ : MethodName)) hown (mvT hZ (own_wk hw 113 rfl)) (mvT hZ (own_wk hw 114 rfl)) (mvT hZ (own_wk hw 115 rfl)) (mvT hZ (own_wk hw 116 rfl)) (mvT hZ (own_wk hw 117 rfl)) (mvT hZ (own_wk hw 118 rfl)) (mvT hZ (own_wk hw 119 rfl)) (mvT hZ (own_wk hw 111 rfl)) (by decide) (backOf (W := 0) (rm15_101 l Z ag hw [] r2344 ((2 : Int32) - (0 : Int32)) b1840 u1_1843 u2_1843 u3_1843 u4_1843 ku1_1843 p0 p2 ku2_1843 p1 p3 ku3_1843 (FP.i2d (p4.toInt8.toInt32)) (FP.i2d ((p4 >>> ((16 : Int32) &&& 31)).toInt8.toInt32)) ku4_1843 (FP.i2d ((p4 >>> ((8 : Int32) &&& 31)).toInt8.toInt32)) (FP.i2d ((p4 >>> ((24 : Int32) &&& 31)).toInt8.toInt32)) T2392.heap n0 sz2419 x2411 x2413 x2414 x2412 x2393 x2403 x2404 x2406 x2405 x2396 x2397 x2398 x2399 (by decide)) hZ (own_wk hw 120 rfl) (own_wk hw 91 rfl) (by decide) (by decide)) q2421a q2421b q2421c (g := (mkF m 283 (own_loc54 p0 p1 p2 p3 p4 p5 b1840 b1851 b1872 b2301 r2344 r2365 r2392) [.int 1, (.ref r2344)])) rfl (by rw [hml]; rfl) (Steps.refl _) (argsL := [(.int (1 : Int32))]) (rest := []) (lenOf pd_4 rfl) rfl (by show 2 * 0 + _ ≤ _; exact Nat.le_of_eq rfl) (hb hby at_283) (fun _ _ => ⟨rfl, e2420, (by decide : 12 + 1 ≤ _), (by decide : 41 + 4 ≤ _)⟩)
        dsimp only [Pt.U, Pt.locs, Pt.cells, Pt.slots] at X2421 l2421 y2421 z2421 st2421 hQ2421
        subst l2421 y2421 z2421
        obtain ⟨r2421, rfl, N2421q, K2421, ge_r2421, gq_r2421, o2421_0, o2421_1, o2421_2, o2421_3, o2421_4⟩ := hQ2421
        have N2421 := Fr.app N2392 N2421q
        have x2422 := x2393.keep K2421
        have x2423 := x2394.keep K2421 nin0
        have x2424 := x2395.keep K2421 nin0
        have x2425 := x2396.keep K2421 nin0
        have x2426 := x2397.keep K2421 nin0
        have x2427 := x2398.keep K2421 nin0
        have x2428 := x2399.keep K2421 nin0
        have x2429 := x2400.keep K2421 nin0
        have x2430 := x2401.keep K2421 nin0
        have x2431 := x2402.keep K2421 nin0
        have x2432 := x2403.keep K2421 nin0
        have x2433 := x2404.keep K2421 nin0
        have x2434 := x2405.keep K2421 nin0
        have x2435 := x2406.keep K2421 nin0
        have x2436 := x2407.keep K2421 nin0
        have x2437 := x2408.keep K2421
        have x2438 := x2409.keep K2421 nin0
        have x2439 := x2410.keep K2421 nin0
        have x2440 := x2411.keep K2421
        have x2441 := x2412.keep K2421 nin0
        have x2442 := x2413.keep K2421 nin0
        have x2443 := x2414.keep K2421 nin0
        have x2444 := x2415.keep K2421
        have x2445 := x2416.keep K2421 nin0
        have x2446 := x2417.keep K2421 nin0
        have x2447 := x2418.keep K2421 nin0
        have x2448 := o2392_0.keep K2421
        have x2449 := o2392_1.keep K2421 nin0
        have x2450 := o2392_2.keep K2421 nin0
        have x2451 := o2392_3.keep K2421 nin0
        have x2452 := o2392_4.keep K2421 nin0
        have sz2453 : n0 ≤ T2421.heap.size := Nat.le_trans sz2419 K2421.1
        obtain ⟨T2454, X2454, e2454, st2454⟩ := castY X2421 hx hZ hown (own_wk hw 151 rfl) rfl (Ins.self o2421_0) (g := (mkF m 288 (own_loc54 p0 p1 p2 p3 p4 p5 b1840 b1851 b1872 b2301 r2344 r2365 r2392) [(.ref r2421)])) rfl rfl (hb hby at_288)
        have cp2455 : ∀ target, own_S p e below T2454 (mkF m 303 (own_loc55 p0 p1 p2 p3 p4 p5 b1840 b1851 b1872 b2301 r2344 r2365 r2392 r2421) [.int 1, (.double (FP.i2d ((p4 >>> ((8 : Int32) &&& 31)).toInt8.toInt32))), (.double (FP.i2d (p4.toInt8.toInt32))), (.int p1), (.int p0), (.ref r2392)]) target → own_S p e below s₁ (mkF m 0 (own_loc7 p0 p1 p2 p3 p4 p5) []) target := by
          intro target kt
          show own_S p e below s₁ (mkF m 0 (own_loc7 p0 p1 p2 p3 p4 p5) []) _
          refine cp2391 _ ?_
          show own_S p e below T2390 (mkF m 270 (own_loc53 p0 p1 p2 p3 p4 p5 b1840 b1851 b1872 b2301 r2344 r2365) [.int 0, (.ref r2344)]) _
          refine st2392.trans ?_
          show own_S p e below T2392 (mkF m 275 (own_loc53 p0 p1 p2 p3 p4 p5 b1840 b1851 b1872 b2301 r2344 r2365) [(.ref r2392)]) _
          refine st2420 _ ?_
          show own_S p e below T2420 (mkF m 278 (own_loc53 p0 p1 p2 p3 p4 p5 b1840 b1851 b1872 b2301 r2344 r2365) [(.ref r2392)]) _
          refine XS.astore X2420.here hx rfl (hb hby at_278) rfl rfl (l' := (own_loc54 p0 p1 p2 p3 p4 p5 b1840 b1851 b1872 b2301 r2344 r2365 r2392)) rfl ?_
          show own_S p e below T2420 (mkF m 280 (own_loc54 p0 p1 p2 p3 p4 p5 b1840 b1851 b1872 b2301 r2344 r2365 r2392) []) _
          refine XS.aload X2420.here hx rfl (hb hby at_280) rfl rfl ?_
          show own_S p e below T2420 (mkF m 282 (own_loc54 p0 p1 p2 p3 p4 p5 b1840 b1851 b1872 b2301 r2344 r2365 r2392) [(.ref r2344)]) _
          refine XS.iconst X2420.here hx rfl (hb hby at_282) ?_
          show own_S p e below T2420 (mkF m 283 (own_loc54 p0 p1 p2 p3 p4 p5 b1840 b1851 b1872 b2301 r2344 r2365 r2392) [.int 1, (.ref r2344)]) _
          refine st2421.trans ?_
          show own_S p e below T2421 (mkF m 288 (own_loc54 p0 p1 p2 p3 p4 p5 b1840 b1851 b1872 b2301 r2344 r2365 r2392) [(.ref r2421)]) _
          refine st2454 _ ?_
          show own_S p e below T2454 (mkF m 291 (own_loc54 p0 p1 p2 p3 p4 p5 b1840 b1851 b1872 b2301 r2344 r2365 r2392) [(.ref r2421)]) _
          refine XS.astore X2454.here hx rfl (hb hby at_291) rfl rfl (l' := (own_loc55 p0 p1 p2 p3 p4 p5 b1840 b1851 b1872 b2301 r2344 r2365 r2392 r2421)) rfl ?_
          show own_S p e below T2454 (mkF m 293 (own_loc55 p0 p1 p2 p3 p4 p5 b1840 b1851 b1872 b2301 r2344 r2365 r2392 r2421) []) _
          refine XS.aload X2454.here hx rfl (hb hby at_293) rfl rfl ?_
          show own_S p e below T2454 (mkF m 295 (own_loc55 p0 p1 p2 p3 p4 p5 b1840 b1851 b1872 b2301 r2344 r2365 r2392 r2421) [(.ref r2392)]) _
          refine XS.iloadN X2454.here hx rfl (hb hby at_295) rfl ?_
          show own_S p e below T2454 (mkF m 296 (own_loc55 p0 p1 p2 p3 p4 p5 b1840 b1851 b1872 b2301 r2344 r2365 r2392 r2421) [(.int p0), (.ref r2392)]) _
          refine XS.iloadN X2454.here hx rfl (hb hby at_296) rfl ?_
          show own_S p e below T2454 (mkF m 297 (own_loc55 p0 p1 p2 p3 p4 p5 b1840 b1851 b1872 b2301 r2344 r2365 r2392 r2421) [(.int p1), (.int p0), (.ref r2392)]) _
          refine XS.dload X2454.here hx rfl (hb hby at_297) rfl ?_
          show own_S p e below T2454 (mkF m 299 (own_loc55 p0 p1 p2 p3 p4 p5 b1840 b1851 b1872 b2301 r2344 r2365 r2392 r2421) [(.double (FP.i2d (p4.toInt8.toInt32))), (.int p1), (.int p0), (.ref r2392)]) _
          refine XS.dload X2454.here hx rfl (hb hby at_299) rfl ?_
          show own_S p e below T2454 (mkF m 301 (own_loc55 p0 p1 p2 p3 p4 p5 b1840 b1851 b1872 b2301 r2344 r2365 r2392 r2421) [(.double (FP.i2d ((p4 >>> ((8 : Int32) &&& 31)).toInt8.toInt32))), (.double (FP.i2d (p4.toInt8.toInt32))), (.int p1), (.int p0), (.ref r2392)]) _
          refine XS.iload X2454.here hx rfl (hb hby at_301) rfl ?_
          exact kt
        obtain ⟨_, _, ⟨T2456, L2456, k2456, n2456⟩, -, X2456, ⟨Lc2456, hQ2456, l2456, y2456, z2456⟩, st2456⟩ := Jvm.LawKit.callS X2454 hx (y := (⟨"com/example/rank60/rank60/ExplanationsAddPinLaw", "matches", "(Lcom/example/rank60/rank60/FusedHit$Contribution;IIDDZ)Z"⟩ : MethodName)) hown (mvT hZ (own_wk hw 153 rfl)) (mvT hZ (own_wk hw 154 rfl)) (mvT hZ (own_wk hw 155 rfl)) (mvT hZ (own_wk hw 156 rfl)) (by decide) (backOf (W := 0) (rm19_1 l Z ag hw [] r2392 p0 p1 (FP.i2d (p4.toInt8.toInt32)) (FP.i2d ((p4 >>> ((8 : Int32) &&& 31)).toInt8.toInt32))  T2421.heap n0 sz2453 x2448 x2449 x2450 x2451 x2452 (own_i2dn _) (own_i2dn _)) hZ (own_wk hw 156 rfl) (own_wk hw 155 rfl) (by decide) (by decide)) (g := (mkF m 303 (own_loc55 p0 p1 p2 p3 p4 p5 b1840 b1851 b1872 b2301 r2344 r2365 r2392 r2421) [.int 1, (.double (FP.i2d ((p4 >>> ((8 : Int32) &&& 31)).toInt8.toInt32))), (.double (FP.i2d (p4.toInt8.toInt32))), (.int p1), (.int p0), (.ref r2392)])) rfl (by rw [hml]; rfl) (argsL := [(.ref r2392), (.int p0), (.int p1), (.double (FP.i2d (p4.toInt8.toInt32))), (.double (FP.i2d ((p4 >>> ((8 : Int32) &&& 31)).toInt8.toInt32))), (.int (1 : Int32))]) (rest := []) (lenOf pd_10 rfl) rfl (by show 2 * 0 + _ ≤ _; exact Nat.le_of_eq rfl) (hb hby at_303) (fun _ _ => ⟨rfl, e2454, (by decide : 13 + 0 ≤ _), (by decide : 45 + 0 ≤ _)⟩)
        dsimp only [Pt.U, Pt.locs, Pt.cells, Pt.slots] at X2456 l2456 y2456 z2456 st2456 hQ2456
        subst l2456 y2456 z2456
        obtain ⟨rfl, N2456q, e2456⟩ := hQ2456
        have N2456 := Fr.app N2421 N2456q
        obtain ⟨_, _, ⟨T2457, L2457, k2457, n2457⟩, -, X2457, ⟨Lc2457, hQ2457, l2457, y2457, z2457⟩, st2457⟩ := Jvm.LawKit.callS X2456 hx (y := (⟨"com/example/rank60/rank60/ExplanationsAddPinLaw", "matches", "(Lcom/example/rank60/rank60/FusedHit$Contribution;IIDDZ)Z"⟩ : MethodName)) hown (mvT hZ (own_wk hw 153 rfl)) (mvT hZ (own_wk hw 154 rfl)) (mvT hZ (own_wk hw 155 rfl)) (mvT hZ (own_wk hw 156 rfl)) (by decide) (backOf (W := 0) (rm19_1 l Z ag hw [] r2421 p2 p3 (FP.i2d ((p4 >>> ((16 : Int32) &&& 31)).toInt8.toInt32)) (FP.i2d ((p4 >>> ((24 : Int32) &&& 31)).toInt8.toInt32))  T2421.heap n0 sz2453 o2421_0 o2421_1 o2421_2 o2421_3 o2421_4 (own_i2dn _) (own_i2dn _)) hZ (own_wk hw 156 rfl) (own_wk hw 155 rfl) (by decide) (by decide)) (g := (mkF m 319 (own_loc55 p0 p1 p2 p3 p4 p5 b1840 b1851 b1872 b2301 r2344 r2365 r2392 r2421) [.int 1, (.double (FP.i2d ((p4 >>> ((24 : Int32) &&& 31)).toInt8.toInt32))), (.double (FP.i2d ((p4 >>> ((16 : Int32) &&& 31)).toInt8.toInt32))), (.int p3), (.int p2), (.ref r2421)])) rfl (by rw [hml]; rfl) (argsL := [(.ref r2421), (.int p2), (.int p3), (.double (FP.i2d ((p4 >>> ((16 : Int32) &&& 31)).toInt8.toInt32))), (.double (FP.i2d ((p4 >>> ((24 : Int32) &&& 31)).toInt8.toInt32))), (.int (1 : Int32))]) (rest := []) (lenOf pd_10 rfl) rfl (by show 2 * 0 + _ ≤ _; exact Nat.le_of_eq rfl) (hb hby at_319) (fun _ _ => ⟨rfl, e2456, (by decide : 13 + 0 ≤ _), (by decide : 45 + 0 ≤ _)⟩)
        dsimp only [Pt.U, Pt.locs, Pt.cells, Pt.slots] at X2457 l2457 y2457 z2457 st2457 hQ2457
        subst l2457 y2457 z2457
        obtain ⟨rfl, N2457q, e2457⟩ := hQ2457
        have N2457 := Fr.app N2456 N2457q
        obtain ⟨fs, hr, hrun, hended, hW, hsame⟩ := X2457.leave (v := some (.int (1 : Int32))) (fun h => by rw [Bd.returns] at h; cases h)
        refine ⟨_, _, pre0 _ ?_, hrun, hended, _, _, rfl, ?_, ⟨_, rfl⟩, hW, hsame.mono (by decide) (by decide)⟩
        · show own_S p e below s₁ (mkF m 0 (own_loc7 p0 p1 p2 p3 p4 p5) []) _
          refine cp2455 _ ?_
          show own_S p e below T2454 (mkF m 303 (own_loc55 p0 p1 p2 p3 p4 p5 b1840 b1851 b1872 b2301 r2344 r2365 r2392 r2421) [.int 1, (.double (FP.i2d ((p4 >>> ((8 : Int32) &&& 31)).toInt8.toInt32))), (.double (FP.i2d (p4.toInt8.toInt32))), (.int p1), (.int p0), (.ref r2392)]) _
          refine st2456 _ ?_
          show own_S p e below T2456 (mkF m 306 (own_loc55 p0 p1 p2 p3 p4 p5 b1840 b1851 b1872 b2301 r2344 r2365 r2392 r2421) [.int 1]) _
          refine XS.ifNo X2456.here hx rfl (hb hby at_306) rfl ((if0 _ _).trans (feq (by decide : ¬ ((1 : Int32) = (0 : Int32)))).1) ?_
          show own_S p e below T2456 (mkF m 309 (own_loc55 p0 p1 p2 p3 p4 p5 b1840 b1851 b1872 b2301 r2344 r2365 r2392 r2421) []) _
          refine XS.aload X2456.here hx rfl (hb hby at_309) rfl rfl ?_
          show own_S p e below T2456 (mkF m 311 (own_loc55 p0 p1 p2 p3 p4 p5 b1840 b1851 b1872 b2301 r2344 r2365 r2392 r2421) [(.ref r2421)]) _
          refine XS.iloadN X2456.here hx rfl (hb hby at_311) rfl ?_
          show own_S p e below T2456 (mkF m 312 (own_loc55 p0 p1 p2 p3 p4 p5 b1840 b1851 b1872 b2301 r2344 r2365 r2392 r2421) [(.int p2), (.ref r2421)]) _
          refine XS.iloadN X2456.here hx rfl (hb hby at_312) rfl ?_
          show own_S p e below T2456 (mkF m 313 (own_loc55 p0 p1 p2 p3 p4 p5 b1840 b1851 b1872 b2301 r2344 r2365 r2392 r2421) [(.int p3), (.int p2), (.ref r2421)]) _
          refine XS.dload X2456.here hx rfl (hb hby at_313) rfl ?_
          show own_S p e below T2456 (mkF m 315 (own_loc55 p0 p1 p2 p3 p4 p5 b1840 b1851 b1872 b2301 r2344 r2365 r2392 r2421) [(.double (FP.i2d ((p4 >>> ((16 : Int32) &&& 31)).toInt8.toInt32))), (.int p3), (.int p2), (.ref r2421)]) _
          refine XS.dload X2456.here hx rfl (hb hby at_315) rfl ?_
          show own_S p e below T2456 (mkF m 317 (own_loc55 p0 p1 p2 p3 p4 p5 b1840 b1851 b1872 b2301 r2344 r2365 r2392 r2421) [(.double (FP.i2d ((p4 >>> ((24 : Int32) &&& 31)).toInt8.toInt32))), (.double (FP.i2d ((p4 >>> ((16 : Int32) &&& 31)).toInt8.toInt32))), (.int p3), (.int p2), (.ref r2421)]) _
          refine XS.iload X2456.here hx rfl (hb hby at_317) rfl ?_
          show own_S p e below T2456 (mkF m 319 (own_loc55 p0 p1 p2 p3 p4 p5 b1840 b1851 b1872 b2301 r2344 r2365 r2392 r2421) [.int 1, (.double (FP.i2d ((p4 >>> ((24 : Int32) &&& 31)).toInt8.toInt32))), (.double (FP.i2d ((p4 >>> ((16 : Int32) &&& 31)).toInt8.toInt32))), (.int p3), (.int p2), (.ref r2421)]) _
          refine st2457 _ ?_
          show own_S p e below T2457 (mkF m 322 (own_loc55 p0 p1 p2 p3 p4 p5 b1840 b1851 b1872 b2301 r2344 r2365 r2392 r2421) [.int 1]) _
          refine XS.ifNo X2457.here hx rfl (hb hby at_322) rfl ((if0 _ _).trans (feq (by decide : ¬ ((1 : Int32) = (0 : Int32)))).1) ?_
          show own_S p e below T2457 (mkF m 325 (own_loc55 p0 p1 p2 p3 p4 p5 b1840 b1851 b1872 b2301 r2344 r2365 r2392 r2421) []) _
          refine XS.iconst X2457.here hx rfl (hb hby at_325) ?_
          show own_S p e below T2457 (mkF m 326 (own_loc55 p0 p1 p2 p3 p4 p5 b1840 b1851 b1872 b2301 r2344 r2365 r2392 r2421) [.int 1]) _
          refine XS.goto X2457.here hx rfl (pc0 := 326) (pc' := 330) rfl (hb hby at_326) (by decide) (by decide) ?_
          show own_S p e below T2457 (mkF m 330 (own_loc55 p0 p1 p2 p3 p4 p5 b1840 b1851 b1872 b2301 r2344 r2365 r2392 r2421) [.int 1]) _
          exact retN X2457 hx (t := .boolean) Bd.returns (by simp) (hb hby at_330) hr
        · exact ⟨rfl, N2457⟩
set_option maxRecDepth 65536 in
set_option maxHeartbeats 40000000 in
theorem comes_1 {Post : Tables → Env → Array Value → State → Outcome → State → Prop} (hpost : ∀ tb e args s v u, (limb_1_1.after args s (.returned v) u = true ∧ limb_1_2.after args s (.returned v) u = true ∧ True) → FrameEnd s (.returned v) u (Jvm.fieldLocs frame_1_writes args s ++ Jvm.arrayLocs frame_1_arrays args s ++ Jvm.staticLocs frame_1_statics s) 40 192 → Post tb e args s (.returned v) u) :
    ArmFor flags0 classFile x code maxLocals ret World_1 tables_1 room_1 Calls_1 rest_1 Pre_1 Post := by
  intro l hfl _ _ p e ha hc hk s m args below hf hA hF happ hP
  obtain ⟨hcalls, hrest, hpre⟩ := hP
  obtain ⟨-, -, -, hnamed, -, -, -, hat⟩ := (Spec.applies_iff hf).mp happ
  obtain ⟨hg, hn⟩ := and_e (Cond.before_iff.mp (show (Jvm.Cond.and given_1 narrow_1).before args s = true from hpre))
  obtain ⟨g2458, g2459⟩ := and_e hg
  obtain ⟨g2460, g2461⟩ := and_e g2459
  obtain ⟨g2462, g2463⟩ := and_e g2461
  obtain ⟨g2464, g2465⟩ := and_e g2463
  obtain ⟨g2466, g2467⟩ := and_e g2465
  obtain ⟨g2468, g2469⟩ := and_e g2467
  obtain ⟨w0, w1, w2, w3, w4, w5, rfl⟩ : ∃ w0 w1 w2 w3 w4 w5 : Value, args = #[w0, w1, w2, w3, w4, w5] := by
    have hs : args.size = 6 := by simpa [Cond.value, given_1] using g2458
    obtain ⟨L⟩ := args
    match L, hs with
    | [w0, w1, w2, w3, w4, w5], _ => exact ⟨w0, w1, w2, w3, w4, w5, rfl⟩
  have hw := fun d (hd : d ∈ tables_1) => atoms_spec (ws := Jvm.Cond.code x code maxLocals ret :: tables_1) hat d (List.mem_cons_of_mem _ hd)
  have hfit : Fit s := fun {y c} hc i hi => by
    obtain ⟨ha, rfl⟩ := Array.getElem?_eq_some_iff.mp hc
    have q := List.all_eq_true.mp ((Array.all_eq_true_iff_forall_mem.mp hF) _ (Array.getElem_mem ha)) i (List.mem_range.mpr hi)
    simpa [Array.getElem?_eq_getElem hi] using q
  obtain ⟨i0, ei0⟩ := is_v g2460
  obtain rfl : w0 = (.int i0) := Option.some.inj ei0
  obtain ⟨i1, ei1⟩ := is_v g2462
  obtain rfl : w1 = (.int i1) := Option.some.inj ei1
  obtain ⟨i2, ei2⟩ := is_v g2464
  obtain rfl : w2 = (.int i2) := Option.some.inj ei2
  obtain ⟨i3, ei3⟩ := is_v g2466
  obtain rfl : w3 = (.int i3) := Option.some.inj ei3
  obtain ⟨i4, ei4⟩ := is_v g2468
  obtain rfl : w4 = (.int i4) := Option.some.inj ei4
  obtain ⟨i5, ei5⟩ := is_v g2469
  obtain rfl : w5 = (.int i5) := Option.some.inj ei5
  obtain ⟨n, o, h1, h2, h3, _, L, rfl, ⟨rfl, N⟩, hq⟩ := rm0 l s _ hw tables_1 i0 i1 i2 i3 i4 i5 s.heap s.heap.size (Nat.le_refl _)  p e ha hc hk s m _ below hf ((Spec.applies_iff_loose hf).mp happ).1 ⟨rfl, State.Warmed39.refl s, rfl⟩ trivial
  refine ⟨n, _, h1, h2, h3, hpost _ _ _ _ _ _ ⟨Cond.after_iff.mpr rfl, Cond.after_iff.mpr (eq_i res_at (Term.int_eval (1)) rfl), trivial⟩ ⟨hq.1, hq.2.1, (hq.2.2.sift fun y hy => Or.inr (N y hy)).mono (by decide) (by decide)⟩⟩
theorem main_1_1 : Claimed_1_1 := comes_1 fun _ _ _ _ _ _ h hF => ⟨h.1, hF⟩
theorem main_1_2 : Claimed_1_2 := comes_1 fun _ _ _ _ _ _ h hF => ⟨h.2.1, hF⟩
end Jvm.Pilot.@@N@@
namespace Jvm.Pilot.@@N@@
open Jvm Jvm.ClassFile Sem Op Lib Jvm.Free Jvm.Stand Jvm.Pilot.@@N@@.Jvm.D
/-! MADE BY PROGRAM (witnessworld.py) out of the Statement's table words and the real class files: 30 classes; the members and pool entries that the words name. The judged class is class 1, her method 2. -/
namespace start1
open Jvm.ClassFile
def u (s : String) : CpInfo := .utf8 (stringToUtf16 s)
/-- a pool by its gaps: so many unusable entries, then the entry; so many at the end -/
def gap : Nat → List CpInfo → List CpInfo
  | 0, r => r
  | n + 1, r => .unusable :: gap n r
def poolList (es : List (Nat × CpInfo)) (last : Nat) : List CpInfo := es.foldr (fun e r => gap e.1 (e.2 :: r)) (gap last [])
def pool (es : List (Nat × CpInfo)) (last : Nat) : Array CpInfo := ⟨poolList es last⟩
def fileOf (pool : Array CpInfo) (this : Nat) (attrs : Array Attribute := #[]) (ms : Array MethodInfo := #[]) (fl : Nat := 33) (sup : Nat := 0) (ifs : Array Nat := #[]) (fds : Array FieldInfo := #[]) : ClassFile where
  minorVersion := 0
  majorVersion := 65
  constantPool := pool
  accessFlags := fl
  thisClass := this
  superClass := sup
  interfaces := ifs
  fields := fds
  methods := ms
  attributes := attrs
def plain (name : String) (sup : Option ClassId) : Class where
  name := name
  kind := .ordinary
  loader := none
  accessFlags := 33
  super := sup
  interfaces := #[]
  cf := none
  fields := #[]
  methods := #[]
  instanceTypes := #[]
  staticTypes := #[]
  resolved := #[]
  callSites := []
  init := .initialized
  statics := none
  mirror := none

def pool0 : Array CpInfo := pool [(5, u "<init>"), (0, u "()V"), (1, .class_ 10), (1, u "java/lang/Object")] 113

def k0c0 : Code := { maxStack := 0, maxLocals := 1, code := object_method_1_code, exceptionTable := #[], attributes := #[] }
def k0m0 : Method := { name := "<init>", desc := "()V", sig := { parameters := [], returnType := none }, accessFlags := 1, code := some k0c0 }
/-- java/lang/Object -/
def k0 : Class := { plain "java/lang/Object" none with
  accessFlags := 33
  interfaces := #[]
  cf := some (fileOf pool0 8 #[] #[{ accessFlags := 1, nameIndex := 5, descriptorIndex := 6, attributes := #[] }] 33 0 #[] #[])
  fields := #[]
  methods := #[k0m0]
  instanceTypes := #[]
  staticTypes := #[]
  resolved := Array.replicate 124 none
  statics := none }

def pool1 : Array CpInfo := pool [(2, .class_ 4), (1, u "java/lang/Object"), (0, u "<init>"), (0, u "()V"), (0, .methodref 8 9), (0, .class_ 10), (0, .nameAndType 11 12), (0, u "com/example/rank60/rank60/FusedHit$Contribution"), (0, u "score"), (0, u "()D"), (0, .methodref 8 14), (0, .nameAndType 15 16), (0, u "input"), (0, u "()I"), (0, .methodref 8 18), (0, .nameAndType 19 16), (0, u "rank"), (0, .methodref 8 21), (0, .nameAndType 22 12), (0, u "value"), (0, .class_ 24), (0, u "com/example/rank60/rank60/FusedList$Explanations"), (0, .methodref 23 26), (0, .nameAndType 5 27), (0, u "(IIZ)V"), (0, .class_ 29), (0, u "java/lang/String"), (0, .methodref 23 31), (0, .nameAndType 32 6), (0, u "endDocument"), (0, .methodref 23 34), (0, .nameAndType 35 36), (0, u "add"), (0, u "(IIDD)V"), (0, .class_ 38), (0, u "com/example/rank60/rank60/FusedList"), (0, .methodref 37 40), (0, .nameAndType 5 41), (0, u "([Ljava/lang/String;[DILcom/example/rank60/rank60/FusedList$Explanations;)V"), (0, .methodref 37 43), (0, .nameAndType 44 45), (0, u "contributions"), (0, u "(I)Ljava/util/List;"), (0, .interfaceMethodref 47 48), (0, .class_ 49), (0, .nameAndType 50 16), (0, u "java/util/List"), (0, u "size"), (0, .interfaceMethodref 47 52), (0, .nameAndType 53 54), (0, u "get"), (0, u "(I)Ljava/lang/Object;"), (0, .methodref 56 57), (0, .class_ 58), (0, .nameAndType 59 60), (0, u "com/example/rank60/rank60/ExplanationsAddPinLaw"), (0, u "matches"), (0, u "(Lcom/example/rank60/rank60/FusedHit$Contribution;IIDDZ)Z"), (3, u "law"), (0, u "(IIIIII)Z")] 11

def k1m0 : Method := { name := "<init>", desc := "()V", sig := { parameters := [], returnType := none }, accessFlags := 2, code := none }
def k1c1 : Code := { maxStack := 4, maxLocals := 9, code := method_2_code, exceptionTable := #[], attributes := #[] }
def k1m1 : Method := { name := "matches", desc := "(Lcom/example/rank60/rank60/FusedHit$Contribution;IIDDZ)Z", sig := { parameters := [(.object "com/example/rank60/rank60/FusedHit$Contribution"), .int, .int, .double, .double, .boolean], returnType := some .boolean }, accessFlags := 10, code := some k1c1 }
def k1c2 : Code := { maxStack := 8, maxLocals := 24, code := code, exceptionTable := #[], attributes := #[] }
def k1m2 : Method := { name := "law", desc := "(IIIIII)Z", sig := { parameters := [.int, .int, .int, .int, .int, .int], returnType := some .boolean }, accessFlags := 9, code := some k1c2 }
/-- com/example/rank60/rank60/ExplanationsAddPinLaw -/
def k1 : Class := { plain "com/example/rank60/rank60/ExplanationsAddPinLaw" (some 0) with
  accessFlags := 49
  interfaces := #[]
  cf := some (fileOf pool1 56 #[] #[{ accessFlags := 2, nameIndex := 5, descriptorIndex := 6, attributes := #[] }, { accessFlags := 10, nameIndex := 59, descriptorIndex := 60, attributes := #[] }, { accessFlags := 9, nameIndex := 64, descriptorIndex := 65, attributes := #[] }] 49 2 #[] #[])
  fields := #[]
  methods := #[k1m0, k1m1, k1m2]
  instanceTypes := #[]
  staticTypes := #[]
  resolved := Array.replicate 77 none
  statics := none }

def pool2 : Array CpInfo := pool [(1, .methodref 2 3), (0, .class_ 4), (0, .nameAndType 5 6), (0, u "java/lang/Object"), (0, u "<init>"), (0, u "()V"), (0, .fieldref 8 9), (0, .class_ 10), (0, .nameAndType 11 12), (0, u "com/example/rank60/rank60/FusedList$Explanations"), (0, u "starts"), (0, u "[I"), (0, .fieldref 8 14), (0, .nameAndType 15 12), (0, u "inputs"), (0, .fieldref 8 17), (0, .nameAndType 18 12), (0, u "ranks"), (0, .fieldref 8 20), (0, .nameAndType 21 22), (0, u "scores"), (0, u "[D"), (0, .fieldref 8 24), (0, .nameAndType 25 22), (0, u "values"), (0, .fieldref 8 27), (0, .nameAndType 28 29), (0, u "count"), (0, u "I"), (0, .fieldref 8 31), (0, .nameAndType 32 29), (0, u "documents"), (0, .class_ 34), (0, u "com/example/rank60/rank60/FusedList$Explanations$DocumentContributions"), (0, .methodref 33 36), (0, .nameAndType 5 37), (0, u "(Lcom/example/rank60/rank60/FusedList$Explanations;II)V"), (0, u "(IIZ)V"), (4, u "add"), (0, u "(IIDD)V"), (0, u "endDocument"), (0, u "of"), (0, u "(I)Ljava/util/List;"), (5, .class_ 54), (0, u "com/example/rank60/rank60/FusedList")] 8

def k2c0 : Code := { maxStack := 3, maxLocals := 4, code := prog_10_method_1_code, exceptionTable := #[], attributes := #[] }
def k2m0 : Method := { name := "<init>", desc := "(IIZ)V", sig := { parameters := [.int, .int, .boolean], returnType := none }, accessFlags := 0, code := some k2c0 }
def k2c1 : Code := { maxStack := 4, maxLocals := 7, code := prog_10_method_2_code, exceptionTable := #[], attributes := #[] }
def k2m1 : Method := { name := "add", desc := "(IIDD)V", sig := { parameters := [.int, .int, .double, .double], returnType := none }, accessFlags := 0, code := some k2c1 }
def k2c2 : Code := { maxStack := 3, maxLocals := 1, code := prog_10_method_3_code, exceptionTable := #[], attributes := #[] }
def k2m2 : Method := { name := "endDocument", desc := "()V", sig := { parameters := [], returnType := none }, accessFlags := 0, code := some k2c2 }
def k2c3 : Code := { maxStack := 5, maxLocals := 4, code := prog_10_method_4_code, exceptionTable := #[], attributes := #[] }
def k2m3 : Method := { name := "of", desc := "(I)Ljava/util/List;", sig := { parameters := [.int], returnType := some (.object "java/util/List") }, accessFlags := 2, code := some k2c3 }
/-- com/example/rank60/rank60/FusedList$Explanations -/
def k2 : Class := { plain "com/example/rank60/rank60/FusedList$Explanations" (some 0) with
  accessFlags := 48
  interfaces := #[]
  cf := some (fileOf pool2 8 #[.nestHost 53] #[{ accessFlags := 0, nameIndex := 5, descriptorIndex := 38, attributes := #[] }, { accessFlags := 0, nameIndex := 43, descriptorIndex := 44, attributes := #[] }, { accessFlags := 0, nameIndex := 45, descriptorIndex := 6, attributes := #[] }, { accessFlags := 2, nameIndex := 46, descriptorIndex := 47, attributes := #[] }] 48 2 #[] #[{ accessFlags := 18, nameIndex := 11, descriptorIndex := 12, attributes := #[] }, { accessFlags := 18, nameIndex := 15, descriptorIndex := 12, attributes := #[] }, { accessFlags := 18, nameIndex := 18, descriptorIndex := 12, attributes := #[] }, { accessFlags := 18, nameIndex := 21, descriptorIndex := 22, attributes := #[] }, { accessFlags := 18, nameIndex := 25, descriptorIndex := 22, attributes := #[] }, { accessFlags := 2, nameIndex := 32, descriptorIndex := 29, attributes := #[] }, { accessFlags := 2, nameIndex := 28, descriptorIndex := 29, attributes := #[] }])
  fields := #[{ name := "starts", type := (.array .int), accessFlags := 18, slot := 0, constantValue := 0 }, { name := "inputs", type := (.array .int), accessFlags := 18, slot := 1, constantValue := 0 }, { name := "ranks", type := (.array .int), accessFlags := 18, slot := 2, constantValue := 0 }, { name := "scores", type := (.array .double), accessFlags := 18, slot := 3, constantValue := 0 }, { name := "values", type := (.array .double), accessFlags := 18, slot := 4, constantValue := 0 }, { name := "documents", type := .int, accessFlags := 2, slot := 5, constantValue := 0 }, { name := "count", type := .int, accessFlags := 2, slot := 6, constantValue := 0 }]
  methods := #[k2m0, k2m1, k2m2, k2m3]
  instanceTypes := #[(.array .int), (.array .int), (.array .int), (.array .double), (.array .double), .int, .int]
  staticTypes := #[]
  resolved := Array.replicate 63 none
  statics := none }

def pool3 : Array CpInfo := pool [(1, .class_ 2), (0, u "java/io/Serializable"), (0, .class_ 4), (0, u "java/lang/Object")] 2

/-- java/io/Serializable -/
def k3 : Class := { plain "java/io/Serializable" (some 0) with
  accessFlags := 1537
  interfaces := #[]
  cf := some (fileOf pool3 1 #[] #[] 1537 3 #[] #[])
  fields := #[]
  methods := #[]
  instanceTypes := #[]
  staticTypes := #[]
  resolved := Array.replicate 7 none
  statics := none }

def pool4 : Array CpInfo := pool [(1, .class_ 2), (0, u "java/lang/Comparable"), (0, .class_ 4), (0, u "java/lang/Object")] 7

/-- java/lang/Comparable -/
def k4 : Class := { plain "java/lang/Comparable" (some 0) with
  accessFlags := 1537
  interfaces := #[]
  cf := some (fileOf pool4 1 #[] #[] 1537 3 #[] #[])
  fields := #[]
  methods := #[]
  instanceTypes := #[]
  staticTypes := #[]
  resolved := Array.replicate 12 none
  statics := none }

def pool5 : Array CpInfo := pool [(2, .class_ 4), (1, u "java/lang/CharSequence"), (42, .class_ 48), (0, u "java/lang/CharSequence$1CodePointIterator"), (10, .class_ 60), (0, u "java/lang/CharSequence$1CharIterator"), (5, .class_ 67), (0, u "java/lang/Object")] 63

/-- java/lang/CharSequence -/
def k5 : Class := { plain "java/lang/CharSequence" (some 0) with
  accessFlags := 1537
  interfaces := #[]
  cf := some (fileOf pool5 2 #[.nestMembers #[47, 59]] #[] 1537 66 #[] #[])
  fields := #[]
  methods := #[]
  instanceTypes := #[]
  staticTypes := #[]
  resolved := Array.replicate 131 none
  statics := none }

def pool6 : Array CpInfo := pool [(1, .class_ 2), (0, u "java/lang/constant/Constable"), (0, .class_ 4), (0, u "java/lang/Object")] 6

/-- java/lang/constant/Constable -/
def k6 : Class := { plain "java/lang/constant/Constable" (some 0) with
  accessFlags := 1537
  interfaces := #[]
  cf := some (fileOf pool6 1 #[] #[] 1537 3 #[] #[])
  fields := #[]
  methods := #[]
  instanceTypes := #[]
  staticTypes := #[]
  resolved := Array.replicate 11 none
  statics := none }

def pool7 : Array CpInfo := pool [(1, .class_ 2), (0, u "java/lang/constant/ConstantDesc"), (0, .class_ 4), (0, u "java/lang/Object")] 32

/-- java/lang/constant/ConstantDesc -/
def k7 : Class := { plain "java/lang/constant/ConstantDesc" (some 0) with
  accessFlags := 1537
  interfaces := #[]
  cf := some (fileOf pool7 1 #[] #[] 1537 3 #[] #[])
  fields := #[]
  methods := #[]
  instanceTypes := #[]
  staticTypes := #[]
  resolved := Array.replicate 37 none
  statics := none }

def pool8 : Array CpInfo := pool [(2, .class_ 4), (1, u "java/lang/Object"), (0, u "<init>"), (0, u "()V"), (3, .class_ 12), (1, u "java/lang/String"), (0, u "value"), (0, u "[B"), (2, u "coder"), (0, u "B"), (2, u "hash"), (0, u "I"), (2, u "hashIsZero"), (0, u "Z"), (13, u "COMPACT_STRINGS"), (534, .class_ 576), (0, u "java/lang/CharSequence"), (22, u "CASE_INSENSITIVE_ORDER"), (0, u "Ljava/util/Comparator;"), (500, u "serialPersistentFields"), (0, u "[Ljava/io/ObjectStreamField;"), (0, .class_ 1104), (0, u "java/lang/String$CaseInsensitiveComparator"), (1, .class_ 1107), (0, u "java/io/Serializable"), (0, .class_ 1109), (0, u "java/lang/Comparable"), (0, .class_ 1111), (0, u "java/lang/constant/Constable"), (0, .class_ 1113), (0, u "java/lang/constant/ConstantDesc"), (2, u "serialVersionUID"), (0, u "J"), (3, u "REPL"), (0, u "C"), (2, u "LATIN1"), (1, u "UTF16")] 323

def k8m0 : Method := { name := "<init>", desc := "()V", sig := { parameters := [], returnType := none }, accessFlags := 1, code := none }
/-- java/lang/String -/
def k8 : Class := { plain "java/lang/String" (some 0) with
  accessFlags := 49
  interfaces := #[3, 4, 5, 6, 7]
  cf := some (fileOf pool8 10 #[.nestMembers #[1103]] #[{ accessFlags := 1, nameIndex := 5, descriptorIndex := 6, attributes := #[] }] 49 2 #[1106, 1108, 575, 1110, 1112] #[{ accessFlags := 18, nameIndex := 13, descriptorIndex := 14, attributes := #[] }, { accessFlags := 18, nameIndex := 17, descriptorIndex := 18, attributes := #[] }, { accessFlags := 2, nameIndex := 21, descriptorIndex := 22, attributes := #[] }, { accessFlags := 2, nameIndex := 25, descriptorIndex := 26, attributes := #[] }, { accessFlags := 26, nameIndex := 1116, descriptorIndex := 1117, attributes := #[] }, { accessFlags := 24, nameIndex := 40, descriptorIndex := 26, attributes := #[] }, { accessFlags := 26, nameIndex := 1101, descriptorIndex := 1102, attributes := #[] }, { accessFlags := 26, nameIndex := 1121, descriptorIndex := 1122, attributes := #[] }, { accessFlags := 25, nameIndex := 599, descriptorIndex := 600, attributes := #[] }, { accessFlags := 24, nameIndex := 1125, descriptorIndex := 18, attributes := #[] }, { accessFlags := 24, nameIndex := 1127, descriptorIndex := 18, attributes := #[] }])
  fields := #[{ name := "value", type := (.array .byte), accessFlags := 18, slot := 0, constantValue := 0 }, { name := "coder", type := .byte, accessFlags := 18, slot := 1, constantValue := 0 }, { name := "hash", type := .int, accessFlags := 2, slot := 2, constantValue := 0 }, { name := "hashIsZero", type := .boolean, accessFlags := 2, slot := 3, constantValue := 0 }, { name := "serialVersionUID", type := .long, accessFlags := 26, slot := 0, constantValue := 0 }, { name := "COMPACT_STRINGS", type := .boolean, accessFlags := 24, slot := 1, constantValue := 0 }, { name := "serialPersistentFields", type := (.array (.object "java/io/ObjectStreamField")), accessFlags := 26, slot := 2, constantValue := 0 }, { name := "REPL", type := .char, accessFlags := 26, slot := 3, constantValue := 0 }, { name := "CASE_INSENSITIVE_ORDER", type := (.object "java/util/Comparator"), accessFlags := 25, slot := 4, constantValue := 0 }, { name := "LATIN1", type := .byte, accessFlags := 24, slot := 5, constantValue := 0 }, { name := "UTF16", type := .byte, accessFlags := 24, slot := 6, constantValue := 0 }]
  methods := #[k8m0]
  instanceTypes := #[(.array .byte), .byte, .int, .boolean]
  staticTypes := #[.long, .boolean, (.array (.object "java/io/ObjectStreamField")), .char, (.object "java/util/Comparator"), .byte, .byte]
  resolved := Array.replicate 1451 none
  statics := none }

def pool9 : Array CpInfo := pool [(8, .class_ 10), (1, u "java/lang/Iterable"), (24, .class_ 36), (0, u "java/lang/Object")] 25

/-- java/lang/Iterable -/
def k9 : Class := { plain "java/lang/Iterable" (some 0) with
  accessFlags := 1537
  interfaces := #[]
  cf := some (fileOf pool9 8 #[] #[] 1537 35 #[] #[])
  fields := #[]
  methods := #[]
  instanceTypes := #[]
  staticTypes := #[]
  resolved := Array.replicate 62 none
  statics := none }

def pool10 : Array CpInfo := pool [(10, .class_ 12), (1, u "java/util/Collection"), (47, .class_ 61), (0, u "java/lang/Object"), (0, .class_ 63), (0, u "java/lang/Iterable")] 51

/-- java/util/Collection -/
def k10 : Class := { plain "java/util/Collection" (some 0) with
  accessFlags := 1537
  interfaces := #[9]
  cf := some (fileOf pool10 10 #[] #[] 1537 60 #[62] #[])
  fields := #[]
  methods := #[]
  instanceTypes := #[]
  staticTypes := #[]
  resolved := Array.replicate 115 none
  statics := none }

def pool11 : Array CpInfo := pool [(1, .methodref 2 3), (0, .class_ 4), (0, .nameAndType 5 6), (0, u "java/lang/Object"), (0, u "<init>"), (0, u "()V"), (1, .class_ 10), (1, u "java/util/AbstractCollection"), (66, .class_ 78), (0, u "java/util/Collection")] 81

def k11c0 : Code := { maxStack := 1, maxLocals := 1, code := jdk_22_method_1_code, exceptionTable := #[], attributes := #[] }
def k11m0 : Method := { name := "<init>", desc := "()V", sig := { parameters := [], returnType := none }, accessFlags := 4, code := some k11c0 }
/-- java/util/AbstractCollection -/
def k11 : Class := { plain "java/util/AbstractCollection" (some 0) with
  accessFlags := 1057
  interfaces := #[10]
  cf := some (fileOf pool11 8 #[] #[{ accessFlags := 4, nameIndex := 5, descriptorIndex := 6, attributes := #[] }] 1057 2 #[77] #[])
  fields := #[]
  methods := #[k11m0]
  instanceTypes := #[]
  staticTypes := #[]
  resolved := Array.replicate 160 none
  statics := none }

def pool12 : Array CpInfo := pool [(8, .class_ 10), (1, u "java/util/SequencedCollection"), (15, .class_ 27), (0, u "java/lang/Object"), (0, .class_ 29), (0, u "java/util/Collection")] 27

/-- java/util/SequencedCollection -/
def k12 : Class := { plain "java/util/SequencedCollection" (some 0) with
  accessFlags := 1537
  interfaces := #[10]
  cf := some (fileOf pool12 8 #[] #[] 1537 26 #[28] #[])
  fields := #[]
  methods := #[]
  instanceTypes := #[]
  staticTypes := #[]
  resolved := Array.replicate 57 none
  statics := none }

def pool13 : Array CpInfo := pool [(8, .class_ 10), (1, u "java/util/List"), (64, u "get"), (0, u "(I)Ljava/lang/Object;"), (2, u "size"), (0, u "()I"), (22, .class_ 104), (0, u "java/lang/Object"), (15, .class_ 121), (0, u "java/util/SequencedCollection")] 129

def k13m0 : Method := { name := "size", desc := "()I", sig := { parameters := [], returnType := some .int }, accessFlags := 1025, code := none }
def k13m1 : Method := { name := "get", desc := "(I)Ljava/lang/Object;", sig := { parameters := [.int], returnType := some (.object "java/lang/Object") }, accessFlags := 1025, code := none }
/-- java/util/List -/
def k13 : Class := { plain "java/util/List" (some 0) with
  accessFlags := 1537
  interfaces := #[12]
  cf := some (fileOf pool13 8 #[] #[{ accessFlags := 1025, nameIndex := 79, descriptorIndex := 80, attributes := #[] }, { accessFlags := 1025, nameIndex := 75, descriptorIndex := 76, attributes := #[] }] 1537 103 #[120] #[])
  fields := #[]
  methods := #[k13m0, k13m1]
  instanceTypes := #[]
  staticTypes := #[]
  resolved := Array.replicate 251 none
  statics := none }

def pool14 : Array CpInfo := pool [(1, .methodref 2 3), (0, .class_ 4), (0, .nameAndType 5 6), (0, u "java/util/AbstractCollection"), (0, u "<init>"), (0, u "()V"), (0, .fieldref 8 9), (0, .class_ 10), (0, .nameAndType 11 12), (0, u "java/util/AbstractList"), (0, u "modCount"), (0, u "I"), (64, .class_ 78), (0, u "java/util/AbstractList$Itr"), (3, .class_ 83), (0, u "java/util/AbstractList$ListItr"), (9, .class_ 94), (0, u "java/util/AbstractList$RandomAccessSubList"), (3, .class_ 99), (0, u "java/util/AbstractList$SubList"), (33, .class_ 134), (0, u "java/util/List"), (73, .class_ 209), (0, u "java/util/AbstractList$SubList$1"), (0, .class_ 211), (0, u "java/util/AbstractList$RandomAccessSpliterator")] 6

def k14c0 : Code := { maxStack := 2, maxLocals := 1, code := jdk_39_method_1_code, exceptionTable := #[], attributes := #[] }
def k14m0 : Method := { name := "<init>", desc := "()V", sig := { parameters := [], returnType := none }, accessFlags := 4, code := some k14c0 }
/-- java/util/AbstractList -/
def k14 : Class := { plain "java/util/AbstractList" (some 11) with
  accessFlags := 1057
  interfaces := #[13]
  cf := some (fileOf pool14 8 #[.nestMembers #[93, 98, 208, 210, 82, 77]] #[{ accessFlags := 4, nameIndex := 5, descriptorIndex := 6, attributes := #[] }] 1057 2 #[133] #[{ accessFlags := 132, nameIndex := 11, descriptorIndex := 12, attributes := #[] }])
  fields := #[{ name := "modCount", type := .int, accessFlags := 132, slot := 0, constantValue := 0 }]
  methods := #[k14m0]
  instanceTypes := #[.int]
  staticTypes := #[]
  resolved := Array.replicate 218 none
  statics := none }

def pool15 : Array CpInfo := pool [(1, .class_ 2), (0, u "java/util/RandomAccess"), (0, .class_ 4), (0, u "java/lang/Object")] 2

/-- java/util/RandomAccess -/
def k15 : Class := { plain "java/util/RandomAccess" (some 0) with
  accessFlags := 1537
  interfaces := #[]
  cf := some (fileOf pool15 1 #[] #[] 1537 3 #[] #[])
  fields := #[]
  methods := #[]
  instanceTypes := #[]
  staticTypes := #[]
  resolved := Array.replicate 7 none
  statics := none }

def pool16 : Array CpInfo := pool [(1, .methodref 2 3), (0, .class_ 4), (0, .nameAndType 5 6), (0, u "com/example/rank60/rank60/FusedList"), (0, u "<init>"), (0, u "([Ljava/lang/String;[ILcom/example/rank60/rank60/DocumentNumbering;[DILcom/example/rank60/rank60/FusedList$Explanations;)V"), (0, .methodref 8 9), (0, .class_ 10), (0, .nameAndType 5 11), (0, u "java/util/AbstractList"), (0, u "()V"), (0, .fieldref 2 13), (0, .nameAndType 14 15), (0, u "ids"), (0, u "[Ljava/lang/String;"), (0, .fieldref 2 17), (0, .nameAndType 18 19), (0, u "documents"), (0, u "[I"), (0, .fieldref 2 21), (0, .nameAndType 22 23), (0, u "numbering"), (0, u "Lcom/example/rank60/rank60/DocumentNumbering;"), (0, .fieldref 2 25), (0, .nameAndType 26 27), (0, u "scores"), (0, u "[D"), (0, .fieldref 2 29), (0, .nameAndType 30 31), (0, u "firstRank"), (0, u "I"), (0, .fieldref 2 33), (0, .nameAndType 34 35), (0, u "explanations"), (0, u "Lcom/example/rank60/rank60/FusedList$Explanations;"), (16, u "contributions"), (0, u "(I)Ljava/util/List;"), (13, .methodref 68 69), (0, .class_ 70), (0, .nameAndType 71 72), (0, u "java/util/Objects"), (0, u "checkIndex"), (0, u "(II)I"), (4, u "of"), (1, .methodref 80 81), (0, .class_ 82), (0, .nameAndType 77 53), (0, u "com/example/rank60/rank60/FusedList$Explanations"), (13, .class_ 97), (0, u "java/util/RandomAccess"), (0, u "([Ljava/lang/String;[DILcom/example/rank60/rank60/FusedList$Explanations;)V"), (20, .class_ 120), (0, u "com/example/rank60/rank60/FusedList$Explanations$DocumentContributions")] 6

def k16c0 : Code := { maxStack := 7, maxLocals := 5, code := prog_9_method_1_code, exceptionTable := #[], attributes := #[] }
def k16m0 : Method := { name := "<init>", desc := "([Ljava/lang/String;[DILcom/example/rank60/rank60/FusedList$Explanations;)V", sig := { parameters := [(.array (.object "java/lang/String")), (.array .double), .int, (.object "com/example/rank60/rank60/FusedList$Explanations")], returnType := none }, accessFlags := 0, code := some k16c0 }
def k16c1 : Code := { maxStack := 2, maxLocals := 7, code := prog_9_method_3_code, exceptionTable := #[], attributes := #[] }
def k16m1 : Method := { name := "<init>", desc := "([Ljava/lang/String;[ILcom/example/rank60/rank60/DocumentNumbering;[DILcom/example/rank60/rank60/FusedList$Explanations;)V", sig := { parameters := [(.array (.object "java/lang/String")), (.array .int), (.object "com/example/rank60/rank60/DocumentNumbering"), (.array .double), .int, (.object "com/example/rank60/rank60/FusedList$Explanations")], returnType := none }, accessFlags := 2, code := some k16c1 }
def k16c2 : Code := { maxStack := 2, maxLocals := 2, code := prog_9_method_11_code, exceptionTable := #[], attributes := #[] }
def k16m2 : Method := { name := "contributions", desc := "(I)Ljava/util/List;", sig := { parameters := [.int], returnType := some (.object "java/util/List") }, accessFlags := 1, code := some k16c2 }
/-- com/example/rank60/rank60/FusedList -/
def k16 : Class := { plain "com/example/rank60/rank60/FusedList" (some 14) with
  accessFlags := 49
  interfaces := #[15]
  cf := some (fileOf pool16 2 #[.nestMembers #[80, 119]] #[{ accessFlags := 0, nameIndex := 5, descriptorIndex := 98, attributes := #[] }, { accessFlags := 2, nameIndex := 5, descriptorIndex := 6, attributes := #[] }, { accessFlags := 1, nameIndex := 52, descriptorIndex := 53, attributes := #[] }] 49 8 #[96] #[{ accessFlags := 18, nameIndex := 14, descriptorIndex := 15, attributes := #[] }, { accessFlags := 18, nameIndex := 18, descriptorIndex := 19, attributes := #[] }, { accessFlags := 18, nameIndex := 22, descriptorIndex := 23, attributes := #[] }, { accessFlags := 18, nameIndex := 26, descriptorIndex := 27, attributes := #[] }, { accessFlags := 18, nameIndex := 30, descriptorIndex := 31, attributes := #[] }, { accessFlags := 18, nameIndex := 34, descriptorIndex := 35, attributes := #[] }])
  fields := #[{ name := "ids", type := (.array (.object "java/lang/String")), accessFlags := 18, slot := 1, constantValue := 0 }, { name := "documents", type := (.array .int), accessFlags := 18, slot := 2, constantValue := 0 }, { name := "numbering", type := (.object "com/example/rank60/rank60/DocumentNumbering"), accessFlags := 18, slot := 3, constantValue := 0 }, { name := "scores", type := (.array .double), accessFlags := 18, slot := 4, constantValue := 0 }, { name := "firstRank", type := .int, accessFlags := 18, slot := 5, constantValue := 0 }, { name := "explanations", type := (.object "com/example/rank60/rank60/FusedList$Explanations"), accessFlags := 18, slot := 6, constantValue := 0 }]
  methods := #[k16m0, k16m1, k16m2]
  instanceTypes := #[.int, (.array (.object "java/lang/String")), (.array .int), (.object "com/example/rank60/rank60/DocumentNumbering"), (.array .double), .int, (.object "com/example/rank60/rank60/FusedList$Explanations")]
  staticTypes := #[]
  resolved := ((Array.replicate 127 none).set! 79 (some (.method ⟨2, 3⟩))).set! 80 (some (.cls 2))
  statics := none }

def pool17 : Array CpInfo := pool [(2, .class_ 4), (1, u "java/lang/Object"), (0, u "<init>"), (0, u "()V"), (35, .class_ 44), (1, u "java/util/Objects"), (60, .methodref 106 107), (0, .class_ 108), (0, .nameAndType 109 110), (0, u "jdk/internal/util/Preconditions"), (0, u "checkIndex"), (0, u "(IILjava/util/function/BiFunction;)I"), (60, u "(II)I")] 12

def k17m0 : Method := { name := "<init>", desc := "()V", sig := { parameters := [], returnType := none }, accessFlags := 2, code := none }
def k17c1 : Code := { maxStack := 3, maxLocals := 2, code := jdk_31_method_17_code, exceptionTable := #[], attributes := #[] }
def k17m1 : Method := { name := "checkIndex", desc := "(II)I", sig := { parameters := [.int, .int], returnType := some .int }, accessFlags := 9, code := some k17c1 }
/-- java/util/Objects -/
def k17 : Class := { plain "java/util/Objects" (some 0) with
  accessFlags := 49
  interfaces := #[]
  cf := some (fileOf pool17 42 #[] #[{ accessFlags := 2, nameIndex := 5, descriptorIndex := 6, attributes := #[] }, { accessFlags := 9, nameIndex := 109, descriptorIndex := 171, attributes := #[] }] 49 2 #[] #[])
  fields := #[]
  methods := #[k17m0, k17m1]
  instanceTypes := #[]
  staticTypes := #[]
  resolved := Array.replicate 184 none
  statics := none }

def pool18 : Array CpInfo := pool [(2, .class_ 4), (1, u "java/lang/Object"), (0, u "<init>"), (0, u "()V"), (17, .class_ 26), (1, u "jdk/internal/util/Preconditions"), (6, u "checkIndex"), (21, .class_ 56), (0, u "jdk/internal/util/Preconditions$4"), (57, .class_ 115), (0, u "jdk/internal/util/Preconditions$1"), (7, u "SIOOBE_FORMATTER"), (0, u "Ljava/util/function/BiFunction;"), (0, .class_ 126), (0, u "jdk/internal/util/Preconditions$2"), (3, u "AIOOBE_FORMATTER"), (0, .class_ 132), (0, u "jdk/internal/util/Preconditions$3"), (3, u "IOOBE_FORMATTER"), (41, u "(IILjava/util/function/BiFunction;)I")] 15

def k18m0 : Method := { name := "<init>", desc := "()V", sig := { parameters := [], returnType := none }, accessFlags := 1, code := none }
def k18c1 : Code := { maxStack := 3, maxLocals := 3, code := jdk_41_method_11_code, exceptionTable := #[], attributes := #[] }
def k18m1 : Method := { name := "checkIndex", desc := "(IILjava/util/function/BiFunction;)I", sig := { parameters := [.int, .int, (.object "java/util/function/BiFunction")], returnType := some .int }, accessFlags := 9, code := some k18c1 }
/-- jdk/internal/util/Preconditions -/
def k18 : Class := { plain "jdk/internal/util/Preconditions" (some 0) with
  accessFlags := 33
  interfaces := #[]
  cf := some (fileOf pool18 24 #[.nestMembers #[55, 131, 125, 114]] #[{ accessFlags := 1, nameIndex := 5, descriptorIndex := 6, attributes := #[] }, { accessFlags := 9, nameIndex := 33, descriptorIndex := 178, attributes := #[] }] 33 2 #[] #[{ accessFlags := 25, nameIndex := 123, descriptorIndex := 124, attributes := #[] }, { accessFlags := 25, nameIndex := 130, descriptorIndex := 124, attributes := #[] }, { accessFlags := 25, nameIndex := 136, descriptorIndex := 124, attributes := #[] }])
  fields := #[{ name := "SIOOBE_FORMATTER", type := (.object "java/util/function/BiFunction"), accessFlags := 25, slot := 0, constantValue := 0 }, { name := "AIOOBE_FORMATTER", type := (.object "java/util/function/BiFunction"), accessFlags := 25, slot := 1, constantValue := 0 }, { name := "IOOBE_FORMATTER", type := (.object "java/util/function/BiFunction"), accessFlags := 25, slot := 2, constantValue := 0 }]
  methods := #[k18m0, k18m1]
  instanceTypes := #[]
  staticTypes := #[(.object "java/util/function/BiFunction"), (.object "java/util/function/BiFunction"), (.object "java/util/function/BiFunction")]
  resolved := Array.replicate 194 none
  statics := none }

def pool19 : Array CpInfo := pool [(1, .fieldref 2 3), (0, .class_ 4), (0, .nameAndType 5 6), (0, u "com/example/rank60/rank60/FusedList$Explanations$DocumentContributions"), (0, u "this$0"), (0, u "Lcom/example/rank60/rank60/FusedList$Explanations;"), (0, .methodref 8 9), (0, .class_ 10), (0, .nameAndType 11 12), (0, u "java/util/AbstractList"), (0, u "<init>"), (0, u "()V"), (0, .fieldref 2 14), (0, .nameAndType 15 16), (0, u "start"), (0, u "I"), (0, .fieldref 2 18), (0, .nameAndType 19 16), (0, u "size"), (0, .methodref 21 22), (0, .class_ 23), (0, .nameAndType 24 25), (0, u "java/util/Objects"), (0, u "checkIndex"), (0, u "(II)I"), (0, .class_ 27), (0, u "com/example/rank60/rank60/FusedHit$Contribution"), (0, .fieldref 29 30), (0, .class_ 31), (0, .nameAndType 32 33), (0, u "com/example/rank60/rank60/FusedList$Explanations"), (0, u "inputs"), (0, u "[I"), (0, .fieldref 29 35), (0, .nameAndType 36 33), (0, u "ranks"), (0, .fieldref 29 38), (0, .nameAndType 39 40), (0, u "scores"), (0, u "[D"), (2, .double 9221120237041090560), (1, .fieldref 29 46), (0, .nameAndType 47 40), (0, u "values"), (0, .methodref 26 49), (0, .nameAndType 11 50), (0, u "(IIDD)V"), (0, .methodref 2 52), (0, .nameAndType 53 54), (0, u "get"), (0, u "(I)Lcom/example/rank60/rank60/FusedHit$Contribution;"), (0, .class_ 56), (0, u "java/util/RandomAccess"), (0, u "(Lcom/example/rank60/rank60/FusedList$Explanations;II)V"), (4, u "()I"), (0, u "(I)Ljava/lang/Object;"), (5, .class_ 70), (0, u "com/example/rank60/rank60/FusedList")] 6

def k19c0 : Code := { maxStack := 2, maxLocals := 4, code := prog_11_method_1_code, exceptionTable := #[], attributes := #[] }
def k19m0 : Method := { name := "<init>", desc := "(Lcom/example/rank60/rank60/FusedList$Explanations;II)V", sig := { parameters := [(.object "com/example/rank60/rank60/FusedList$Explanations"), .int, .int], returnType := none }, accessFlags := 2, code := some k19c0 }
def k19c1 : Code := { maxStack := 8, maxLocals := 3, code := prog_11_method_2_code, exceptionTable := #[], attributes := #[] }
def k19m1 : Method := { name := "get", desc := "(I)Lcom/example/rank60/rank60/FusedHit$Contribution;", sig := { parameters := [.int], returnType := some (.object "com/example/rank60/rank60/FusedHit$Contribution") }, accessFlags := 1, code := some k19c1 }
def k19c2 : Code := { maxStack := 1, maxLocals := 1, code := prog_11_method_3_code, exceptionTable := #[], attributes := #[] }
def k19m2 : Method := { name := "size", desc := "()I", sig := { parameters := [], returnType := some .int }, accessFlags := 1, code := some k19c2 }
def k19c3 : Code := { maxStack := 2, maxLocals := 2, code := prog_11_method_4_code, exceptionTable := #[], attributes := #[] }
def k19m3 : Method := { name := "get", desc := "(I)Ljava/lang/Object;", sig := { parameters := [.int], returnType := some (.object "java/lang/Object") }, accessFlags := 4161, code := some k19c3 }
/-- com/example/rank60/rank60/FusedList$Explanations$DocumentContributions -/
def k19 : Class := { plain "com/example/rank60/rank60/FusedList$Explanations$DocumentContributions" (some 14) with
  accessFlags := 48
  interfaces := #[15]
  cf := some (fileOf pool19 2 #[.nestHost 69] #[{ accessFlags := 2, nameIndex := 11, descriptorIndex := 57, attributes := #[] }, { accessFlags := 1, nameIndex := 53, descriptorIndex := 54, attributes := #[] }, { accessFlags := 1, nameIndex := 19, descriptorIndex := 62, attributes := #[] }, { accessFlags := 4161, nameIndex := 53, descriptorIndex := 63, attributes := #[] }] 48 8 #[55] #[{ accessFlags := 18, nameIndex := 15, descriptorIndex := 16, attributes := #[] }, { accessFlags := 18, nameIndex := 19, descriptorIndex := 16, attributes := #[] }, { accessFlags := 4112, nameIndex := 5, descriptorIndex := 6, attributes := #[] }])
  fields := #[{ name := "start", type := .int, accessFlags := 18, slot := 1, constantValue := 0 }, { name := "size", type := .int, accessFlags := 18, slot := 2, constantValue := 0 }, { name := "this$0", type := (.object "com/example/rank60/rank60/FusedList$Explanations"), accessFlags := 4112, slot := 3, constantValue := 0 }]
  methods := #[k19m0, k19m1, k19m2, k19m3]
  instanceTypes := #[.int, .int, .int, (.object "com/example/rank60/rank60/FusedList$Explanations")]
  staticTypes := #[]
  resolved := Array.replicate 77 none
  statics := none }

def pool20 : Array CpInfo := pool [(1, .methodref 2 3), (0, .class_ 4), (0, .nameAndType 5 6), (0, u "java/lang/Object"), (0, u "<init>"), (0, u "()V"), (0, .class_ 8), (0, u "java/lang/Record")] 13

def k20c0 : Code := { maxStack := 1, maxLocals := 1, code := jdk_30_method_1_code, exceptionTable := #[], attributes := #[] }
def k20m0 : Method := { name := "<init>", desc := "()V", sig := { parameters := [], returnType := none }, accessFlags := 4, code := some k20c0 }
/-- java/lang/Record -/
def k20 : Class := { plain "java/lang/Record" (some 0) with
  accessFlags := 1057
  interfaces := #[]
  cf := some (fileOf pool20 7 #[] #[{ accessFlags := 4, nameIndex := 5, descriptorIndex := 6, attributes := #[] }] 1057 2 #[] #[])
  fields := #[]
  methods := #[k20m0]
  instanceTypes := #[]
  staticTypes := #[]
  resolved := Array.replicate 22 none
  statics := none }

def pool21 : Array CpInfo := pool [(1, .methodref 2 3), (0, .class_ 4), (0, .nameAndType 5 6), (0, u "java/lang/Record"), (0, u "<init>"), (0, u "()V"), (0, .fieldref 8 9), (0, .class_ 10), (0, .nameAndType 11 12), (0, u "com/example/rank60/rank60/FusedHit$Contribution"), (0, u "input"), (0, u "I"), (0, .fieldref 8 14), (0, .nameAndType 15 12), (0, u "rank"), (0, .fieldref 8 17), (0, .nameAndType 18 19), (0, u "score"), (0, u "D"), (0, .fieldref 8 21), (0, .nameAndType 22 19), (0, u "value"), (12, u "NOT_HELD"), (2, u "(IIDD)V"), (4, u "()I"), (1, u "()D"), (3, .class_ 50), (0, u "com/example/rank60/rank60/FusedHit")] 22

def k21c0 : Code := { maxStack := 3, maxLocals := 7, code := prog_8_method_1_code, exceptionTable := #[], attributes := #[] }
def k21m0 : Method := { name := "<init>", desc := "(IIDD)V", sig := { parameters := [.int, .int, .double, .double], returnType := none }, accessFlags := 1, code := some k21c0 }
def k21c1 : Code := { maxStack := 1, maxLocals := 1, code := prog_8_method_5_code, exceptionTable := #[], attributes := #[] }
def k21m1 : Method := { name := "input", desc := "()I", sig := { parameters := [], returnType := some .int }, accessFlags := 1, code := some k21c1 }
def k21c2 : Code := { maxStack := 1, maxLocals := 1, code := prog_8_method_6_code, exceptionTable := #[], attributes := #[] }
def k21m2 : Method := { name := "rank", desc := "()I", sig := { parameters := [], returnType := some .int }, accessFlags := 1, code := some k21c2 }
def k21c3 : Code := { maxStack := 2, maxLocals := 1, code := prog_8_method_7_code, exceptionTable := #[], attributes := #[] }
def k21m3 : Method := { name := "score", desc := "()D", sig := { parameters := [], returnType := some .double }, accessFlags := 1, code := some k21c3 }
def k21c4 : Code := { maxStack := 2, maxLocals := 1, code := prog_8_method_8_code, exceptionTable := #[], attributes := #[] }
def k21m4 : Method := { name := "value", desc := "()D", sig := { parameters := [], returnType := some .double }, accessFlags := 1, code := some k21c4 }
/-- com/example/rank60/rank60/FusedHit$Contribution -/
def k21 : Class := { plain "com/example/rank60/rank60/FusedHit$Contribution" (some 20) with
  accessFlags := 49
  interfaces := #[]
  cf := some (fileOf pool21 8 #[.nestHost 49] #[{ accessFlags := 1, nameIndex := 5, descriptorIndex := 38, attributes := #[] }, { accessFlags := 1, nameIndex := 11, descriptorIndex := 43, attributes := #[] }, { accessFlags := 1, nameIndex := 15, descriptorIndex := 43, attributes := #[] }, { accessFlags := 1, nameIndex := 18, descriptorIndex := 45, attributes := #[] }, { accessFlags := 1, nameIndex := 22, descriptorIndex := 45, attributes := #[] }] 49 2 #[] #[{ accessFlags := 18, nameIndex := 11, descriptorIndex := 12, attributes := #[] }, { accessFlags := 18, nameIndex := 15, descriptorIndex := 12, attributes := #[] }, { accessFlags := 18, nameIndex := 18, descriptorIndex := 19, attributes := #[] }, { accessFlags := 18, nameIndex := 22, descriptorIndex := 19, attributes := #[] }, { accessFlags := 25, nameIndex := 35, descriptorIndex := 12, attributes := #[] }])
  fields := #[{ name := "input", type := .int, accessFlags := 18, slot := 0, constantValue := 0 }, { name := "rank", type := .int, accessFlags := 18, slot := 1, constantValue := 0 }, { name := "score", type := .double, accessFlags := 18, slot := 2, constantValue := 0 }, { name := "value", type := .double, accessFlags := 18, slot := 3, constantValue := 0 }, { name := "NOT_HELD", type := .int, accessFlags := 25, slot := 0, constantValue := 0 }]
  methods := #[k21m0, k21m1, k21m2, k21m3, k21m4]
  instanceTypes := #[.int, .int, .double, .double]
  staticTypes := #[.int]
  resolved := Array.replicate 73 none
  statics := none }

def pool22 : Array CpInfo := pool [(1, u "java/lang/Cloneable"), (0, .class_ 1), (0, u "java/lang/Object"), (0, .class_ 3)] 3

/-- java/lang/Cloneable -/
def k22 : Class := { plain "java/lang/Cloneable" (some 0) with
  accessFlags := 1537
  interfaces := #[]
  cf := some (fileOf pool22 2 #[] #[] 1537 4 #[] #[])
  fields := #[]
  methods := #[]
  instanceTypes := #[]
  staticTypes := #[]
  resolved := Array.replicate 8 none
  statics := none }

/-- the primitive byte -/
def k23 : Class := { plain "byte" none with kind := .primitive 'B', accessFlags := 0x411 }
/-- [B -/
def k24 : Class := { plain "[B" (some 0) with kind := .array 23 .byte, interfaces := #[22, 3], accessFlags := 1041 }

/-- the primitive double -/
def k25 : Class := { plain "double" none with kind := .primitive 'D', accessFlags := 0x411 }
/-- [D -/
def k26 : Class := { plain "[D" (some 0) with kind := .array 25 .double, interfaces := #[22, 3], accessFlags := 1041 }

/-- the primitive int -/
def k27 : Class := { plain "int" none with kind := .primitive 'I', accessFlags := 0x411 }
/-- [I -/
def k28 : Class := { plain "[I" (some 0) with kind := .array 27 .int, interfaces := #[22, 3], accessFlags := 1041 }

/-- [Ljava/lang/String; -/
def k29 : Class := { plain "[Ljava/lang/String;" (some 0) with kind := .array 8 (.object "java/lang/String"), interfaces := #[22, 3], accessFlags := 1041 }

def heap : Heap := #[]
def classes : Array Class := #[k0, k1, k2, k3, k4, k5, k6, k7, k8, k9, k10, k11, k12, k13, k14, k15, k16, k17, k18, k19, k20, k21, k22, k23, k24, k25, k26, k27, k28, k29]
def interned : List (Array UInt16 × Addr) := []
def slotsUsed : Nat := 0
def theMethod : MethodId := ⟨1, 2⟩
def args0 : Array Value := #[.int 5, .int 3, .int 1, .int 2, .int 4, .int 6]
def aboutOver (below : List Frame) : State where
  vm := { classes := classes, interned := interned.toArray }
  heap := heap
  slotsUsed := slotsUsed
  threads := #[{ frames := .invoking theMethod args0 :: below }]
def below0 : List Frame := [.native { method := ⟨0, 0⟩, args := #[] }]
def about1 : State := aboutOver below0
def p0 : Program := .bare "" "" ""
def e0 : Env := launch0.env 0 0 0
theorem w_frames : about1.frames = Frame.invoking theMethod args0 :: below0 := rfl
set_option maxRecDepth 65536 in
theorem w_args : argsFit about1.vm theMethod args0 = true := by decide +kernel
set_option maxRecDepth 65536 in
theorem w_heap : heapFits about1 = true := by decide +kernel
set_option maxRecDepth 65536 in
theorem w_runnable : about1.curStatus? = some .runnable := by decide +kernel
set_option maxRecDepth 65536 in
theorem w_alone : about1.alone = true := by decide +kernel
set_option maxRecDepth 65536 in
theorem w_named : about1.methodNamed? x = some theMethod := by decide +kernel
set_option maxRecDepth 65536 in
theorem w_hears : about1.hears theMethod below0 = true := by decide +kernel
set_option maxRecDepth 65536 in
theorem w_ripe : about1.ripe theMethod args0 below0 = true := by decide +kernel
theorem w_running : about1.status = .running := rfl
set_option maxRecDepth 65536 in
theorem w_room : about1.hasRoom e0.platform room_1 = true :=
  launch0.hasRoom_least _ room_1 (by decide +kernel) (by decide +kernel) (by decide +kernel) (by decide +kernel) (by decide +kernel) (by decide +kernel)
theorem allAtoms_all (ts : List Jvm.Cond) (a : Array Jvm.Value) (st : Jvm.State) : (allAtoms ts).before a st = ts.all (fun c => c.before a st) := by
  induction ts with
  | nil => rfl
  | cons c t ih =>
    show (Jvm.Cond.and c (allAtoms t)).before a st = _
    rw [Jvm.Cond.before_and, ih, List.all_cons]
def words1 : List Jvm.Cond := Jvm.Cond.code x code maxLocals ret :: tables_1
/-- a 'code' word, met by the world's own term for the bytes: nothing is compared byte by byte -/
theorem code_word {y : MethodName} {bytes : ByteArray} {mx : Nat} {rt : Option FieldType} {a : Array Value} {s : State} {m : MethodId} {meth : Method} {c : Code} (h1 : s.methodNamed? y = some m) (h2 : s.vm.method? m = some meth) (h3 : meth.code = some c) (h4 : c.code = bytes)
    (h5 : (c.maxLocals == mx && c.exceptionTable.isEmpty && decide (c.maxStack ≤ mostOperands) && decide (meth.sig.returnType = rt) && !meth.locks && decide (parseMethodDescriptor y.desc = some meth.sig)) = true) : (Jvm.Cond.code y bytes mx rt).before a s = true := by
  simp only [Bool.and_eq_true, beq_iff_eq, Bool.not_eq_true', decide_eq_true_eq] at h5
  obtain ⟨⟨⟨⟨⟨g1, g2⟩, g3⟩, g4⟩, g5⟩, g6⟩ := h5
  simp [Cond.before, Cond.holds, Cond.value, h1, h2, h3, h4, g1, g2, g3, g4, g5, g6]
def isCode : Jvm.Cond → Bool
  | .code _ _ _ _ => true
  | _ => false
theorem all_split {L : List Jvm.Cond} {P : Jvm.Cond → Bool} (h1 : L.all (fun c => isCode c || P c) = true) (h2 : ∀ c ∈ L.filter isCode, P c = true) : L.all P = true := by
  refine List.all_eq_true.mpr fun c hc => ?_
  have h := List.all_eq_true.mp h1 c hc
  rcases Bool.eq_false_or_eq_true (isCode c) with hi | hi
  · exact h2 c (List.mem_filter.mpr ⟨hc, hi⟩)
  · simpa [hi] using h
set_option maxRecDepth 65536 in
theorem w_c0 : (Jvm.Cond.code x code maxLocals ret).before args0 about1 = true := code_word (m := ⟨1, 2⟩) (meth := k1m2) (c := k1c2) (by decide +kernel) rfl rfl rfl (by decide +kernel)
set_option maxRecDepth 65536 in
theorem w_c1 : (Jvm.Cond.code ({ cls := "com/example/rank60/rank60/FusedList$Explanations", name := "<init>", desc := "(IIZ)V" } : Jvm.MethodName) prog_10_method_1_code (4 : Nat) (Option.none : Option Jvm.ClassFile.FieldType)).before args0 about1 = true := code_word (m := ⟨2, 0⟩) (meth := k2m0) (c := k2c0) (by decide +kernel) rfl rfl rfl (by decide +kernel)
set_option maxRecDepth 65536 in
theorem w_c2 : (Jvm.Cond.code ({ cls := "java/lang/Object", name := "<init>", desc := "()V" } : Jvm.MethodName) object_method_1_code (1 : Nat) (Option.none : Option Jvm.ClassFile.FieldType)).before args0 about1 = true := code_word (m := ⟨0, 0⟩) (meth := k0m0) (c := k0c0) (by decide +kernel) rfl rfl rfl (by decide +kernel)
set_option maxRecDepth 65536 in
theorem w_c3 : (Jvm.Cond.code ({ cls := "com/example/rank60/rank60/FusedList$Explanations", name := "add", desc := "(IIDD)V" } : Jvm.MethodName) prog_10_method_2_code (7 : Nat) (Option.none : Option Jvm.ClassFile.FieldType)).before args0 about1 = true := code_word (m := ⟨2, 1⟩) (meth := k2m1) (c := k2c1) (by decide +kernel) rfl rfl rfl (by decide +kernel)
set_option maxRecDepth 65536 in
theorem w_c4 : (Jvm.Cond.code ({ cls := "com/example/rank60/rank60/FusedList$Explanations", name := "endDocument", desc := "()V" } : Jvm.MethodName) prog_10_method_3_code (1 : Nat) (Option.none : Option Jvm.ClassFile.FieldType)).before args0 about1 = true := code_word (m := ⟨2, 2⟩) (meth := k2m2) (c := k2c2) (by decide +kernel) rfl rfl rfl (by decide +kernel)
set_option maxRecDepth 65536 in
theorem w_c5 : (Jvm.Cond.code ({ cls := "com/example/rank60/rank60/FusedList", name := "<init>", desc := "([Ljava/lang/String;[DILcom/example/rank60/rank60/FusedList$Explanations;)V" } : Jvm.MethodName) prog_9_method_1_code (5 : Nat) (Option.none : Option Jvm.ClassFile.FieldType)).before args0 about1 = true := code_word (m := ⟨16, 0⟩) (meth := k16m0) (c := k16c0) (by decide +kernel) rfl rfl rfl (by decide +kernel)
set_option maxRecDepth 65536 in
theorem w_c6 : (Jvm.Cond.code ({ cls := "com/example/rank60/rank60/FusedList", name := "<init>", desc := "([Ljava/lang/String;[ILcom/example/rank60/rank60/DocumentNumbering;[DILcom/example/rank60/rank60/FusedList$Explanations;)V" } : Jvm.MethodName) prog_9_method_3_code (7 : Nat) (Option.none : Option Jvm.ClassFile.FieldType)).before args0 about1 = true := code_word (m := ⟨16, 1⟩) (meth := k16m1) (c := k16c1) (by decide +kernel) rfl rfl rfl (by decide +kernel)
set_option maxRecDepth 65536 in
theorem w_c7 : (Jvm.Cond.code ({ cls := "java/util/AbstractList", name := "<init>", desc := "()V" } : Jvm.MethodName) jdk_39_method_1_code (1 : Nat) (Option.none : Option Jvm.ClassFile.FieldType)).before args0 about1 = true := code_word (m := ⟨14, 0⟩) (meth := k14m0) (c := k14c0) (by decide +kernel) rfl rfl rfl (by decide +kernel)
set_option maxRecDepth 65536 in
theorem w_c8 : (Jvm.Cond.code ({ cls := "java/util/AbstractCollection", name := "<init>", desc := "()V" } : Jvm.MethodName) jdk_22_method_1_code (1 : Nat) (Option.none : Option Jvm.ClassFile.FieldType)).before args0 about1 = true := code_word (m := ⟨11, 0⟩) (meth := k11m0) (c := k11c0) (by decide +kernel) rfl rfl rfl (by decide +kernel)
set_option maxRecDepth 65536 in
theorem w_c9 : (Jvm.Cond.code ({ cls := "com/example/rank60/rank60/FusedList", name := "contributions", desc := "(I)Ljava/util/List;" } : Jvm.MethodName) prog_9_method_11_code (2 : Nat) (Option.some (Jvm.ClassFile.FieldType.object "java/util/List"))).before args0 about1 = true := code_word (m := ⟨16, 2⟩) (meth := k16m2) (c := k16c2) (by decide +kernel) rfl rfl rfl (by decide +kernel)
set_option maxRecDepth 65536 in
theorem w_c10 : (Jvm.Cond.code ({ cls := "java/util/Objects", name := "checkIndex", desc := "(II)I" } : Jvm.MethodName) jdk_31_method_17_code (2 : Nat) (Option.some Jvm.ClassFile.FieldType.int)).before args0 about1 = true := code_word (m := ⟨17, 1⟩) (meth := k17m1) (c := k17c1) (by decide +kernel) rfl rfl rfl (by decide +kernel)
set_option maxRecDepth 65536 in
theorem w_c11 : (Jvm.Cond.code ({ cls := "jdk/internal/util/Preconditions", name := "checkIndex", desc := "(IILjava/util/function/BiFunction;)I" } : Jvm.MethodName) jdk_41_method_11_code (3 : Nat) (Option.some Jvm.ClassFile.FieldType.int)).before args0 about1 = true := code_word (m := ⟨18, 1⟩) (meth := k18m1) (c := k18c1) (by decide +kernel) rfl rfl rfl (by decide +kernel)
set_option maxRecDepth 65536 in
theorem w_c12 : (Jvm.Cond.code ({ cls := "com/example/rank60/rank60/FusedList$Explanations", name := "of", desc := "(I)Ljava/util/List;" } : Jvm.MethodName) prog_10_method_4_code (4 : Nat) (Option.some (Jvm.ClassFile.FieldType.object "java/util/List"))).before args0 about1 = true := code_word (m := ⟨2, 3⟩) (meth := k2m3) (c := k2c3) (by decide +kernel) rfl rfl rfl (by decide +kernel)
set_option maxRecDepth 65536 in
theorem w_c13 : (Jvm.Cond.code ({ cls := "com/example/rank60/rank60/FusedList$Explanations$DocumentContributions", name := "<init>", desc := "(Lcom/example/rank60/rank60/FusedList$Explanations;II)V" } : Jvm.MethodName) prog_11_method_1_code (4 : Nat) (Option.none : Option Jvm.ClassFile.FieldType)).before args0 about1 = true := code_word (m := ⟨19, 0⟩) (meth := k19m0) (c := k19c0) (by decide +kernel) rfl rfl rfl (by decide +kernel)
set_option maxRecDepth 65536 in
theorem w_c14 : (Jvm.Cond.code ({ cls := "com/example/rank60/rank60/FusedList$Explanations$DocumentContributions", name := "size", desc := "()I" } : Jvm.MethodName) prog_11_method_3_code (1 : Nat) (Option.some Jvm.ClassFile.FieldType.int)).before args0 about1 = true := code_word (m := ⟨19, 2⟩) (meth := k19m2) (c := k19c2) (by decide +kernel) rfl rfl rfl (by decide +kernel)
set_option maxRecDepth 65536 in
theorem w_c15 : (Jvm.Cond.code ({ cls := "com/example/rank60/rank60/FusedList$Explanations$DocumentContributions", name := "get", desc := "(I)Ljava/lang/Object;" } : Jvm.MethodName) prog_11_method_4_code (2 : Nat) (Option.some (Jvm.ClassFile.FieldType.object "java/lang/Object"))).before args0 about1 = true := code_word (m := ⟨19, 3⟩) (meth := k19m3) (c := k19c3) (by decide +kernel) rfl rfl rfl (by decide +kernel)
set_option maxRecDepth 65536 in
theorem w_c16 : (Jvm.Cond.code ({ cls := "com/example/rank60/rank60/FusedList$Explanations$DocumentContributions", name := "get", desc := "(I)Lcom/example/rank60/rank60/FusedHit$Contribution;" } : Jvm.MethodName) prog_11_method_2_code (3 : Nat) (Option.some (Jvm.ClassFile.FieldType.object "com/example/rank60/rank60/FusedHit$Contribution"))).before args0 about1 = true := code_word (m := ⟨19, 1⟩) (meth := k19m1) (c := k19c1) (by decide +kernel) rfl rfl rfl (by decide +kernel)
set_option maxRecDepth 65536 in
theorem w_c17 : (Jvm.Cond.code ({ cls := "com/example/rank60/rank60/FusedHit$Contribution", name := "<init>", desc := "(IIDD)V" } : Jvm.MethodName) prog_8_method_1_code (7 : Nat) (Option.none : Option Jvm.ClassFile.FieldType)).before args0 about1 = true := code_word (m := ⟨21, 0⟩) (meth := k21m0) (c := k21c0) (by decide +kernel) rfl rfl rfl (by decide +kernel)
set_option maxRecDepth 65536 in
theorem w_c18 : (Jvm.Cond.code ({ cls := "java/lang/Record", name := "<init>", desc := "()V" } : Jvm.MethodName) jdk_30_method_1_code (1 : Nat) (Option.none : Option Jvm.ClassFile.FieldType)).before args0 about1 = true := code_word (m := ⟨20, 0⟩) (meth := k20m0) (c := k20c0) (by decide +kernel) rfl rfl rfl (by decide +kernel)
set_option maxRecDepth 65536 in
theorem w_c19 : (Jvm.Cond.code ({ cls := "com/example/rank60/rank60/ExplanationsAddPinLaw", name := "matches", desc := "(Lcom/example/rank60/rank60/FusedHit$Contribution;IIDDZ)Z" } : Jvm.MethodName) method_2_code (9 : Nat) (Option.some Jvm.ClassFile.FieldType.boolean)).before args0 about1 = true := code_word (m := ⟨1, 1⟩) (meth := k1m1) (c := k1c1) (by decide +kernel) rfl rfl rfl (by decide +kernel)
set_option maxRecDepth 65536 in
theorem w_c20 : (Jvm.Cond.code ({ cls := "com/example/rank60/rank60/FusedHit$Contribution", name := "score", desc := "()D" } : Jvm.MethodName) prog_8_method_7_code (1 : Nat) (Option.some Jvm.ClassFile.FieldType.double)).before args0 about1 = true := code_word (m := ⟨21, 3⟩) (meth := k21m3) (c := k21c3) (by decide +kernel) rfl rfl rfl (by decide +kernel)
set_option maxRecDepth 65536 in
theorem w_c21 : (Jvm.Cond.code ({ cls := "com/example/rank60/rank60/FusedHit$Contribution", name := "input", desc := "()I" } : Jvm.MethodName) prog_8_method_5_code (1 : Nat) (Option.some Jvm.ClassFile.FieldType.int)).before args0 about1 = true := code_word (m := ⟨21, 1⟩) (meth := k21m1) (c := k21c1) (by decide +kernel) rfl rfl rfl (by decide +kernel)
set_option maxRecDepth 65536 in
theorem w_c22 : (Jvm.Cond.code ({ cls := "com/example/rank60/rank60/FusedHit$Contribution", name := "rank", desc := "()I" } : Jvm.MethodName) prog_8_method_6_code (1 : Nat) (Option.some Jvm.ClassFile.FieldType.int)).before args0 about1 = true := code_word (m := ⟨21, 2⟩) (meth := k21m2) (c := k21c2) (by decide +kernel) rfl rfl rfl (by decide +kernel)
set_option maxRecDepth 65536 in
theorem w_c23 : (Jvm.Cond.code ({ cls := "com/example/rank60/rank60/FusedHit$Contribution", name := "value", desc := "()D" } : Jvm.MethodName) prog_8_method_8_code (1 : Nat) (Option.some Jvm.ClassFile.FieldType.double)).before args0 about1 = true := code_word (m := ⟨21, 4⟩) (meth := k21m4) (c := k21c4) (by decide +kernel) rfl rfl rfl (by decide +kernel)
def codes1 : List Jvm.Cond := [Jvm.Cond.code x code maxLocals ret, Jvm.Cond.code ({ cls := "com/example/rank60/rank60/FusedList$Explanations", name := "<init>", desc := "(IIZ)V" } : Jvm.MethodName) prog_10_method_1_code (4 : Nat) (Option.none : Option Jvm.ClassFile.FieldType), Jvm.Cond.code ({ cls := "java/lang/Object", name := "<init>", desc := "()V" } : Jvm.MethodName) object_method_1_code (1 : Nat) (Option.none : Option Jvm.ClassFile.FieldType), Jvm.Cond.code ({ cls := "com/example/rank60/rank60/FusedList$Explanations", name := "add", desc := "(IIDD)V" } : Jvm.MethodName) prog_10_method_2_code (7 : Nat) (Option.none : Option Jvm.ClassFile.FieldType), Jvm.Cond.code ({ cls := "com/example/rank60/rank60/FusedList$Explanations", name := "endDocument", desc := "()V" } : Jvm.MethodName) prog_10_method_3_code (1 : Nat) (Option.none : Option Jvm.ClassFile.FieldType), Jvm.Cond.code ({ cls := "com/example/rank60/rank60/FusedList", name := "<init>", desc := "([Ljava/lang/String;[DILcom/example/rank60/rank60/FusedList$Explanations;)V" } : Jvm.MethodName) prog_9_method_1_code (5 : Nat) (Option.none : Option Jvm.ClassFile.FieldType), Jvm.Cond.code ({ cls := "com/example/rank60/rank60/FusedList", name := "<init>", desc := "([Ljava/lang/String;[ILcom/example/rank60/rank60/DocumentNumbering;[DILcom/example/rank60/rank60/FusedList$Explanations;)V" } : Jvm.MethodName) prog_9_method_3_code (7 : Nat) (Option.none : Option Jvm.ClassFile.FieldType), Jvm.Cond.code ({ cls := "java/util/AbstractList", name := "<init>", desc := "()V" } : Jvm.MethodName) jdk_39_method_1_code (1 : Nat) (Option.none : Option Jvm.ClassFile.FieldType), Jvm.Cond.code ({ cls := "java/util/AbstractCollection", name := "<init>", desc := "()V" } : Jvm.MethodName) jdk_22_method_1_code (1 : Nat) (Option.none : Option Jvm.ClassFile.FieldType), Jvm.Cond.code ({ cls := "com/example/rank60/rank60/FusedList", name := "contributions", desc := "(I)Ljava/util/List;" } : Jvm.MethodName) prog_9_method_11_code (2 : Nat) (Option.some (Jvm.ClassFile.FieldType.object "java/util/List")), Jvm.Cond.code ({ cls := "java/util/Objects", name := "checkIndex", desc := "(II)I" } : Jvm.MethodName) jdk_31_method_17_code (2 : Nat) (Option.some Jvm.ClassFile.FieldType.int), Jvm.Cond.code ({ cls := "jdk/internal/util/Preconditions", name := "checkIndex", desc := "(IILjava/util/function/BiFunction;)I" } : Jvm.MethodName) jdk_41_method_11_code (3 : Nat) (Option.some Jvm.ClassFile.FieldType.int), Jvm.Cond.code ({ cls := "com/example/rank60/rank60/FusedList$Explanations", name := "of", desc := "(I)Ljava/util/List;" } : Jvm.MethodName) prog_10_method_4_code (4 : Nat) (Option.some (Jvm.ClassFile.FieldType.object "java/util/List")), Jvm.Cond.code ({ cls := "com/example/rank60/rank60/FusedList$Explanations$DocumentContributions", name := "<init>", desc := "(Lcom/example/rank60/rank60/FusedList$Explanations;II)V" } : Jvm.MethodName) prog_11_method_1_code (4 : Nat) (Option.none : Option Jvm.ClassFile.FieldType), Jvm.Cond.code ({ cls := "com/example/rank60/rank60/FusedList$Explanations$DocumentContributions", name := "size", desc := "()I" } : Jvm.MethodName) prog_11_method_3_code (1 : Nat) (Option.some Jvm.ClassFile.FieldType.int), Jvm.Cond.code ({ cls := "com/example/rank60/rank60/FusedList$Explanations$DocumentContributions", name := "get", desc := "(I)Ljava/lang/Object;" } : Jvm.MethodName) prog_11_method_4_code (2 : Nat) (Option.some (Jvm.ClassFile.FieldType.object "java/lang/Object")), Jvm.Cond.code ({ cls := "com/example/rank60/rank60/FusedList$Explanations$DocumentContributions", name := "get", desc := "(I)Lcom/example/rank60/rank60/FusedHit$Contribution;" } : Jvm.MethodName) prog_11_method_2_code (3 : Nat) (Option.some (Jvm.ClassFile.FieldType.object "com/example/rank60/rank60/FusedHit$Contribution")), Jvm.Cond.code ({ cls := "com/example/rank60/rank60/FusedHit$Contribution", name := "<init>", desc := "(IIDD)V" } : Jvm.MethodName) prog_8_method_1_code (7 : Nat) (Option.none : Option Jvm.ClassFile.FieldType), Jvm.Cond.code ({ cls := "java/lang/Record", name := "<init>", desc := "()V" } : Jvm.MethodName) jdk_30_method_1_code (1 : Nat) (Option.none : Option Jvm.ClassFile.FieldType), Jvm.Cond.code ({ cls := "com/example/rank60/rank60/ExplanationsAddPinLaw", name := "matches", desc := "(Lcom/example/rank60/rank60/FusedHit$Contribution;IIDDZ)Z" } : Jvm.MethodName) method_2_code (9 : Nat) (Option.some Jvm.ClassFile.FieldType.boolean), Jvm.Cond.code ({ cls := "com/example/rank60/rank60/FusedHit$Contribution", name := "score", desc := "()D" } : Jvm.MethodName) prog_8_method_7_code (1 : Nat) (Option.some Jvm.ClassFile.FieldType.double), Jvm.Cond.code ({ cls := "com/example/rank60/rank60/FusedHit$Contribution", name := "input", desc := "()I" } : Jvm.MethodName) prog_8_method_5_code (1 : Nat) (Option.some Jvm.ClassFile.FieldType.int), Jvm.Cond.code ({ cls := "com/example/rank60/rank60/FusedHit$Contribution", name := "rank", desc := "()I" } : Jvm.MethodName) prog_8_method_6_code (1 : Nat) (Option.some Jvm.ClassFile.FieldType.int), Jvm.Cond.code ({ cls := "com/example/rank60/rank60/FusedHit$Contribution", name := "value", desc := "()D" } : Jvm.MethodName) prog_8_method_8_code (1 : Nat) (Option.some Jvm.ClassFile.FieldType.double)]
set_option maxRecDepth 65536 in
theorem codes_eq : words1.filter isCode = codes1 := rfl
theorem w_codes : ∀ c ∈ words1.filter isCode, c.before args0 about1 = true := by
  rw [codes_eq]
  intro c hc
  simp only [codes1, List.mem_cons, List.not_mem_nil, or_false] at hc
  rcases hc with rfl | rfl | rfl | rfl | rfl | rfl | rfl | rfl | rfl | rfl | rfl | rfl | rfl | rfl | rfl | rfl | rfl | rfl | rfl | rfl | rfl | rfl | rfl | rfl
  · exact w_c0
  · exact w_c1
  · exact w_c2
  · exact w_c3
  · exact w_c4
  · exact w_c5
  · exact w_c6
  · exact w_c7
  · exact w_c8
  · exact w_c9
  · exact w_c10
  · exact w_c11
  · exact w_c12
  · exact w_c13
  · exact w_c14
  · exact w_c15
  · exact w_c16
  · exact w_c17
  · exact w_c18
  · exact w_c19
  · exact w_c20
  · exact w_c21
  · exact w_c22
  · exact w_c23
set_option maxRecDepth 65536 in
theorem w_t1 : (words1.take 24).all (fun c => isCode c || c.before args0 about1) = true := by decide +kernel
set_option maxRecDepth 65536 in
theorem w_t2 : ((words1.drop 24).take 24).all (fun c => isCode c || c.before args0 about1) = true := by decide +kernel
set_option maxRecDepth 65536 in
theorem w_t3 : (((words1.drop 24).drop 24).take 24).all (fun c => isCode c || c.before args0 about1) = true := by decide +kernel
set_option maxRecDepth 65536 in
theorem w_t4 : ((((words1.drop 24).drop 24).drop 24).take 24).all (fun c => isCode c || c.before args0 about1) = true := by decide +kernel
set_option maxRecDepth 65536 in
theorem w_t5 : (((((words1.drop 24).drop 24).drop 24).drop 24).take 24).all (fun c => isCode c || c.before args0 about1) = true := by decide +kernel
set_option maxRecDepth 65536 in
theorem w_t6 : ((((((words1.drop 24).drop 24).drop 24).drop 24).drop 24).take 24).all (fun c => isCode c || c.before args0 about1) = true := by decide +kernel
set_option maxRecDepth 65536 in
theorem w_t7 : (((((((words1.drop 24).drop 24).drop 24).drop 24).drop 24).drop 24).take 24).all (fun c => isCode c || c.before args0 about1) = true := by decide +kernel
set_option maxRecDepth 65536 in
theorem w_t8 : (((((((words1.drop 24).drop 24).drop 24).drop 24).drop 24).drop 24).drop 24).all (fun c => isCode c || c.before args0 about1) = true := by decide +kernel
theorem w_tables : (allAtoms (Jvm.Cond.code x code maxLocals ret :: tables_1)).before args0 about1 = true := by
  rw [allAtoms_all]
  show words1.all (fun c => c.before args0 about1) = true
  refine all_split ?_ w_codes
  rw [← List.take_append_drop 24 words1, List.all_append, w_t1, ← List.take_append_drop 24 (words1.drop 24), List.all_append, w_t2, ← List.take_append_drop 24 ((words1.drop 24).drop 24), List.all_append, w_t3, ← List.take_append_drop 24 (((words1.drop 24).drop 24).drop 24), List.all_append, w_t4, ← List.take_append_drop 24 ((((words1.drop 24).drop 24).drop 24).drop 24), List.all_append, w_t5, ← List.take_append_drop 24 (((((words1.drop 24).drop 24).drop 24).drop 24).drop 24), List.all_append, w_t6, ← List.take_append_drop 24 ((((((words1.drop 24).drop 24).drop 24).drop 24).drop 24).drop 24), List.all_append, w_t7, w_t8]
  rfl
set_option maxRecDepth 65536 in
theorem w_case : (Jvm.Cond.and given_1 narrow_1).before args0 about1 = true := by decide +kernel
theorem w_applies : (headSpec (Jvm.Cond.code x code maxLocals ret :: tables_1) room_1).applies x e0.platform about1 = true :=
  (Spec.applies_iff w_frames).mpr ⟨w_running, w_runnable, w_alone, w_named, w_hears, w_ripe, w_room, w_tables⟩
theorem atStart : AtStart classFile x code maxLocals ret World_1 tables_1 room_1 Calls_1 rest_1 Pre_1 launch0 p0 e0 about1 theMethod args0 below0 :=
  ⟨lists_1, trivial, launch0.admits_env _ _ _, launch0.least_env, fairChoices_fair.cas, fairChoices_fair.clock, w_frames, w_args, w_heap, w_applies, trivial, trivial, w_case⟩
end start1
theorem witness_1 : WitnessClaimed_1 := ⟨start1.p0, start1.e0, start1.about1, start1.theMethod, start1.args0, start1.below0, start1.atStart⟩
end Jvm.Pilot.@@N@@
