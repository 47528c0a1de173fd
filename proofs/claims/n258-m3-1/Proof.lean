import JvmDerived
import JvmDerived.Pilot.@@N@@Statement
import JvmDerived.Pilot.@@N@@Code
set_option linter.unusedVariables false
set_option linter.unusedSimpArgs false
namespace Jvm.RoadKit
open Sem ClassFile Op Lib Jvm.Stand Jvm.Free Jvm.LawKit
section New
variable {p : Program} {l : Launch} {e : Env} {R : Room} {s : State} {m : MethodId} {args : Array Value} {below : List Frame} {meth : Method} {c : Code} {T : State} {locs : List Loc} {cells slots : Nat}
theorem retI (X : Stand p l e R s m args below meth c T locs cells slots) (hx : p.tables.exec = Jvm.exec) {pc : Nat} {Ls : Array Slot} {z : Int32} {rest : List Value} (hret : meth.sig.returnType = some .int) (hd : decode c.code pc = .ok (.ireturn, 1)) {fs : List Frame}
    (hl : ∀ (f : JFrame) (acts : List Action), f.method = m → f.locked = none → f.entered = [] → (doReturn e (T.setTop f) acts (some (.int z))).1 = T.setFrames fs) : Steps p.tables e below (T.setTop (mkF m pc Ls (.int z :: rest))) (T.setFrames fs) := by
  have hm' : T.vm.method? m = some meth := X.method'
  have hn : narrow .int (.int z) = .int z := rfl
  show Steps p.tables e below (T.setTop { method := m, pc := pc, locals := Ls, stack := _ :: rest, locked := none }) _
  jvm_step X.here [X.here.top, hx, hd, hm', hret, hn]
  first | (intro acts; rw [hl _ acts rfl rfl rfl]) | rw [hl _ _ rfl rfl rfl]
  exact Steps.refl _
end New
end Jvm.RoadKit
namespace Jvm.Pilot.@@N@@
open Jvm Jvm.ClassFile Sem Op Lib Jvm.Free Jvm.Stand Jvm.LawKit Jvm.RoadKit Bundle Jvm.Pilot.@@N@@.Jvm.D
abbrev own_S (p : Program) (e : Env) (below : List Frame) (T : State) (f : JFrame) (t : State) : Prop := Steps p.tables e below (T.setTop f) t
abbrev own_ushr (x y : Int32) : Int32 := (x.toUInt32 >>> (y &&& 31).toUInt32).toInt32
abbrev own_ushrL (x : Int64) (y : Int32) : Int64 := (x.toUInt64 >>> (y &&& 63).toInt64.toUInt64).toInt64
def own_Qi (z : Int32) (h0 : Heap) (n0 : Nat) (v : Option Value) (h : Heap) (L : List Loc) : Prop := v = some (.int z) ∧ Fr n0 L ∧ h = h0
theorem own_wk {Z : State} {ag : Array Value} {d : Jvm.Cond} (hw : ∀ d ∈ tables_1, d.before ag Z = true) (i : Nat) (h : tables_1[i]? = some d) : d.before ag Z = true := hw d (List.mem_of_getElem? h)
theorem own_cast {α : Sort _} {P : α → Prop} {a b : α} (h : a = b) (k : P a) : P b := h ▸ k
/-- null, or a String -/
def own_sv (Z : State) (h : Heap) (v : Value) : Prop := v = .null ∨ ∃ r : Addr, v = .ref r ∧ Exa Z h r "java/lang/String"
theorem own_sv.null {Z : State} {h : Heap} : own_sv Z h .null := Or.inl rfl
theorem own_sv.of {Z : State} {h : Heap} {r : Addr} (E : Exa Z h r "java/lang/String") : own_sv Z h (.ref r) := Or.inr ⟨r, rfl, E⟩
theorem own_sv.ext {Z : State} {h h' : Heap} {v : Value} (F : own_sv Z h v) (E : Ext h h') : own_sv Z h' v := F.imp id fun ⟨r, e, x⟩ => ⟨r, e, x.ext E⟩
theorem own_sv.wr {Z : State} {h h' : Heap} {v w : Value} {a : Addr} {sl : Nat} (F : own_sv Z h v) (W : Wr h h' a sl w) : own_sv Z h' v := F.imp id fun ⟨r, e, x⟩ => ⟨r, e, x.wr W⟩
theorem own_sv.keep {Z : State} {h h' : Heap} {v : Value} {ws : List Addr} (F : own_sv Z h v) (K : Keep h h' ws) : own_sv Z h' v := F.imp id fun ⟨r, e, x⟩ => ⟨r, e, x.keep K⟩
theorem own_sv_sto {Z : State} {h : Heap} {a : Addr} {c : Cell} {ty : FieldType} {k : ClassId} {v : Value} (A : Arr Z h a c ty) (q : c.cls = k) (O : Ovr Z k "java/lang/String") (F : own_sv Z h v) : Sto Z h a v := by
  rcases F with rfl | ⟨r, rfl, E⟩
  · exact Or.inl rfl
  · exact Sto.ofV A q O (Ins.self E)
theorem own_fit_ref {v : Value} {C : String} (h : v.isRef = true) : fits (.object C) v = true := by rcases ref_cases h with rfl | ⟨a, rfl⟩ <;> rfl
theorem own_char (a : Int32) (h0 : 0 ≤ a.toInt) (h1 : a.toInt < 65536) : a.toUInt32.toUInt16.toUInt32.toInt32 = a := by
  apply Int32.toBitVec_inj.mp; apply BitVec.eq_of_toNat_eq
  have e : a.toBitVec.toInt = a.toInt := rfl
  rw [← e, BitVec.toInt_eq_toNat_cond] at h0 h1
  show a.toUInt32.toUInt16.toUInt32.toNat = a.toBitVec.toNat
  rw [UInt16.toNat_toUInt32, UInt32.toNat_toUInt16]
  show a.toBitVec.toNat % 2 ^ 16 = _
  split at h0 <;> split at h1 <;> omega
theorem own_lat (p : Int32) : ¬ (255 : Int32) < (nar .char ((p &&& (255 : Int32)).toUInt32.toUInt16.toUInt32.toInt32)) := by
  have m := c_mask p 255 8 (by decide) (by decide)
  rw [own_char _ (by omega) (by omega)]
  show ¬ (255 : Int32) < ((p &&& (255 : Int32)).toUInt32.toUInt16.toUInt32.toInt32)
  rw [own_char _ (by omega) (by omega), Int32.lt_iff_toInt_lt, show (255 : Int32).toInt = 255 from rfl]; omega
theorem own_nz (p : Int32) (h : 1 ≤ p.toInt) : ¬ p = (0 : Int32) := by rintro rfl; exact absurd h (by decide)
theorem own_3 (p : Int32) (h0 : 0 ≤ p.toInt) (h1 : p.toInt ≤ 3) : ((3 : Int32) * p).toInt = 3 * p.toInt := by
  have m := c_imul (3 : Int32) p; have r := rng32 ((3 : Int32) * p); rw [show (3 : Int32).toInt = 3 from rfl] at m; omega
theorem own_3n (p : Int32) (h1 : 1 ≤ p.toInt) (h3 : p.toInt ≤ 3) : ¬ ((3 : Int32) * p) < 0 ∧ ((3 : Int32) * p).toNatClampNeg ≤ 9 := by
  have a := own_3 p (by omega) h3
  have q : ¬ ((3 : Int32) * p) < 0 := by rw [Int32.lt_iff_toInt_lt, show (0 : Int32).toInt = 0 from rfl]; omega
  have := nat_of q; exact ⟨q, by omega⟩
def own_in3 (p nn : Int32) : Prop := (¬ ((((3 : Int32) * p) + (0 : Int32))) < 0 ∧ ((((3 : Int32) * p) + (0 : Int32))) < nn) ∧ (¬ ((((3 : Int32) * p) + (1 : Int32))) < 0 ∧ ((((3 : Int32) * p) + (1 : Int32))) < nn) ∧ (¬ ((((3 : Int32) * p) + (2 : Int32))) < 0 ∧ ((((3 : Int32) * p) + (2 : Int32))) < nn)
theorem own_ix {j n : Int32} {vs : List Value} (h : ¬ j < 0 ∧ j < n) (hl : vs.length = n.toNatClampNeg) : j.toNatClampNeg < vs.length := by
  have a := nat_of h.1
  have b : ¬ n < 0 := by have := h.1; have := h.2; rw [Int32.lt_iff_toInt_lt] at *; omega
  have c := nat_of b; have := h.2; rw [Int32.lt_iff_toInt_lt] at this; omega
def own_slot_ok (p1 p2 p3 nn : Int32) (vs us ws' : List Value) (x : Value) : Prop := p1 < nn → (vs.getD (p1).toNatClampNeg .null = x ∧ ((p1 / (3 : Int32)) = p3 → ws'.getD ((p1 % (3 : Int32))).toNatClampNeg .null = x) ∧ (¬ ((p1 / (3 : Int32)) = p3) → (p1 / (3 : Int32)) = p2 → us.getD ((p1 % (3 : Int32))).toNatClampNeg .null = x) ∧ (¬ ((p1 / (3 : Int32)) = p3) → ¬ ((p1 / (3 : Int32)) = p2) → x = .null))
theorem own_nonneg {p : Int32} (h : 0 ≤ p.toInt) : ¬ p < 0 := by rw [Int32.lt_iff_toInt_lt, show (0 : Int32).toInt = 0 from rfl]; omega
theorem own_rem (p : Int32) (h : 0 ≤ p.toInt) : ¬ (p % (3 : Int32)) < 0 ∧ (p % (3 : Int32)) < (3 : Int32) := by
  have a := (c_irem p 3 3 rfl).1 h
  rw [Int32.lt_iff_toInt_lt, Int32.lt_iff_toInt_lt, show (0 : Int32).toInt = 0 from rfl, show (3 : Int32).toInt = 3 from rfl]; omega
theorem pn_4 : plainName "java/lang/StringUTF16" = true := by first | (simp [plainName, overriddenIn]; done) | decide +kernel
theorem ef_6_v0v01 (m : MethodId) (a0 : Addr) (a2 : Addr) : entryFrame m #[(.ref a0), (.int (0 : Int32)), (.ref a2), (.int (0 : Int32)), (.int (1 : Int32))] 7 = mkF m 0 #[.val (.ref a0), .val (.int 0), .val (.ref a2), .val (.int 0), .val (.int 1), .unset, .unset] [] := by first | (simp [entryFrame, mkF, argsToLocals, Value.category]; done) | rfl
theorem d6_0 : decode jdk_52_method_21_code 0 = .ok (.iconst 0, 1) := by decide +kernel
theorem d6_1 : decode jdk_52_method_21_code 1 = .ok (.istore 5, 2) := by decide +kernel
abbrev own_loc1 (a0 : Addr) (a2 : Addr) : Array Slot := #[.val (.ref a0), .val (.int 0), .val (.ref a2), .val (.int 0), .val (.int 1), .val (.int 0), .unset]
theorem d6_3 : decode jdk_52_method_21_code 3 = .ok (.iload 5, 2) := by decide +kernel
theorem d6_5 : decode jdk_52_method_21_code 5 = .ok (.iload 4, 2) := by decide +kernel
theorem d6_7 : decode jdk_52_method_21_code 7 = .ok (.if_icmp .ge 37, 3) := by decide +kernel
theorem d6_10 : decode jdk_52_method_21_code 10 = .ok (.aload_n 0, 1) := by decide +kernel
theorem d6_11 : decode jdk_52_method_21_code 11 = .ok (.iload_n 1, 1) := by decide +kernel
theorem d6_12 : decode jdk_52_method_21_code 12 = .ok (.caload, 1) := by decide +kernel
theorem d6_13 : decode jdk_52_method_21_code 13 = .ok (.istore 6, 2) := by decide +kernel
abbrev own_loc2 (a0 : Addr) (a2 : Addr) (c0 : Int32) : Array Slot := #[.val (.ref a0), .val (.int 0), .val (.ref a2), .val (.int 0), .val (.int 1), .val (.int 0), .val (.int c0)]
theorem d6_15 : decode jdk_52_method_21_code 15 = .ok (.iload 6, 2) := by decide +kernel
theorem d6_17 : decode jdk_52_method_21_code 17 = .ok (.sipush 255, 3) := by decide +kernel
theorem d6_20 : decode jdk_52_method_21_code 20 = .ok (.if_icmp .le 6, 3) := by decide +kernel
theorem d6_26 : decode jdk_52_method_21_code 26 = .ok (.aload_n 2, 1) := by decide +kernel
theorem d6_27 : decode jdk_52_method_21_code 27 = .ok (.iload_n 3, 1) := by decide +kernel
theorem d6_28 : decode jdk_52_method_21_code 28 = .ok (.iload 6, 2) := by decide +kernel
theorem d6_30 : decode jdk_52_method_21_code 30 = .ok (.i2b, 1) := by decide +kernel
theorem d6_31 : decode jdk_52_method_21_code 31 = .ok (.bastore, 1) := by decide +kernel
theorem d6_32 : decode jdk_52_method_21_code 32 = .ok (.iinc 1 1, 3) := by decide +kernel
abbrev own_loc3 (a0 : Addr) (a2 : Addr) (c0 : Int32) : Array Slot := #[.val (.ref a0), .val (.int 1), .val (.ref a2), .val (.int 0), .val (.int 1), .val (.int 0), .val (.int c0)]
theorem d6_35 : decode jdk_52_method_21_code 35 = .ok (.iinc 3 1, 3) := by decide +kernel
abbrev own_loc4 (a0 : Addr) (a2 : Addr) (c0 : Int32) : Array Slot := #[.val (.ref a0), .val (.int 1), .val (.ref a2), .val (.int 1), .val (.int 1), .val (.int 0), .val (.int c0)]
theorem d6_38 : decode jdk_52_method_21_code 38 = .ok (.iinc 5 1, 3) := by decide +kernel
abbrev own_loc5 (a0 : Addr) (a2 : Addr) (c0 : Int32) : Array Slot := #[.val (.ref a0), .val (.int 1), .val (.ref a2), .val (.int 1), .val (.int 1), .val (.int 1), .val (.int c0)]
theorem d6_41 : decode jdk_52_method_21_code 41 = .ok (.goto (-38), 3) := by decide +kernel
theorem d6_44 : decode jdk_52_method_21_code 44 = .ok (.iload 4, 2) := by decide +kernel
theorem d6_46 : decode jdk_52_method_21_code 46 = .ok (.ireturn, 1) := by decide +kernel
def Q6_l1 (Z : State) (a0 : Addr) (a2 : Addr) (kc : ClassId) (c0 : Int32) (kb : ClassId) (h0 : Heap) (n0 : Nat) (v : Option Value) (h : Heap) (L : List Loc) : Prop := v = some (.int (1 : Int32)) ∧ Fr n0 L ∧ Keep h0 h [a2] ∧ Arv Z h a2 kb .byte (1 : Int32) [(.int (nar .byte (c0.toInt8.toInt32)))] (.int (0 : Int32))
set_option maxRecDepth 65536 in
set_option maxHeartbeats 40000000 in
theorem rm6_l1 (l : Launch) (Z : State) (ag : Array Value) (hw : ∀ d ∈ tables_1, d.before ag Z = true) (ws : List Jvm.Cond) (a0 : Addr) (a2 : Addr) (kc : ClassId) (c0 : Int32) (kb : ClassId) (h0 : Heap) (n0 : Nat) (Z0 : n0 ≤ h0.size) (V_a0 : Arv Z h0 a0 kc .char (1 : Int32) [(.int c0)] (.int (0 : Int32))) (hl_c0 : ¬ (255 : Int32) < c0) (V_a2 : Arv Z h0 a2 kb .byte (1 : Int32) [(.int (0 : Int32))] (.int (0 : Int32))) (ge_a2 : n0 ≤ a2) (ne_a0_a2 : a0 ≠ a2) :
    MetFree l (⟨"java/lang/StringUTF16", "compress", "([CI[BII)I"⟩ : MethodName) (head1 (Jvm.Cond.code (⟨"java/lang/StringUTF16", "compress", "([CI[BII)I"⟩ : MethodName) jdk_52_method_21_code 7 (some .int) :: ws) ({ frames := 0, cells := 0, slots := 0, locals := 0 } : Room)) (fun a U => a = #[(.ref a0), (.int (0 : Int32)), (.ref a2), (.int (0 : Int32)), (.int (1 : Int32))] ∧ Z.Warmed39 U.vm ∧ U.heap = h0) (fun _ _ _ _ _ => True) (fun _ U o U' => ∃ v L, o = .returned v ∧ Q6_l1 Z a0 a2 kc c0 kb h0 n0 v U'.heap L ∧ FrameEnd U o U' L ({ frames := 0, cells := 0, slots := 0, locals := 0 } : Room).cells ({ frames := 0, cells := 0, slots := 0, locals := 0 } : Room).slots) := by
  refine MetFree.of_bodySF (plainFor_of_name pn_4) hisR ?_
  intro p e s m args below meth c s₁ Bd hml0 hP hK
  obtain ⟨rfl, hZ, hh⟩ := hP
  have hx := Bd.exec
  have hby := Bd.bytes
  have hml : c.maxLocals = 7 := hml0
  have hown : s.vm.findClass "java/lang/StringUTF16" = some m.cls := findClass_of_methodNamed Bd.named
  have hnm := (name_of_methodNamed Bd.named Bd.method).1
  have X0 : Stand p l e ({ frames := 0, cells := 0, slots := 0, locals := 0 } : Room) s m #[(.ref a0), (.int (0 : Int32)), (.ref a2), (.int (0 : Int32)), (.int (1 : Int32))] below meth c s₁ [] 0 0 := Stand.of_body Bd
  have e0 : s₁.heap = h0 := by rw [← hh, Bd.state]; rfl
  have N0 := Fr.nil n0
  have pre0 : ∀ t, Steps p.tables e below (s₁.setTop (mkF m 0 #[.val (.ref a0), .val (.int 0), .val (.ref a2), .val (.int 0), .val (.int 1), .unset, .unset] [])) t → Steps p.tables e below (s₁.setTop (entryFrame m #[(.ref a0), (.int (0 : Int32)), (.ref a2), (.int (0 : Int32)), (.int (1 : Int32))] 7)) t := fun t k => castTop (ef_6_v0v01 m a0 a2) k
  obtain ⟨cl1, Ar1, q1, S1, M1, H1, G1⟩ := id V_a0
  have hin1 : ¬ ((0 : Int32) < 0 ∨ cl1.slots.size ≤ ((0 : Int32)).toNatClampNeg) := inb_of S1 ⟨(by decide : ¬ (0 : Int32) < 0), (by decide : (0 : Int32) < (1 : Int32))⟩
  have hat1 : cl1.slots[((0 : Int32)).toNatClampNeg]? = some (.int c0) := Has.at H1 hin1 rfl
  have ld1 := X0.caload hx (j := (0 : Int32)) (v := (.int c0)) (by rw [e0]; exact Ar1.1) (State.isArrayOf_alike hZ.alike Ar1.2.1) Ar1.2.2 hin1 hat1 (g := (mkF m 12 (own_loc1 a0 a2) [.int 0, (.ref a0)])) rfl rfl (hb hby d6_12)
  obtain ⟨cl2, Ar2, q2, S2, M2, H2, G2⟩ := id V_a2
  have hin2 : ¬ ((0 : Int32) < 0 ∨ cl2.slots.size ≤ ((0 : Int32)).toNatClampNeg) := inb_of S2 ⟨(by decide : ¬ (0 : Int32) < 0), (by decide : (0 : Int32) < (1 : Int32))⟩
  obtain ⟨T2, h2, X2, e2, W2, st2⟩ := stB X0 hx hZ e0 Ar2 (j := (0 : Int32)) hin2 (g := (mkF m 31 (own_loc2 a0 a2 c0) [(.int (c0.toInt8.toInt32)), .int 0, (.ref a2)])) rfl rfl (hb hby d6_31)
  have V2 : Arv Z h2 a2 kb .byte (1 : Int32) [(.int (nar .byte (c0.toInt8.toInt32)))] (.int (0 : Int32)) := Arv.set Ar2 q2 S2 M2 H2 G2 (fits_nar_byte _) W2 0 rfl (Nat.le_of_ble_eq_true rfl)
  have x3 := V_a0.other W2 ne_a0_a2
  have sz4 : n0 ≤ h2.size := Nat.le_trans Z0 (Keep.of_wr W2).1
  have kp5 : Keep h0 h2 [a2] := (Keep.refl h0 [a2]).wr W2 (Or.inl (List.mem_of_getElem? (i := 0) rfl))
  have N2 := Fr.snoc X2 N0 ge_a2
  obtain ⟨fs, hr, hrun, hended, hW, hsame⟩ := X2.leave (v := some (.int (1 : Int32))) (fun h => by rw [Bd.returns] at h; cases h)
  refine ⟨_, _, pre0 _ ?_, hrun, hended, _, _, rfl, ?_, ⟨_, rfl⟩, hW, hsame.mono (by decide) (by decide)⟩
  · show own_S p e below s₁ (mkF m 0 #[.val (.ref a0), .val (.int 0), .val (.ref a2), .val (.int 0), .val (.int 1), .unset, .unset] []) _
    refine XS.iconst X0.here hx rfl (hb hby d6_0) ?_
    show own_S p e below s₁ (mkF m 1 #[.val (.ref a0), .val (.int 0), .val (.ref a2), .val (.int 0), .val (.int 1), .unset, .unset] [.int 0]) _
    refine XS.istore X0.here hx rfl (hb hby d6_1) rfl (l' := (own_loc1 a0 a2)) rfl ?_
    show own_S p e below s₁ (mkF m 3 (own_loc1 a0 a2) []) _
    refine XS.iload X0.here hx rfl (hb hby d6_3) rfl ?_
    show own_S p e below s₁ (mkF m 5 (own_loc1 a0 a2) [.int 0]) _
    refine XS.iload X0.here hx rfl (hb hby d6_5) rfl ?_
    show own_S p e below s₁ (mkF m 7 (own_loc1 a0 a2) [.int 1, .int 0]) _
    refine XS.icmpNo X0.here hx rfl (hb hby d6_7) rfl (tlt (by decide : (0 : Int32) < (1 : Int32))).2.1 ?_
    show own_S p e below s₁ (mkF m 10 (own_loc1 a0 a2) []) _
    refine XS.aloadN X0.here hx rfl (hb hby d6_10) rfl rfl ?_
    show own_S p e below s₁ (mkF m 11 (own_loc1 a0 a2) [(.ref a0)]) _
    refine XS.iloadN X0.here hx rfl (hb hby d6_11) rfl ?_
    show own_S p e below s₁ (mkF m 12 (own_loc1 a0 a2) [.int 0, (.ref a0)]) _
    refine ld1 _ ?_
    show own_S p e below s₁ (mkF m 13 (own_loc1 a0 a2) [(.int c0)]) _
    refine XS.istore X0.here hx rfl (hb hby d6_13) rfl (l' := (own_loc2 a0 a2 c0)) rfl ?_
    show own_S p e below s₁ (mkF m 15 (own_loc2 a0 a2 c0) []) _
    refine XS.iload X0.here hx rfl (hb hby d6_15) rfl ?_
    show own_S p e below s₁ (mkF m 17 (own_loc2 a0 a2 c0) [(.int c0)]) _
    refine XS.sipush X0.here hx rfl (hb hby d6_17) ?_
    show own_S p e below s₁ (mkF m 20 (own_loc2 a0 a2 c0) [.int 255, (.int c0)]) _
    refine XS.icmpYes X0.here hx rfl (pc0 := 20) (pc' := 26) rfl (hb hby d6_20) rfl (flt (show ¬ ((255 : Int32) < c0) from hl_c0)).2.2.2 (by decide) (by decide) ?_
    show own_S p e below s₁ (mkF m 26 (own_loc2 a0 a2 c0) []) _
    refine XS.aloadN X0.here hx rfl (hb hby d6_26) rfl rfl ?_
    show own_S p e below s₁ (mkF m 27 (own_loc2 a0 a2 c0) [(.ref a2)]) _
    refine XS.iloadN X0.here hx rfl (hb hby d6_27) rfl ?_
    show own_S p e below s₁ (mkF m 28 (own_loc2 a0 a2 c0) [.int 0, (.ref a2)]) _
    refine XS.iload X0.here hx rfl (hb hby d6_28) rfl ?_
    show own_S p e below s₁ (mkF m 30 (own_loc2 a0 a2 c0) [(.int c0), .int 0, (.ref a2)]) _
    refine XS.i2b X0.here hx rfl (hb hby d6_30) rfl ?_
    show own_S p e below s₁ (mkF m 31 (own_loc2 a0 a2 c0) [(.int (c0.toInt8.toInt32)), .int 0, (.ref a2)]) _
    refine st2 _ ?_
    show own_S p e below T2 (mkF m 32 (own_loc2 a0 a2 c0) []) _
    refine XS.iinc X2.here hx rfl (hb hby d6_32) rfl (l' := (own_loc3 a0 a2 c0)) rfl ?_
    show own_S p e below T2 (mkF m 35 (own_loc3 a0 a2 c0) []) _
    refine XS.iinc X2.here hx rfl (hb hby d6_35) rfl (l' := (own_loc4 a0 a2 c0)) rfl ?_
    show own_S p e below T2 (mkF m 38 (own_loc4 a0 a2 c0) []) _
    refine XS.iinc X2.here hx rfl (hb hby d6_38) rfl (l' := (own_loc5 a0 a2 c0)) rfl ?_
    show own_S p e below T2 (mkF m 41 (own_loc5 a0 a2 c0) []) _
    refine XS.goto X2.here hx rfl (pc0 := 41) (pc' := 3) rfl (hb hby d6_41) (by decide) (by decide) ?_
    show own_S p e below T2 (mkF m 3 (own_loc5 a0 a2 c0) []) _
    refine XS.iload X2.here hx rfl (hb hby d6_3) rfl ?_
    show own_S p e below T2 (mkF m 5 (own_loc5 a0 a2 c0) [.int 1]) _
    refine XS.iload X2.here hx rfl (hb hby d6_5) rfl ?_
    show own_S p e below T2 (mkF m 7 (own_loc5 a0 a2 c0) [.int 1, .int 1]) _
    refine XS.icmpYes X2.here hx rfl (pc0 := 7) (pc' := 44) rfl (hb hby d6_7) rfl (flt (by decide : ¬ ((1 : Int32) < (1 : Int32)))).2.1 (by decide) (by decide) ?_
    show own_S p e below T2 (mkF m 44 (own_loc5 a0 a2 c0) []) _
    refine XS.iload X2.here hx rfl (hb hby d6_44) rfl ?_
    show own_S p e below T2 (mkF m 46 (own_loc5 a0 a2 c0) [.int 1]) _
    exact retI X2 hx Bd.returns (hb hby d6_46) hr
  · show Q6_l1 Z a0 a2 kc c0 kb h0 n0 _ T2.heap _
    rw [e2]
    exact ⟨rfl, N2, kp5, V2⟩
theorem ef_5_v01 (m : MethodId) (a0 : Addr) : entryFrame m #[(.ref a0), (.int (0 : Int32)), (.int (1 : Int32))] 6 = mkF m 0 #[.val (.ref a0), .val (.int 0), .val (.int 1), .unset, .unset, .unset] [] := by first | (simp [entryFrame, mkF, argsToLocals, Value.category]; done) | rfl
theorem d5_0 : decode jdk_52_method_16_code 0 = .ok (.iload_n 2, 1) := by decide +kernel
theorem d5_1 : decode jdk_52_method_16_code 1 = .ok (.newarray .byte, 2) := by decide +kernel
theorem d5_3 : decode jdk_52_method_16_code 3 = .ok (.astore_n 3, 1) := by decide +kernel
theorem d5_4 : decode jdk_52_method_16_code 4 = .ok (.aload_n 0, 1) := by decide +kernel
theorem d5_5 : decode jdk_52_method_16_code 5 = .ok (.iload_n 1, 1) := by decide +kernel
theorem d5_6 : decode jdk_52_method_16_code 6 = .ok (.aload_n 3, 1) := by decide +kernel
theorem d5_7 : decode jdk_52_method_16_code 7 = .ok (.iconst 0, 1) := by decide +kernel
theorem d5_8 : decode jdk_52_method_16_code 8 = .ok (.iload_n 2, 1) := by decide +kernel
theorem pd_7 : parseMethodDescriptor "([CI[BII)I" = some ⟨[(.array .char), .int, (.array .byte), .int, .int], some .int⟩ := by decide +kernel
theorem d5_9 : decode jdk_52_method_16_code 9 = .ok (.invokestatic 115, 3) := by decide +kernel
theorem d5_12 : decode jdk_52_method_16_code 12 = .ok (.istore 4, 2) := by decide +kernel
theorem d5_14 : decode jdk_52_method_16_code 14 = .ok (.iload 4, 2) := by decide +kernel
theorem d5_16 : decode jdk_52_method_16_code 16 = .ok (.iload_n 2, 1) := by decide +kernel
theorem d5_17 : decode jdk_52_method_16_code 17 = .ok (.if_icmp .eq 40, 3) := by decide +kernel
theorem d5_57 : decode jdk_52_method_16_code 57 = .ok (.aload_n 3, 1) := by decide +kernel
theorem d5_58 : decode jdk_52_method_16_code 58 = .ok (.areturn, 1) := by decide +kernel
def Q5_l1 (Z : State) (a0 : Addr) (kc : ClassId) (c0 : Int32) (h0 : Heap) (n0 : Nat) (v : Option Value) (h : Heap) (L : List Loc) : Prop := ∃ (r : Addr) (kb : ClassId), v = some (.ref r) ∧ Fr n0 L ∧ Keep h0 h [] ∧ n0 ≤ r ∧ h0.size ≤ r ∧ Arv Z h r kb .byte (1 : Int32) [(.int (nar .byte (c0.toInt8.toInt32)))] (.int (0 : Int32))
set_option maxRecDepth 65536 in
set_option maxHeartbeats 40000000 in
theorem rm5_l1 (l : Launch) (Z : State) (ag : Array Value) (hw : ∀ d ∈ tables_1, d.before ag Z = true) (ws : List Jvm.Cond) (a0 : Addr) (kc : ClassId) (c0 : Int32) (h0 : Heap) (n0 : Nat) (Z0 : n0 ≤ h0.size) (V_a0 : Arv Z h0 a0 kc .char (1 : Int32) [(.int c0)] (.int (0 : Int32))) (hl_c0 : ¬ (255 : Int32) < c0) :
    MetFree l (⟨"java/lang/StringUTF16", "compress", "([CII)[B"⟩ : MethodName) (head1 (Jvm.Cond.code (⟨"java/lang/StringUTF16", "compress", "([CII)[B"⟩ : MethodName) jdk_52_method_16_code 6 (some (.array .byte)) :: ws) ({ frames := 1, cells := 1, slots := 1, locals := 18 } : Room)) (fun a U => a = #[(.ref a0), (.int (0 : Int32)), (.int (1 : Int32))] ∧ Z.Warmed39 U.vm ∧ U.heap = h0) (fun _ _ _ _ _ => True) (fun _ U o U' => ∃ v L, o = .returned v ∧ Q5_l1 Z a0 kc c0 h0 n0 v U'.heap L ∧ FrameEnd U o U' L ({ frames := 1, cells := 1, slots := 1, locals := 18 } : Room).cells ({ frames := 1, cells := 1, slots := 1, locals := 18 } : Room).slots) := by
  refine MetFree.of_bodySF (plainFor_of_name pn_4) hisR ?_
  intro p e s m args below meth c s₁ Bd hml0 hP hK
  obtain ⟨rfl, hZ, hh⟩ := hP
  have hx := Bd.exec
  have hby := Bd.bytes
  have hml : c.maxLocals = 6 := hml0
  have hown : s.vm.findClass "java/lang/StringUTF16" = some m.cls := findClass_of_methodNamed Bd.named
  have hnm := (name_of_methodNamed Bd.named Bd.method).1
  have X0 : Stand p l e ({ frames := 1, cells := 1, slots := 1, locals := 18 } : Room) s m #[(.ref a0), (.int (0 : Int32)), (.int (1 : Int32))] below meth c s₁ [] 0 0 := Stand.of_body Bd
  have e0 : s₁.heap = h0 := by rw [← hh, Bd.state]; rfl
  have N0 := Fr.nil n0
  have pre0 : ∀ t, Steps p.tables e below (s₁.setTop (mkF m 0 #[.val (.ref a0), .val (.int 0), .val (.int 1), .unset, .unset, .unset] [])) t → Steps p.tables e below (s₁.setTop (entryFrame m #[(.ref a0), (.int (0 : Int32)), (.int (1 : Int32))] 6)) t := fun t k => castTop (ef_5_v01 m a0) k
  obtain ⟨T6, h6, k6, X6, e6, E6, A6, st6⟩ := newP X0 hx hZ (hw _ (List.mem_of_getElem? (i := 25) rfl)) e0 (g := (mkF m 1 #[.val (.ref a0), .val (.int 0), .val (.int 1), .unset, .unset, .unset] [.int 1])) rfl (hb hby d5_1) rfl (by decide) (cap := 1) (by decide) (by decide) (by decide) (by decide)
  obtain ⟨b6, g6⟩ : ∃ z, z = h0.size := ⟨_, rfl⟩
  have ne7 : a0 ≠ b6 := Nat.ne_of_lt (Nat.lt_of_lt_of_le V_a0.lt (Nat.le_of_eq g6.symm))
  have ge_b6 : n0 ≤ b6 := Nat.le_trans Z0 (Nat.le_of_eq g6.symm)
  have gs_b6 : h0.size ≤ b6 := Nat.le_trans (Keep.refl h0 []).1 (Nat.le_of_eq g6.symm)
  rw [← g6] at A6 st6
  have x8 := V_a0.ext E6
  have sz9 : n0 ≤ h6.size := Nat.le_trans Z0 E6.1
  have kp10 : Keep h0 h6 [] := (Keep.refl h0 []).ext E6
  have V6 : Arv Z h6 b6 k6 .byte (1 : Int32) [(.int (0 : Int32))] (.int (0 : Int32)) := (Arv.new A6 (by decide)).pad (pad_rep [] (.int (0 : Int32)) 1)
  obtain ⟨_, _, ⟨T11, L11, k11, n11⟩, -, X11, ⟨Lc11, hQ11, l11, y11, z11⟩, st11⟩ := Jvm.LawKit.callS X6 hx (y := (⟨"java/lang/StringUTF16", "compress", "([CI[BII)I"⟩ : MethodName)) hown (mvT hZ (hw _ (List.mem_of_getElem? (i := 26) rfl))) (mvT hZ (hw _ (List.mem_of_getElem? (i := 27) rfl))) (mvT hZ (hw _ (List.mem_of_getElem? (i := 23) rfl))) (mvT hZ (hw _ (List.mem_of_getElem? (i := 28) rfl))) (by decide) (backOf (W := 0) (rm6_l1 l Z ag hw [] a0 b6 kc c0 k6 h6 n0 sz9 x8 hl_c0 V6 ge_b6 ne7) hZ (hw _ (List.mem_of_getElem? (i := 28) rfl)) (hw _ (List.mem_of_getElem? (i := 23) rfl)) (by decide) (by decide)) (g := (mkF m 9 #[.val (.ref a0), .val (.int 0), .val (.int 1), .val (.ref b6), .unset, .unset] [.int 1, .int 0, (.ref b6), .int 0, (.ref a0)])) rfl (by rw [hml]; rfl) (argsL := [(.ref a0), (.int (0 : Int32)), (.ref b6), (.int (0 : Int32)), (.int (1 : Int32))]) (rest := []) (lenOf pd_7 rfl) rfl (by show 2 * 0 + _ ≤ _; exact Nat.le_of_eq rfl) (hb hby d5_9) (fun _ _ => ⟨rfl, e6, (by decide : 1 + 0 ≤ _), (by decide : 1 + 0 ≤ _)⟩)
  dsimp only [Pt.U, Pt.locs, Pt.cells, Pt.slots] at X11 l11 y11 z11 st11 hQ11
  subst l11 y11 z11
  obtain ⟨rfl, N11q, K11, Vb11⟩ := hQ11
  have N11 := Fr.app N0 N11q
  have x12 := x8.keep K11 (ninS ne7 nin0)
  have sz13 : n0 ≤ T11.heap.size := Nat.le_trans sz9 K11.1
  have kp14 : Keep h0 T11.heap [] := kp10.trans K11 (allS (Or.inr gs_b6) all0)
  obtain ⟨fs, hr, hrun, hended, hW, hsame⟩ := X11.leave (v := some (.ref b6)) (fun h => by rw [Bd.returns] at h; cases h)
  refine ⟨_, _, pre0 _ ?_, hrun, hended, _, _, rfl, ?_, ⟨_, rfl⟩, hW, hsame.mono (by decide) (by decide)⟩
  · show own_S p e below s₁ (mkF m 0 #[.val (.ref a0), .val (.int 0), .val (.int 1), .unset, .unset, .unset] []) _
    refine XS.iloadN X0.here hx rfl (hb hby d5_0) rfl ?_
    show own_S p e below s₁ (mkF m 1 #[.val (.ref a0), .val (.int 0), .val (.int 1), .unset, .unset, .unset] [.int 1]) _
    refine st6 _ ?_
    show own_S p e below T6 (mkF m 3 #[.val (.ref a0), .val (.int 0), .val (.int 1), .unset, .unset, .unset] [(.ref b6)]) _
    refine XS.astoreN X6.here hx rfl (hb hby d5_3) rfl rfl (l' := #[.val (.ref a0), .val (.int 0), .val (.int 1), .val (.ref b6), .unset, .unset]) rfl ?_
    show own_S p e below T6 (mkF m 4 #[.val (.ref a0), .val (.int 0), .val (.int 1), .val (.ref b6), .unset, .unset] []) _
    refine XS.aloadN X6.here hx rfl (hb hby d5_4) rfl rfl ?_
    show own_S p e below T6 (mkF m 5 #[.val (.ref a0), .val (.int 0), .val (.int 1), .val (.ref b6), .unset, .unset] [(.ref a0)]) _
    refine XS.iloadN X6.here hx rfl (hb hby d5_5) rfl ?_
    show own_S p e below T6 (mkF m 6 #[.val (.ref a0), .val (.int 0), .val (.int 1), .val (.ref b6), .unset, .unset] [.int 0, (.ref a0)]) _
    refine XS.aloadN X6.here hx rfl (hb hby d5_6) rfl rfl ?_
    show own_S p e below T6 (mkF m 7 #[.val (.ref a0), .val (.int 0), .val (.int 1), .val (.ref b6), .unset, .unset] [(.ref b6), .int 0, (.ref a0)]) _
    refine XS.iconst X6.here hx rfl (hb hby d5_7) ?_
    show own_S p e below T6 (mkF m 8 #[.val (.ref a0), .val (.int 0), .val (.int 1), .val (.ref b6), .unset, .unset] [.int 0, (.ref b6), .int 0, (.ref a0)]) _
    refine XS.iloadN X6.here hx rfl (hb hby d5_8) rfl ?_
    show own_S p e below T6 (mkF m 9 #[.val (.ref a0), .val (.int 0), .val (.int 1), .val (.ref b6), .unset, .unset] [.int 1, .int 0, (.ref b6), .int 0, (.ref a0)]) _
    refine st11 _ ?_
    show own_S p e below T11 (mkF m 12 #[.val (.ref a0), .val (.int 0), .val (.int 1), .val (.ref b6), .unset, .unset] [.int 1]) _
    refine XS.istore X11.here hx rfl (hb hby d5_12) rfl (l' := #[.val (.ref a0), .val (.int 0), .val (.int 1), .val (.ref b6), .val (.int 1), .unset]) rfl ?_
    show own_S p e below T11 (mkF m 14 #[.val (.ref a0), .val (.int 0), .val (.int 1), .val (.ref b6), .val (.int 1), .unset] []) _
    refine XS.iload X11.here hx rfl (hb hby d5_14) rfl ?_
    show own_S p e below T11 (mkF m 16 #[.val (.ref a0), .val (.int 0), .val (.int 1), .val (.ref b6), .val (.int 1), .unset] [.int 1]) _
    refine XS.iloadN X11.here hx rfl (hb hby d5_16) rfl ?_
    show own_S p e below T11 (mkF m 17 #[.val (.ref a0), .val (.int 0), .val (.int 1), .val (.ref b6), .val (.int 1), .unset] [.int 1, .int 1]) _
    refine XS.icmpYes X11.here hx rfl (pc0 := 17) (pc' := 57) rfl (hb hby d5_17) rfl (teq (by decide : (1 : Int32) = (1 : Int32))).1 (by decide) (by decide) ?_
    show own_S p e below T11 (mkF m 57 #[.val (.ref a0), .val (.int 0), .val (.int 1), .val (.ref b6), .val (.int 1), .unset] []) _
    refine XS.aloadN X11.here hx rfl (hb hby d5_57) rfl rfl ?_
    show own_S p e below T11 (mkF m 58 #[.val (.ref a0), .val (.int 0), .val (.int 1), .val (.ref b6), .val (.int 1), .unset] [(.ref b6)]) _
    exact Jvm.RoadKit.retOut X11 hx Bd.returns rfl (Or.inr (Or.inr (Or.inr (Or.inr ⟨rfl, rfl, rfl⟩)))) (hb hby d5_58) hr
  · show Q5_l1 Z a0 kc c0 h0 n0 _ T11.heap _
    exact ⟨b6, k6, rfl, N11, kp14, ge_b6, gs_b6, Vb11⟩
theorem ef_7_v1 (m : MethodId) (a0 : Addr) : entryFrame m #[(.ref a0), (.int (1 : Int32))] 2 = mkF m 0 #[.val (.ref a0), .val (.int 1)] [] := by first | (simp [entryFrame, mkF, argsToLocals, Value.category]; done) | rfl
theorem d7_0 : decode jdk_52_method_15_code 0 = .ok (.iload_n 1, 1) := by decide +kernel
theorem d7_1 : decode jdk_52_method_15_code 1 = .ok (.aload_n 0, 1) := by decide +kernel
theorem d7_2 : decode jdk_52_method_15_code 2 = .ok (.arraylength, 1) := by decide +kernel
theorem d7_3 : decode jdk_52_method_15_code 3 = .ok (.isub, 1) := by decide +kernel
theorem d7_4 : decode jdk_52_method_15_code 4 = .ok (.bipush 31, 2) := by decide +kernel
theorem d7_6 : decode jdk_52_method_15_code 6 = .ok (.iushr, 1) := by decide +kernel
theorem d7_7 : decode jdk_52_method_15_code 7 = .ok (.i2b, 1) := by decide +kernel
theorem d7_8 : decode jdk_52_method_15_code 8 = .ok (.ireturn, 1) := by decide +kernel
def Q7_l1 (Z : State) (a0 : Addr) (kb : ClassId) (bs : List Value) (h0 : Heap) (n0 : Nat) (v : Option Value) (h : Heap) (L : List Loc) : Prop := v = some (.int (0 : Int32)) ∧ Fr n0 L ∧ h = h0
set_option maxRecDepth 65536 in
set_option maxHeartbeats 40000000 in
theorem rm7_l1 (l : Launch) (Z : State) (ag : Array Value) (hw : ∀ d ∈ tables_1, d.before ag Z = true) (ws : List Jvm.Cond) (a0 : Addr) (kb : ClassId) (bs : List Value) (h0 : Heap) (n0 : Nat) (Z0 : n0 ≤ h0.size) (V_a0 : Arv Z h0 a0 kb .byte (1 : Int32) bs (.int (0 : Int32))) :
    MetFree l (⟨"java/lang/StringUTF16", "coderFromArrayLen", "([BI)B"⟩ : MethodName) (head1 (Jvm.Cond.code (⟨"java/lang/StringUTF16", "coderFromArrayLen", "([BI)B"⟩ : MethodName) jdk_52_method_15_code 2 (some .byte) :: ws) ({ frames := 0, cells := 0, slots := 0, locals := 0 } : Room)) (fun a U => a = #[(.ref a0), (.int (1 : Int32))] ∧ Z.Warmed39 U.vm ∧ U.heap = h0) (fun _ _ _ _ _ => True) (fun _ U o U' => ∃ v L, o = .returned v ∧ Q7_l1 Z a0 kb bs h0 n0 v U'.heap L ∧ FrameEnd U o U' L ({ frames := 0, cells := 0, slots := 0, locals := 0 } : Room).cells ({ frames := 0, cells := 0, slots := 0, locals := 0 } : Room).slots) := by
  refine MetFree.of_bodySF (plainFor_of_name pn_4) hisR ?_
  intro p e s m args below meth c s₁ Bd hml0 hP hK
  obtain ⟨rfl, hZ, hh⟩ := hP
  have hx := Bd.exec
  have hby := Bd.bytes
  have hml : c.maxLocals = 2 := hml0
  have hown : s.vm.findClass "java/lang/StringUTF16" = some m.cls := findClass_of_methodNamed Bd.named
  have hnm := (name_of_methodNamed Bd.named Bd.method).1
  have X0 : Stand p l e ({ frames := 0, cells := 0, slots := 0, locals := 0 } : Room) s m #[(.ref a0), (.int (1 : Int32))] below meth c s₁ [] 0 0 := Stand.of_body Bd
  have e0 : s₁.heap = h0 := by rw [← hh, Bd.state]; rfl
  have N0 := Fr.nil n0
  have pre0 : ∀ t, Steps p.tables e below (s₁.setTop (mkF m 0 #[.val (.ref a0), .val (.int 1)] [])) t → Steps p.tables e below (s₁.setTop (entryFrame m #[(.ref a0), (.int (1 : Int32))] 2)) t := fun t k => castTop (ef_7_v1 m a0) k
  obtain ⟨cl15, Ar15, -, S15, M15, -, -⟩ := id V_a0
  have ld15 := X0.arraylength hx (by rw [e0]; exact Ar15.1) (State.isArrayOf_alike hZ.alike Ar15.2.1) (g := (mkF m 2 #[.val (.ref a0), .val (.int 1)] [(.ref a0), .int 1])) rfl rfl (hb hby d7_2)
  obtain ⟨fs, hr, hrun, hended, hW, hsame⟩ := X0.leave (v := some (.int (nar .byte ((own_ushr ((1 : Int32) - (1 : Int32)) (31 : Int32)).toInt8.toInt32)))) (fun h => by rw [Bd.returns] at h; cases h)
  refine ⟨_, _, pre0 _ ?_, hrun, hended, _, _, rfl, ?_, ⟨_, rfl⟩, hW, hsame.mono (by decide) (by decide)⟩
  · show own_S p e below s₁ (mkF m 0 #[.val (.ref a0), .val (.int 1)] []) _
    refine XS.iloadN X0.here hx rfl (hb hby d7_0) rfl ?_
    show own_S p e below s₁ (mkF m 1 #[.val (.ref a0), .val (.int 1)] [.int 1]) _
    refine XS.aloadN X0.here hx rfl (hb hby d7_1) rfl rfl ?_
    show own_S p e below s₁ (mkF m 2 #[.val (.ref a0), .val (.int 1)] [(.ref a0), .int 1]) _
    refine ld15 _ ?_
    rw [len_of S15 M15]
    show own_S p e below s₁ (mkF m 3 #[.val (.ref a0), .val (.int 1)] [.int 1, .int 1]) _
    refine XS.isub X0.here hx rfl (hb hby d7_3) rfl ?_
    show own_S p e below s₁ (mkF m 4 #[.val (.ref a0), .val (.int 1)] [(.int ((1 : Int32) - (1 : Int32)))]) _
    refine XS.bipush X0.here hx rfl (hb hby d7_4) ?_
    show own_S p e below s₁ (mkF m 6 #[.val (.ref a0), .val (.int 1)] [.int 31, (.int ((1 : Int32) - (1 : Int32)))]) _
    refine XS.iushr X0.here hx rfl (hb hby d7_6) rfl ?_
    show own_S p e below s₁ (mkF m 7 #[.val (.ref a0), .val (.int 1)] [(.int (own_ushr ((1 : Int32) - (1 : Int32)) (31 : Int32)))]) _
    refine XS.i2b X0.here hx rfl (hb hby d7_7) rfl ?_
    show own_S p e below s₁ (mkF m 8 #[.val (.ref a0), .val (.int 1)] [(.int ((own_ushr ((1 : Int32) - (1 : Int32)) (31 : Int32)).toInt8.toInt32))]) _
    exact retN X0 hx (t := .byte) Bd.returns (by simp) (hb hby d7_8) hr
  · show Q7_l1 Z a0 kb bs h0 n0 _ s₁.heap _
    rw [e0]
    exact ⟨congrArg (fun z => some (Value.int z)) (by decide), N0, rfl⟩
theorem pn_3 : plainName "java/lang/String" = true := by first | (simp [plainName, overriddenIn]; done) | decide +kernel
theorem ef_3_vv01n (m : MethodId) (a0 : Addr) (a1 : Addr) : entryFrame m #[(.ref a0), (.ref a1), (.int (0 : Int32)), (.int (1 : Int32)), .null] 6 = mkF m 0 #[.val (.ref a0), .val (.ref a1), .val (.int 0), .val (.int 1), .val .null, .unset] [] := by first | (simp [entryFrame, mkF, argsToLocals, Value.category]; done) | rfl
theorem d3_0 : decode jdk_42_method_149_code 0 = .ok (.aload_n 0, 1) := by decide +kernel
theorem d3_1 : decode jdk_42_method_149_code 1 = .ok (.invokespecial 1, 3) := by decide +kernel
theorem d3_4 : decode jdk_42_method_149_code 4 = .ok (.iload_n 3, 1) := by decide +kernel
theorem d3_5 : decode jdk_42_method_149_code 5 = .ok (.ifCond .ne 22, 3) := by decide +kernel
theorem d3_27 : decode jdk_42_method_149_code 27 = .ok (.getstatic 38, 3) := by decide +kernel
theorem d3_30 : decode jdk_42_method_149_code 30 = .ok (.ifCond .eq 28, 3) := by decide +kernel
theorem d3_33 : decode jdk_42_method_149_code 33 = .ok (.aload_n 1, 1) := by decide +kernel
theorem d3_34 : decode jdk_42_method_149_code 34 = .ok (.iload_n 2, 1) := by decide +kernel
theorem d3_35 : decode jdk_42_method_149_code 35 = .ok (.iload_n 3, 1) := by decide +kernel
theorem pd_5 : parseMethodDescriptor "([CII)[B" = some ⟨[(.array .char), .int, .int], some (.array .byte)⟩ := by decide +kernel
theorem d3_36 : decode jdk_42_method_149_code 36 = .ok (.invokestatic 177, 3) := by decide +kernel
theorem d3_39 : decode jdk_42_method_149_code 39 = .ok (.astore 5, 2) := by decide +kernel
theorem d3_41 : decode jdk_42_method_149_code 41 = .ok (.aload_n 0, 1) := by decide +kernel
theorem d3_42 : decode jdk_42_method_149_code 42 = .ok (.aload 5, 2) := by decide +kernel
theorem d3_44 : decode jdk_42_method_149_code 44 = .ok (.iload_n 3, 1) := by decide +kernel
theorem pd_3 : parseMethodDescriptor "([BI)B" = some ⟨[(.array .byte), .int], some .byte⟩ := by decide +kernel
theorem d3_45 : decode jdk_42_method_149_code 45 = .ok (.invokestatic 47, 3) := by decide +kernel
theorem d3_48 : decode jdk_42_method_149_code 48 = .ok (.putfield 15, 3) := by decide +kernel
theorem d3_51 : decode jdk_42_method_149_code 51 = .ok (.aload_n 0, 1) := by decide +kernel
theorem d3_52 : decode jdk_42_method_149_code 52 = .ok (.aload 5, 2) := by decide +kernel
theorem d3_54 : decode jdk_42_method_149_code 54 = .ok (.putfield 9, 3) := by decide +kernel
theorem d3_57 : decode jdk_42_method_149_code 57 = .ok (.return_, 1) := by decide +kernel
def Q3_l1 (Z : State) (a0 : Addr) (a1 : Addr) (kc : ClassId) (c0 : Int32) (cs : Int32) (h0 : Heap) (n0 : Nat) (v : Option Value) (h : Heap) (L : List Loc) : Prop := v = none ∧ Fr n0 L ∧ Keep h0 h [a0] ∧ ∃ (b : Addr) (kb : ClassId), n0 ≤ b ∧ h0.size ≤ b ∧ Fld Z h a0 "java/lang/String" "value" "[B" (.ref b) ∧ Fld Z h a0 "java/lang/String" "coder" "B" (.int (0 : Int32)) ∧ Arv Z h b kb .byte (1 : Int32) [(.int (nar .byte (c0.toInt8.toInt32)))] (.int (0 : Int32))
set_option maxRecDepth 65536 in
set_option maxHeartbeats 40000000 in
theorem rm3_l1 (l : Launch) (Z : State) (ag : Array Value) (hw : ∀ d ∈ tables_1, d.before ag Z = true) (ws : List Jvm.Cond) (a0 : Addr) (a1 : Addr) (kc : ClassId) (c0 : Int32) (cs : Int32) (h0 : Heap) (n0 : Nat) (Z0 : n0 ≤ h0.size) (E_a0 : Exa Z h0 a0 "java/lang/String") (F_value_a0 : Fld Z h0 a0 "java/lang/String" "value" "[B" .null) (F_coder_a0 : Fld Z h0 a0 "java/lang/String" "coder" "B" (.int (0 : Int32))) (ge_a0 : n0 ≤ a0) (ne_a0_a1 : a0 ≠ a1) (O_ : Old Z n0 h0) (S_cs : Sta Z Z.heap "java/lang/String" "COMPACT_STRINGS" "Z" (.int cs)) (hcs : ¬ cs = (0 : Int32)) (V_a1 : Arv Z h0 a1 kc .char (1 : Int32) [(.int c0)] (.int (0 : Int32))) (hl_c0 : ¬ (255 : Int32) < c0) :
    MetFree l (⟨"java/lang/String", "<init>", "([CIILjava/lang/Void;)V"⟩ : MethodName) (head1 (Jvm.Cond.code (⟨"java/lang/String", "<init>", "([CIILjava/lang/Void;)V"⟩ : MethodName) jdk_42_method_149_code 6 none :: ws) ({ frames := 2, cells := 1, slots := 1, locals := 35 } : Room)) (fun a U => a = #[(.ref a0), (.ref a1), (.int (0 : Int32)), (.int (1 : Int32)), .null] ∧ Z.Warmed39 U.vm ∧ U.heap = h0) (fun _ _ _ _ _ => True) (fun _ U o U' => ∃ v L, o = .returned v ∧ Q3_l1 Z a0 a1 kc c0 cs h0 n0 v U'.heap L ∧ FrameEnd U o U' L ({ frames := 2, cells := 1, slots := 1, locals := 35 } : Room).cells ({ frames := 2, cells := 1, slots := 1, locals := 35 } : Room).slots) := by
  refine MetFree.of_bodySF (plainFor_of_name pn_3) hisR ?_
  intro p e s m args below meth c s₁ Bd hml0 hP hK
  obtain ⟨rfl, hZ, hh⟩ := hP
  have hx := Bd.exec
  have hby := Bd.bytes
  have hml : c.maxLocals = 6 := hml0
  have hown : s.vm.findClass "java/lang/String" = some m.cls := findClass_of_methodNamed Bd.named
  have hnm := (name_of_methodNamed Bd.named Bd.method).1
  have X0 : Stand p l e ({ frames := 2, cells := 1, slots := 1, locals := 35 } : Room) s m #[(.ref a0), (.ref a1), (.int (0 : Int32)), (.int (1 : Int32)), .null] below meth c s₁ [] 0 0 := Stand.of_body Bd
  have e0 : s₁.heap = h0 := by rw [← hh, Bd.state]; rfl
  have N0 := Fr.nil n0
  have pre0 : ∀ t, Steps p.tables e below (s₁.setTop (mkF m 0 #[.val (.ref a0), .val (.ref a1), .val (.int 0), .val (.int 1), .val .null, .unset] [])) t → Steps p.tables e below (s₁.setTop (entryFrame m #[(.ref a0), (.ref a1), (.int (0 : Int32)), (.int (1 : Int32)), .null] 6)) t := fun t k => castTop (ef_3_vv01n m a0 a1) k
  obtain ⟨T16, X16, e16, st16⟩ := initO X0 hx hZ hown (hw _ (List.mem_of_getElem? (i := 17) rfl)) (hw _ (List.mem_of_getElem? (i := 18) rfl)) (hw _ (List.mem_of_getElem? (i := 19) rfl)) e0 (g := (mkF m 1 #[.val (.ref a0), .val (.ref a1), .val (.int 0), .val (.int 1), .val .null, .unset] [(.ref a0)])) rfl (by rw [hml]; rfl) rfl (hb hby d3_1) (by decide) (W := 0) (by show 2 * 0 + _ ≤ _; exact Nat.le_of_eq rfl) (by decide)
  obtain ⟨T17, X17, e17, st17⟩ := getS2 X16 hx hZ hown (host := "") (Or.inl (hw _ (List.mem_of_getElem? (i := 20) rfl))) Via.refl e16 (Sta.ext O_.2 S_cs) (g := (mkF m 27 #[.val (.ref a0), .val (.ref a1), .val (.int 0), .val (.int 1), .val .null, .unset] [])) rfl (hb hby d3_27)
  obtain ⟨_, _, ⟨T18, L18, k18, n18⟩, -, X18, ⟨Lc18, hQ18, l18, y18, z18⟩, st18⟩ := Jvm.LawKit.callS X17 hx (y := (⟨"java/lang/StringUTF16", "compress", "([CII)[B"⟩ : MethodName)) hown (mvT hZ (hw _ (List.mem_of_getElem? (i := 21) rfl))) (mvT hZ (hw _ (List.mem_of_getElem? (i := 22) rfl))) (mvT hZ (hw _ (List.mem_of_getElem? (i := 23) rfl))) (mvT hZ (hw _ (List.mem_of_getElem? (i := 24) rfl))) (by decide) (backOf (W := 0) (rm5_l1 l Z ag hw [] a1 kc c0 h0 n0 Z0 V_a1 hl_c0) hZ (hw _ (List.mem_of_getElem? (i := 24) rfl)) (hw _ (List.mem_of_getElem? (i := 23) rfl)) (by decide) (by decide)) (g := (mkF m 36 #[.val (.ref a0), .val (.ref a1), .val (.int 0), .val (.int 1), .val .null, .unset] [.int 1, .int 0, (.ref a1)])) rfl (by rw [hml]; rfl) (argsL := [(.ref a1), (.int (0 : Int32)), (.int (1 : Int32))]) (rest := []) (lenOf pd_5 rfl) rfl (by show 2 * 0 + _ ≤ _; exact Nat.le_of_eq rfl) (hb hby d3_36) (fun _ _ => ⟨rfl, e17, (by decide : 0 + 1 ≤ _), (by decide : 0 + 1 ≤ _)⟩)
  dsimp only [Pt.U, Pt.locs, Pt.cells, Pt.slots] at X18 l18 y18 z18 st18 hQ18
  subst l18 y18 z18
  obtain ⟨r18, kr18, rfl, N18q, K18, ge_r18, gq_r18, Vr18⟩ := hQ18
  have N18 := Fr.app N0 N18q
  have ne19 : a0 ≠ r18 := Nat.ne_of_lt (Nat.lt_of_lt_of_le E_a0.lt gq_r18)
  have ne20 : a1 ≠ r18 := Nat.ne_of_lt (Nat.lt_of_lt_of_le V_a1.lt gq_r18)
  have gs_r18 : h0.size ≤ r18 := Nat.le_trans (Keep.refl h0 [a0]).1 gq_r18
  have x21 := E_a0.keep K18
  have x22 := F_value_a0.keep K18 nin0
  have x23 := F_coder_a0.keep K18 nin0
  have x24 := O_.keep K18 all0
  have x25 := V_a1.keep K18 nin0
  have sz26 : n0 ≤ T18.heap.size := Nat.le_trans Z0 K18.1
  have kp27 : Keep h0 T18.heap [a0] := (Keep.refl h0 [a0]).trans K18 all0
  have cp28 : ∀ target, own_S p e below T18 (mkF m 45 #[.val (.ref a0), .val (.ref a1), .val (.int 0), .val (.int 1), .val .null, .val (.ref r18)] [.int 1, (.ref r18), (.ref a0)]) target → own_S p e below s₁ (mkF m 0 #[.val (.ref a0), .val (.ref a1), .val (.int 0), .val (.int 1), .val .null, .unset] []) target := by
    intro target kt
    show own_S p e below s₁ (mkF m 0 #[.val (.ref a0), .val (.ref a1), .val (.int 0), .val (.int 1), .val .null, .unset] []) _
    refine XS.aloadN X0.here hx rfl (hb hby d3_0) rfl rfl ?_
    show own_S p e below s₁ (mkF m 1 #[.val (.ref a0), .val (.ref a1), .val (.int 0), .val (.int 1), .val .null, .unset] [(.ref a0)]) _
    refine st16 _ ?_
    show own_S p e below T16 (mkF m 4 #[.val (.ref a0), .val (.ref a1), .val (.int 0), .val (.int 1), .val .null, .unset] []) _
    refine XS.iloadN X16.here hx rfl (hb hby d3_4) rfl ?_
    show own_S p e below T16 (mkF m 5 #[.val (.ref a0), .val (.ref a1), .val (.int 0), .val (.int 1), .val .null, .unset] [.int 1]) _
    refine XS.ifYes X16.here hx rfl (pc0 := 5) (pc' := 27) rfl (hb hby d3_5) rfl ((if0 _ _).trans (feq (by decide : ¬ ((1 : Int32) = (0 : Int32)))).2) (by decide) (by decide) ?_
    show own_S p e below T16 (mkF m 27 #[.val (.ref a0), .val (.ref a1), .val (.int 0), .val (.int 1), .val .null, .unset] []) _
    refine st17 _ ?_
    show own_S p e below T17 (mkF m 30 #[.val (.ref a0), .val (.ref a1), .val (.int 0), .val (.int 1), .val .null, .unset] [(.int cs)]) _
    refine XS.ifNo X17.here hx rfl (hb hby d3_30) rfl ((if0 _ _).trans (feq (show ¬ (cs = (0 : Int32)) from hcs)).1) ?_
    show own_S p e below T17 (mkF m 33 #[.val (.ref a0), .val (.ref a1), .val (.int 0), .val (.int 1), .val .null, .unset] []) _
    refine XS.aloadN X17.here hx rfl (hb hby d3_33) rfl rfl ?_
    show own_S p e below T17 (mkF m 34 #[.val (.ref a0), .val (.ref a1), .val (.int 0), .val (.int 1), .val .null, .unset] [(.ref a1)]) _
    refine XS.iloadN X17.here hx rfl (hb hby d3_34) rfl ?_
    show own_S p e below T17 (mkF m 35 #[.val (.ref a0), .val (.ref a1), .val (.int 0), .val (.int 1), .val .null, .unset] [.int 0, (.ref a1)]) _
    refine XS.iloadN X17.here hx rfl (hb hby d3_35) rfl ?_
    show own_S p e below T17 (mkF m 36 #[.val (.ref a0), .val (.ref a1), .val (.int 0), .val (.int 1), .val .null, .unset] [.int 1, .int 0, (.ref a1)]) _
    refine st18 _ ?_
    show own_S p e below T18 (mkF m 39 #[.val (.ref a0), .val (.ref a1), .val (.int 0), .val (.int 1), .val .null, .unset] [(.ref r18)]) _
    refine XS.astore X18.here hx rfl (hb hby d3_39) rfl rfl (l' := #[.val (.ref a0), .val (.ref a1), .val (.int 0), .val (.int 1), .val .null, .val (.ref r18)]) rfl ?_
    show own_S p e below T18 (mkF m 41 #[.val (.ref a0), .val (.ref a1), .val (.int 0), .val (.int 1), .val .null, .val (.ref r18)] []) _
    refine XS.aloadN X18.here hx rfl (hb hby d3_41) rfl rfl ?_
    show own_S p e below T18 (mkF m 42 #[.val (.ref a0), .val (.ref a1), .val (.int 0), .val (.int 1), .val .null, .val (.ref r18)] [(.ref a0)]) _
    refine XS.aload X18.here hx rfl (hb hby d3_42) rfl rfl ?_
    show own_S p e below T18 (mkF m 44 #[.val (.ref a0), .val (.ref a1), .val (.int 0), .val (.int 1), .val .null, .val (.ref r18)] [(.ref r18), (.ref a0)]) _
    refine XS.iloadN X18.here hx rfl (hb hby d3_44) rfl ?_
    exact kt
  obtain ⟨_, _, ⟨T29, L29, k29, n29⟩, -, X29, ⟨Lc29, hQ29, l29, y29, z29⟩, st29⟩ := Jvm.LawKit.callS X18 hx (y := (⟨"java/lang/StringUTF16", "coderFromArrayLen", "([BI)B"⟩ : MethodName)) hown (mvT hZ (hw _ (List.mem_of_getElem? (i := 29) rfl))) (mvT hZ (hw _ (List.mem_of_getElem? (i := 30) rfl))) (mvT hZ (hw _ (List.mem_of_getElem? (i := 23) rfl))) (mvT hZ (hw _ (List.mem_of_getElem? (i := 31) rfl))) (by decide) (backOf (W := 1) (rm7_l1 l Z ag hw [] r18 kr18 [(.int (nar .byte (c0.toInt8.toInt32)))] T18.heap n0 sz26 Vr18) hZ (hw _ (List.mem_of_getElem? (i := 31) rfl)) (hw _ (List.mem_of_getElem? (i := 23) rfl)) (by decide) (by decide)) (g := (mkF m 45 #[.val (.ref a0), .val (.ref a1), .val (.int 0), .val (.int 1), .val .null, .val (.ref r18)] [.int 1, (.ref r18), (.ref a0)])) rfl (by rw [hml]; rfl) (argsL := [(.ref r18), (.int (1 : Int32))]) (rest := [(.ref a0)]) (lenOf pd_3 rfl) rfl (by show 2 * 0 + _ ≤ _; exact Nat.le_of_eq rfl) (hb hby d3_45) (fun _ _ => ⟨rfl, rfl, (by decide : 1 + 0 ≤ _), (by decide : 1 + 0 ≤ _)⟩)
  dsimp only [Pt.U, Pt.locs, Pt.cells, Pt.slots] at X29 l29 y29 z29 st29 hQ29
  subst l29 y29 z29
  obtain ⟨rfl, N29q, e29⟩ := hQ29
  have N29 := Fr.app N18 N29q
  obtain ⟨T30, h30, X30, e30, W30, st30⟩ := putFN X29 hx hZ hown (hw _ (List.mem_of_getElem? (i := 32) rfl)) Via.refl e29 x23 x21 (Or.inr ⟨(hw _ (List.mem_of_getElem? (i := 33) rfl)), rfl, hnm⟩) (hw _ (List.mem_of_getElem? (i := 8) rfl)) (ty := .byte) (v' := (.int (0 : Int32))) (by decide) rfl (fits_nar_byte (0 : Int32)) (g := (mkF m 48 #[.val (.ref a0), .val (.ref a1), .val (.int 0), .val (.int 1), .val .null, .val (.ref r18)] [.int 0, (.ref a0)])) rfl rfl (hb hby d3_48)
  have Fw30 := x23.same W30
  have x31 := x21.wr W30
  have x32 := x22.other W30 (Or.inr (slot_ne (Or.inr (hw _ (List.mem_of_getElem? (i := 35) rfl))) (Or.inr (hw _ (List.mem_of_getElem? (i := 33) rfl))) (by decide) (t := (.array .byte)) (t' := .byte) (by decide) (by decide)))
  have x33 := x24.wr W30 ge_a0
  have x34 := x25.other W30 (Ne.symm ne_a0_a1)
  have x35 := Vr18.other W30 (Ne.symm ne19)
  have sz36 : n0 ≤ h30.size := Nat.le_trans sz26 (Keep.of_wr W30).1
  have kp37 : Keep h0 h30 [a0] := kp27.wr W30 (Or.inl (List.mem_of_getElem? (i := 0) rfl))
  have N30 := Fr.snoc X30 N29 ge_a0
  obtain ⟨T38, h38, X38, e38, W38, st38⟩ := putF X30 hx hZ hown (host := "") (Or.inl (hw _ (List.mem_of_getElem? (i := 34) rfl))) Via.refl e30 x32 x31 (Or.inr ⟨(hw _ (List.mem_of_getElem? (i := 35) rfl)), rfl, hnm⟩) (hw _ (List.mem_of_getElem? (i := 8) rfl)) (ty := (.array .byte)) (by decide) rfl rfl (g := (mkF m 54 #[.val (.ref a0), .val (.ref a1), .val (.int 0), .val (.int 1), .val .null, .val (.ref r18)] [(.ref r18), (.ref a0)])) rfl rfl (hb hby d3_54)
  have Fw38 := x32.same W38
  have x39 := x31.wr W38
  have x40 := x33.wr W38 ge_a0
  have x41 := x34.other W38 (Ne.symm ne_a0_a1)
  have x42 := x35.other W38 (Ne.symm ne19)
  have x43 := Fw30.other W38 (Or.inr (slot_ne (Or.inr (hw _ (List.mem_of_getElem? (i := 33) rfl))) (Or.inr (hw _ (List.mem_of_getElem? (i := 35) rfl))) (by decide) (t := .byte) (t' := (.array .byte)) (by decide) (by decide)))
  have sz44 : n0 ≤ h38.size := Nat.le_trans sz36 (Keep.of_wr W38).1
  have kp45 : Keep h0 h38 [a0] := kp37.wr W38 (Or.inl (List.mem_of_getElem? (i := 0) rfl))
  have N38 := Fr.snoc X38 N30 ge_a0
  obtain ⟨fs, hr, hrun, hended, hW, hsame⟩ := X38.leave (v := none) (fun _ => rfl)
  refine ⟨_, _, pre0 _ ?_, hrun, hended, _, _, rfl, ?_, ⟨_, rfl⟩, hW, hsame.mono (by decide) (by decide)⟩
  · show own_S p e below s₁ (mkF m 0 #[.val (.ref a0), .val (.ref a1), .val (.int 0), .val (.int 1), .val .null, .unset] []) _
    refine cp28 _ ?_
    show own_S p e below T18 (mkF m 45 #[.val (.ref a0), .val (.ref a1), .val (.int 0), .val (.int 1), .val .null, .val (.ref r18)] [.int 1, (.ref r18), (.ref a0)]) _
    refine st29 _ ?_
    show own_S p e below T29 (mkF m 48 #[.val (.ref a0), .val (.ref a1), .val (.int 0), .val (.int 1), .val .null, .val (.ref r18)] [.int 0, (.ref a0)]) _
    refine st30 _ ?_
    show own_S p e below T30 (mkF m 51 #[.val (.ref a0), .val (.ref a1), .val (.int 0), .val (.int 1), .val .null, .val (.ref r18)] []) _
    refine XS.aloadN X30.here hx rfl (hb hby d3_51) rfl rfl ?_
    show own_S p e below T30 (mkF m 52 #[.val (.ref a0), .val (.ref a1), .val (.int 0), .val (.int 1), .val .null, .val (.ref r18)] [(.ref a0)]) _
    refine XS.aload X30.here hx rfl (hb hby d3_52) rfl rfl ?_
    show own_S p e below T30 (mkF m 54 #[.val (.ref a0), .val (.ref a1), .val (.int 0), .val (.int 1), .val .null, .val (.ref r18)] [(.ref r18), (.ref a0)]) _
    refine st38 _ ?_
    show own_S p e below T38 (mkF m 57 #[.val (.ref a0), .val (.ref a1), .val (.int 0), .val (.int 1), .val .null, .val (.ref r18)] []) _
    exact X38.returnOut hx Bd.returns (hb hby d3_57) hr
  · show Q3_l1 Z a0 a1 kc c0 cs h0 n0 _ T38.heap _
    rw [e38]
    exact ⟨rfl, N38, kp45, r18, kr18, ge_r18, gs_r18, Fw38, x43, x42⟩
theorem ef_2 (m : MethodId) (a0 : Addr) (a1 : Addr) : entryFrame m #[(.ref a0), (.ref a1)] 2 = mkF m 0 #[.val (.ref a0), .val (.ref a1)] [] := by first | (simp [entryFrame, mkF, argsToLocals, Value.category]; done) | rfl
theorem d2_0 : decode jdk_42_method_3_code 0 = .ok (.aload_n 0, 1) := by decide +kernel
theorem d2_1 : decode jdk_42_method_3_code 1 = .ok (.aload_n 1, 1) := by decide +kernel
theorem d2_2 : decode jdk_42_method_3_code 2 = .ok (.iconst 0, 1) := by decide +kernel
theorem d2_3 : decode jdk_42_method_3_code 3 = .ok (.aload_n 1, 1) := by decide +kernel
theorem d2_4 : decode jdk_42_method_3_code 4 = .ok (.arraylength, 1) := by decide +kernel
theorem d2_5 : decode jdk_42_method_3_code 5 = .ok (.aconst_null, 1) := by decide +kernel
theorem pd_6 : parseMethodDescriptor "([CIILjava/lang/Void;)V" = some ⟨[(.array .char), .int, .int, (.object "java/lang/Void")], none⟩ := by decide +kernel
theorem d2_6 : decode jdk_42_method_3_code 6 = .ok (.invokespecial 27, 3) := by decide +kernel
theorem d2_9 : decode jdk_42_method_3_code 9 = .ok (.return_, 1) := by decide +kernel
def Q2_l1 (Z : State) (a0 : Addr) (a1 : Addr) (kc : ClassId) (c0 : Int32) (cs : Int32) (h0 : Heap) (n0 : Nat) (v : Option Value) (h : Heap) (L : List Loc) : Prop := v = none ∧ Fr n0 L ∧ Keep h0 h [a0] ∧ ∃ (b : Addr) (kb : ClassId), n0 ≤ b ∧ h0.size ≤ b ∧ Fld Z h a0 "java/lang/String" "value" "[B" (.ref b) ∧ Fld Z h a0 "java/lang/String" "coder" "B" (.int (0 : Int32)) ∧ Arv Z h b kb .byte (1 : Int32) [(.int (nar .byte (c0.toInt8.toInt32)))] (.int (0 : Int32))
set_option maxRecDepth 65536 in
set_option maxHeartbeats 40000000 in
theorem rm2_l1 (l : Launch) (Z : State) (ag : Array Value) (hw : ∀ d ∈ tables_1, d.before ag Z = true) (ws : List Jvm.Cond) (a0 : Addr) (a1 : Addr) (kc : ClassId) (c0 : Int32) (cs : Int32) (h0 : Heap) (n0 : Nat) (Z0 : n0 ≤ h0.size) (E_a0 : Exa Z h0 a0 "java/lang/String") (F_value_a0 : Fld Z h0 a0 "java/lang/String" "value" "[B" .null) (F_coder_a0 : Fld Z h0 a0 "java/lang/String" "coder" "B" (.int (0 : Int32))) (ge_a0 : n0 ≤ a0) (ne_a0_a1 : a0 ≠ a1) (O_ : Old Z n0 h0) (S_cs : Sta Z Z.heap "java/lang/String" "COMPACT_STRINGS" "Z" (.int cs)) (hcs : ¬ cs = (0 : Int32)) (V_a1 : Arv Z h0 a1 kc .char (1 : Int32) [(.int c0)] (.int (0 : Int32))) (hl_c0 : ¬ (255 : Int32) < c0) :
    MetFree l (⟨"java/lang/String", "<init>", "([C)V"⟩ : MethodName) (head1 (Jvm.Cond.code (⟨"java/lang/String", "<init>", "([C)V"⟩ : MethodName) jdk_42_method_3_code 2 none :: ws) ({ frames := 3, cells := 1, slots := 1, locals := 52 } : Room)) (fun a U => a = #[(.ref a0), (.ref a1)] ∧ Z.Warmed39 U.vm ∧ U.heap = h0) (fun _ _ _ _ _ => True) (fun _ U o U' => ∃ v L, o = .returned v ∧ Q2_l1 Z a0 a1 kc c0 cs h0 n0 v U'.heap L ∧ FrameEnd U o U' L ({ frames := 3, cells := 1, slots := 1, locals := 52 } : Room).cells ({ frames := 3, cells := 1, slots := 1, locals := 52 } : Room).slots) := by
  refine MetFree.of_bodySF (plainFor_of_name pn_3) hisR ?_
  intro p e s m args below meth c s₁ Bd hml0 hP hK
  obtain ⟨rfl, hZ, hh⟩ := hP
  have hx := Bd.exec
  have hby := Bd.bytes
  have hml : c.maxLocals = 2 := hml0
  have hown : s.vm.findClass "java/lang/String" = some m.cls := findClass_of_methodNamed Bd.named
  have hnm := (name_of_methodNamed Bd.named Bd.method).1
  have X0 : Stand p l e ({ frames := 3, cells := 1, slots := 1, locals := 52 } : Room) s m #[(.ref a0), (.ref a1)] below meth c s₁ [] 0 0 := Stand.of_body Bd
  have e0 : s₁.heap = h0 := by rw [← hh, Bd.state]; rfl
  have N0 := Fr.nil n0
  have pre0 : ∀ t, Steps p.tables e below (s₁.setTop (mkF m 0 #[.val (.ref a0), .val (.ref a1)] [])) t → Steps p.tables e below (s₁.setTop (entryFrame m #[(.ref a0), (.ref a1)] 2)) t := fun t k => castTop (ef_2 m a0 a1) k
  obtain ⟨cl46, Ar46, -, S46, M46, -, -⟩ := id V_a1
  have ld46 := X0.arraylength hx (by rw [e0]; exact Ar46.1) (State.isArrayOf_alike hZ.alike Ar46.2.1) (g := (mkF m 4 #[.val (.ref a0), .val (.ref a1)] [(.ref a1), .int 0, (.ref a1), (.ref a0)])) rfl rfl (hb hby d2_4)
  obtain ⟨_, _, ⟨T47, L47, k47, n47⟩, -, X47, ⟨Lc47, hQ47, l47, y47, z47⟩, st47⟩ := X0.specialBack hx (y := (⟨"java/lang/String", "<init>", "([CIILjava/lang/Void;)V"⟩ : MethodName)) rfl hown (mvT hZ (hw _ (List.mem_of_getElem? (i := 13) rfl))) (mvT hZ (hw _ (List.mem_of_getElem? (i := 14) rfl))) (mvT hZ (hw _ (List.mem_of_getElem? (i := 16) rfl))) (by decide) (backOf (W := 0) (rm3_l1 l Z ag hw [] a0 a1 kc c0 cs h0 n0 Z0 E_a0 F_value_a0 F_coder_a0 ge_a0 ne_a0_a1 O_ S_cs hcs V_a1 hl_c0) hZ (hw _ (List.mem_of_getElem? (i := 16) rfl)) (hw _ (List.mem_of_getElem? (i := 9) rfl)) (by decide) (by decide)) (g := (mkF m 6 #[.val (.ref a0), .val (.ref a1)] [.null, .int 1, .int 0, (.ref a1), (.ref a0)])) rfl (by rw [hml]; rfl) (Steps.refl _) (a := a0) (argsL := [(.ref a1), (.int (0 : Int32)), (.int (1 : Int32)), .null]) (rest := []) (lenOf pd_6 rfl) rfl (by show 2 * 0 + _ ≤ _; exact Nat.le_of_eq rfl) (hb hby d2_6) (fun _ _ => ⟨rfl, e0, (by decide : 0 + 1 ≤ _), (by decide : 0 + 1 ≤ _)⟩)
  dsimp only [Pt.U, Pt.locs, Pt.cells, Pt.slots] at X47 l47 y47 z47 st47 hQ47
  subst l47 y47 z47
  obtain ⟨rfl, N47q, K47, rb47, kr47, ge_rb47, gq_rb47, Fv47, Fc47, Vr47⟩ := hQ47
  have N47 := Fr.app N0 N47q
  have ne48 : a0 ≠ rb47 := Nat.ne_of_lt (Nat.lt_of_lt_of_le E_a0.lt gq_rb47)
  have ne49 : a1 ≠ rb47 := Nat.ne_of_lt (Nat.lt_of_lt_of_le V_a1.lt gq_rb47)
  have gs_rb47 : h0.size ≤ rb47 := Nat.le_trans (Keep.refl h0 [a0]).1 gq_rb47
  have x50 := E_a0.keep K47
  have x51 := O_.keep K47 (allS ge_a0 all0)
  have x52 := V_a1.keep K47 (ninS (Ne.symm ne_a0_a1) nin0)
  have sz53 : n0 ≤ T47.heap.size := Nat.le_trans Z0 K47.1
  have kp54 : Keep h0 T47.heap [a0] := (Keep.refl h0 [a0]).trans K47 (allS (Or.inl (List.mem_of_getElem? (i := 0) rfl)) all0)
  obtain ⟨fs, hr, hrun, hended, hW, hsame⟩ := X47.leave (v := none) (fun _ => rfl)
  refine ⟨_, _, pre0 _ ?_, hrun, hended, _, _, rfl, ?_, ⟨_, rfl⟩, hW, hsame.mono (by decide) (by decide)⟩
  · show own_S p e below s₁ (mkF m 0 #[.val (.ref a0), .val (.ref a1)] []) _
    refine XS.aloadN X0.here hx rfl (hb hby d2_0) rfl rfl ?_
    show own_S p e below s₁ (mkF m 1 #[.val (.ref a0), .val (.ref a1)] [(.ref a0)]) _
    refine XS.aloadN X0.here hx rfl (hb hby d2_1) rfl rfl ?_
    show own_S p e below s₁ (mkF m 2 #[.val (.ref a0), .val (.ref a1)] [(.ref a1), (.ref a0)]) _
    refine XS.iconst X0.here hx rfl (hb hby d2_2) ?_
    show own_S p e below s₁ (mkF m 3 #[.val (.ref a0), .val (.ref a1)] [.int 0, (.ref a1), (.ref a0)]) _
    refine XS.aloadN X0.here hx rfl (hb hby d2_3) rfl rfl ?_
    show own_S p e below s₁ (mkF m 4 #[.val (.ref a0), .val (.ref a1)] [(.ref a1), .int 0, (.ref a1), (.ref a0)]) _
    refine ld46 _ ?_
    rw [len_of S46 M46]
    show own_S p e below s₁ (mkF m 5 #[.val (.ref a0), .val (.ref a1)] [.int 1, .int 0, (.ref a1), (.ref a0)]) _
    refine XS.aconstNull X0.here hx rfl (hb hby d2_5) ?_
    show own_S p e below s₁ (mkF m 6 #[.val (.ref a0), .val (.ref a1)] [.null, .int 1, .int 0, (.ref a1), (.ref a0)]) _
    refine st47.trans ?_
    show own_S p e below T47 (mkF m 9 #[.val (.ref a0), .val (.ref a1)] []) _
    exact X47.returnOut hx Bd.returns (hb hby d2_9) hr
  · show Q2_l1 Z a0 a1 kc c0 cs h0 n0 _ T47.heap _
    exact ⟨rfl, N47, kp54, rb47, kr47, ge_rb47, gs_rb47, Fv47, Fc47, Vr47⟩
theorem pn_1 : plainName "com/example/xml_signing/xmlsigning/c14n/TreeElementSetNamesPinLaw" = true := by first | (simp [plainName, overriddenIn]; done) | decide +kernel
theorem ef_1 (m : MethodId) (p0 : Int32) : entryFrame m #[(.int p0)] 2 = mkF m 0 #[.val (.int p0), .unset] [] := by first | (simp [entryFrame, mkF, argsToLocals, Value.category]; done) | rfl
theorem d1_0 : decode method_3_code 0 = .ok (.iconst 1, 1) := by decide +kernel
theorem d1_1 : decode method_3_code 1 = .ok (.newarray .char, 2) := by decide +kernel
theorem d1_3 : decode method_3_code 3 = .ok (.astore_n 1, 1) := by decide +kernel
theorem d1_4 : decode method_3_code 4 = .ok (.aload_n 1, 1) := by decide +kernel
theorem d1_5 : decode method_3_code 5 = .ok (.iconst 0, 1) := by decide +kernel
theorem d1_6 : decode method_3_code 6 = .ok (.iload_n 0, 1) := by decide +kernel
theorem d1_7 : decode method_3_code 7 = .ok (.sipush 255, 3) := by decide +kernel
theorem d1_10 : decode method_3_code 10 = .ok (.iand, 1) := by decide +kernel
theorem d1_11 : decode method_3_code 11 = .ok (.i2c, 1) := by decide +kernel
theorem d1_12 : decode method_3_code 12 = .ok (.castore, 1) := by decide +kernel
theorem d1_13 : decode method_3_code 13 = .ok (.new 8, 3) := by decide +kernel
theorem d1_16 : decode method_3_code 16 = .ok (.dup, 1) := by decide +kernel
theorem d1_17 : decode method_3_code 17 = .ok (.aload_n 1, 1) := by decide +kernel
theorem pd_4 : parseMethodDescriptor "([C)V" = some ⟨[(.array .char)], none⟩ := by decide +kernel
theorem d1_18 : decode method_3_code 18 = .ok (.invokespecial 30, 3) := by decide +kernel
theorem d1_21 : decode method_3_code 21 = .ok (.areturn, 1) := by decide +kernel
def Q1 (Z : State) (p0 : Int32) (cs : Int32) (h0 : Heap) (n0 : Nat) (v : Option Value) (h : Heap) (L : List Loc) : Prop := ∃ r : Addr, v = some (.ref r) ∧ Fr n0 L ∧ Keep h0 h [] ∧ n0 ≤ r ∧ h0.size ≤ r ∧ Exa Z h r "java/lang/String"
set_option maxRecDepth 65536 in
set_option maxHeartbeats 40000000 in
theorem rm1 (l : Launch) (Z : State) (ag : Array Value) (hw : ∀ d ∈ tables_1, d.before ag Z = true) (ws : List Jvm.Cond) (p0 : Int32) (cs : Int32) (h0 : Heap) (n0 : Nat) (Z0 : n0 ≤ h0.size) (O_ : Old Z n0 h0) (S_cs : Sta Z Z.heap "java/lang/String" "COMPACT_STRINGS" "Z" (.int cs)) (hcs : ¬ cs = (0 : Int32)) :
    MetFree l (⟨"com/example/xml_signing/xmlsigning/c14n/TreeElementSetNamesPinLaw", "str", "(I)Ljava/lang/String;"⟩ : MethodName) (head1 (Jvm.Cond.code (⟨"com/example/xml_signing/xmlsigning/c14n/TreeElementSetNamesPinLaw", "str", "(I)Ljava/lang/String;"⟩ : MethodName) method_3_code 2 (some (.object "java/lang/String")) :: ws) ({ frames := 4, cells := 3, slots := 6, locals := 66 } : Room)) (fun a U => a = #[(.int p0)] ∧ Z.Warmed39 U.vm ∧ U.heap = h0) (fun _ _ _ _ _ => True) (fun _ U o U' => ∃ v L, o = .returned v ∧ Q1 Z p0 cs h0 n0 v U'.heap L ∧ FrameEnd U o U' L ({ frames := 4, cells := 3, slots := 6, locals := 66 } : Room).cells ({ frames := 4, cells := 3, slots := 6, locals := 66 } : Room).slots) := by
  refine MetFree.of_bodySF (plainFor_of_name pn_1) hisR ?_
  intro p e s m args below meth c s₁ Bd hml0 hP hK
  obtain ⟨rfl, hZ, hh⟩ := hP
  have hx := Bd.exec
  have hby := Bd.bytes
  have hml : c.maxLocals = 2 := hml0
  have hown : s.vm.findClass "com/example/xml_signing/xmlsigning/c14n/TreeElementSetNamesPinLaw" = some m.cls := findClass_of_methodNamed Bd.named
  have hnm := (name_of_methodNamed Bd.named Bd.method).1
  have X0 : Stand p l e ({ frames := 4, cells := 3, slots := 6, locals := 66 } : Room) s m #[(.int p0)] below meth c s₁ [] 0 0 := Stand.of_body Bd
  have e0 : s₁.heap = h0 := by rw [← hh, Bd.state]; rfl
  have N0 := Fr.nil n0
  have pre0 : ∀ t, Steps p.tables e below (s₁.setTop (mkF m 0 #[.val (.int p0), .unset] [])) t → Steps p.tables e below (s₁.setTop (entryFrame m #[(.int p0)] 2)) t := fun t k => castTop (ef_1 m p0) k
  obtain ⟨T55, h55, k55, X55, e55, E55, A55, st55⟩ := newP X0 hx hZ (hw _ (List.mem_of_getElem? (i := 7) rfl)) e0 (g := (mkF m 1 #[.val (.int p0), .unset] [.int 1])) rfl (hb hby d1_1) rfl (by decide) (cap := 1) (by decide) (by decide) (by decide) (by decide)
  obtain ⟨b55, g55⟩ : ∃ z, z = h0.size := ⟨_, rfl⟩
  have ge_b55 : n0 ≤ b55 := Nat.le_trans Z0 (Nat.le_of_eq g55.symm)
  have gs_b55 : h0.size ≤ b55 := Nat.le_trans (Keep.refl h0 []).1 (Nat.le_of_eq g55.symm)
  rw [← g55] at A55 st55
  have x56 := O_.ext E55
  have sz57 : n0 ≤ h55.size := Nat.le_trans Z0 E55.1
  have kp58 : Keep h0 h55 [] := (Keep.refl h0 []).ext E55
  have V55 : Arv Z h55 b55 k55 .char (1 : Int32) [(.int (0 : Int32))] (.int (0 : Int32)) := (Arv.new A55 (by decide)).pad (pad_rep [] (.int (0 : Int32)) 1)
  obtain ⟨cl59, Ar59, q59, S59, M59, H59, G59⟩ := id V55
  have hin59 : ¬ ((0 : Int32) < 0 ∨ cl59.slots.size ≤ ((0 : Int32)).toNatClampNeg) := inb_of S59 ⟨(by decide : ¬ (0 : Int32) < 0), (by decide : (0 : Int32) < (1 : Int32))⟩
  obtain ⟨T59, h59, X59, e59, W59, st59⟩ := stC X55 hx hZ e55 Ar59 (j := (0 : Int32)) hin59 (g := (mkF m 12 #[.val (.int p0), .val (.ref b55)] [(.int ((p0 &&& (255 : Int32)).toUInt32.toUInt16.toUInt32.toInt32)), .int 0, (.ref b55)])) rfl rfl (hb hby d1_12)
  have V59 : Arv Z h59 b55 k55 .char (1 : Int32) [(.int (nar .char ((p0 &&& (255 : Int32)).toUInt32.toUInt16.toUInt32.toInt32)))] (.int (0 : Int32)) := Arv.set Ar59 q59 S59 M59 H59 G59 (fits_nar_char _) W59 0 rfl (Nat.le_of_ble_eq_true rfl)
  have x60 := x56.wr W59 ge_b55
  have sz61 : n0 ≤ h59.size := Nat.le_trans sz57 (Keep.of_wr W59).1
  have kp62 : Keep h0 h59 [] := kp58.wr W59 (Or.inr gs_b55)
  have N59 := Fr.snoc X59 N0 ge_b55
  obtain ⟨T63, h63, X63, e63, E63, A63, D63, -, st63⟩ := newO X59 hx hZ hown (hw _ (List.mem_of_getElem? (i := 1) rfl)) (hw _ (List.mem_of_getElem? (i := 8) rfl)) (hw _ (List.mem_of_getElem? (i := 9) rfl)) e59 (g := (mkF m 13 #[.val (.int p0), .val (.ref b55)] [])) rfl (hb hby d1_13) (by decide) (by decide)
  obtain ⟨b63, g63⟩ : ∃ z, z = h59.size := ⟨_, rfl⟩
  have ne64 : b55 ≠ b63 := Nat.ne_of_lt (Nat.lt_of_lt_of_le V59.lt (Nat.le_of_eq g63.symm))
  have ge_b63 : n0 ≤ b63 := Nat.le_trans sz61 (Nat.le_of_eq g63.symm)
  have gs_b63 : h0.size ≤ b63 := Nat.le_trans kp62.1 (Nat.le_of_eq g63.symm)
  rw [← g63] at A63 D63 st63
  have x65 := x60.ext E63
  have x66 := V59.ext E63
  have sz67 : n0 ≤ h63.size := Nat.le_trans sz61 E63.1
  have kp68 : Keep h0 h63 [] := kp62.ext E63
  have F63_coder : Fld Z h63 b63 "java/lang/String" "coder" "B" (.int (0 : Int32)) := D63 (Or.inr (hw _ (List.mem_of_getElem? (i := 33) rfl))) (ty := .byte) (by decide)
  have F63_value : Fld Z h63 b63 "java/lang/String" "value" "[B" .null := D63 (Or.inr (hw _ (List.mem_of_getElem? (i := 35) rfl))) (ty := (.array .byte)) (by decide)
  have cp69 : ∀ target, own_S p e below T63 (mkF m 18 #[.val (.int p0), .val (.ref b55)] [(.ref b55), (.ref b63), (.ref b63)]) target → own_S p e below s₁ (mkF m 0 #[.val (.int p0), .unset] []) target := by
    intro target kt
    show own_S p e below s₁ (mkF m 0 #[.val (.int p0), .unset] []) _
    refine XS.iconst X0.here hx rfl (hb hby d1_0) ?_
    show own_S p e below s₁ (mkF m 1 #[.val (.int p0), .unset] [.int 1]) _
    refine st55 _ ?_
    show own_S p e below T55 (mkF m 3 #[.val (.int p0), .unset] [(.ref b55)]) _
    refine XS.astoreN X55.here hx rfl (hb hby d1_3) rfl rfl (l' := #[.val (.int p0), .val (.ref b55)]) rfl ?_
    show own_S p e below T55 (mkF m 4 #[.val (.int p0), .val (.ref b55)] []) _
    refine XS.aloadN X55.here hx rfl (hb hby d1_4) rfl rfl ?_
    show own_S p e below T55 (mkF m 5 #[.val (.int p0), .val (.ref b55)] [(.ref b55)]) _
    refine XS.iconst X55.here hx rfl (hb hby d1_5) ?_
    show own_S p e below T55 (mkF m 6 #[.val (.int p0), .val (.ref b55)] [.int 0, (.ref b55)]) _
    refine XS.iloadN X55.here hx rfl (hb hby d1_6) rfl ?_
    show own_S p e below T55 (mkF m 7 #[.val (.int p0), .val (.ref b55)] [(.int p0), .int 0, (.ref b55)]) _
    refine XS.sipush X55.here hx rfl (hb hby d1_7) ?_
    show own_S p e below T55 (mkF m 10 #[.val (.int p0), .val (.ref b55)] [.int 255, (.int p0), .int 0, (.ref b55)]) _
    refine XS.iand X55.here hx rfl (hb hby d1_10) rfl ?_
    show own_S p e below T55 (mkF m 11 #[.val (.int p0), .val (.ref b55)] [(.int (p0 &&& (255 : Int32))), .int 0, (.ref b55)]) _
    refine XS.i2c X55.here hx rfl (hb hby d1_11) rfl ?_
    show own_S p e below T55 (mkF m 12 #[.val (.int p0), .val (.ref b55)] [(.int ((p0 &&& (255 : Int32)).toUInt32.toUInt16.toUInt32.toInt32)), .int 0, (.ref b55)]) _
    refine st59 _ ?_
    show own_S p e below T59 (mkF m 13 #[.val (.int p0), .val (.ref b55)] []) _
    refine st63 _ ?_
    show own_S p e below T63 (mkF m 16 #[.val (.int p0), .val (.ref b55)] [(.ref b63)]) _
    refine XS.dup X63.here hx rfl (hb hby d1_16) rfl rfl ?_
    show own_S p e below T63 (mkF m 17 #[.val (.int p0), .val (.ref b55)] [(.ref b63), (.ref b63)]) _
    refine XS.aloadN X63.here hx rfl (hb hby d1_17) rfl rfl ?_
    exact kt
  obtain ⟨_, _, ⟨T70, L70, k70, n70⟩, -, X70, ⟨Lc70, hQ70, l70, y70, z70⟩, st70⟩ := X63.specialBack hx (y := (⟨"java/lang/String", "<init>", "([C)V"⟩ : MethodName)) rfl hown (mvT hZ (hw _ (List.mem_of_getElem? (i := 10) rfl))) (mvT hZ (hw _ (List.mem_of_getElem? (i := 11) rfl))) (mvT hZ (hw _ (List.mem_of_getElem? (i := 12) rfl))) (by decide) (backOf (W := 1) (rm2_l1 l Z ag hw [] b63 b55 k55 (nar .char ((p0 &&& (255 : Int32)).toUInt32.toUInt16.toUInt32.toInt32)) cs h63 n0 sz67 A63 F63_value F63_coder ge_b63 (Ne.symm ne64) x65 S_cs hcs x66 (own_lat p0)) hZ (hw _ (List.mem_of_getElem? (i := 12) rfl)) (hw _ (List.mem_of_getElem? (i := 9) rfl)) (by decide) (by decide)) (g := (mkF m 18 #[.val (.int p0), .val (.ref b55)] [(.ref b55), (.ref b63), (.ref b63)])) rfl (by rw [hml]; rfl) (Steps.refl _) (a := b63) (argsL := [(.ref b55)]) (rest := [(.ref b63)]) (lenOf pd_4 rfl) rfl (by show 2 * 0 + _ ≤ _; exact Nat.le_of_eq rfl) (hb hby d1_18) (fun _ _ => ⟨rfl, e63, (by decide : 2 + 1 ≤ _), (by decide : 5 + 1 ≤ _)⟩)
  dsimp only [Pt.U, Pt.locs, Pt.cells, Pt.slots] at X70 l70 y70 z70 st70 hQ70
  subst l70 y70 z70
  obtain ⟨rfl, N70q, K70, rb70, kr70, ge_rb70, gq_rb70, Fv70, Fc70, Vr70⟩ := hQ70
  have N70 := Fr.app N59 N70q
  have ne71 : b55 ≠ rb70 := Nat.ne_of_lt (Nat.lt_of_lt_of_le x66.lt gq_rb70)
  have ne72 : b63 ≠ rb70 := Nat.ne_of_lt (Nat.lt_of_lt_of_le A63.lt gq_rb70)
  have gs_rb70 : h0.size ≤ rb70 := Nat.le_trans kp68.1 gq_rb70
  have x73 := x65.keep K70 (allS ge_b63 all0)
  have x74 := x66.keep K70 (ninS ne64 nin0)
  have x75 := A63.keep K70
  have sz76 : n0 ≤ T70.heap.size := Nat.le_trans sz67 K70.1
  have kp77 : Keep h0 T70.heap [] := kp68.trans K70 (allS (Or.inr gs_b63) all0)
  obtain ⟨fs, hr, hrun, hended, hW, hsame⟩ := X70.leave (v := some (.ref b63)) (fun h => by rw [Bd.returns] at h; cases h)
  refine ⟨_, _, pre0 _ ?_, hrun, hended, _, _, rfl, ?_, ⟨_, rfl⟩, hW, hsame.mono (by decide) (by decide)⟩
  · show own_S p e below s₁ (mkF m 0 #[.val (.int p0), .unset] []) _
    refine cp69 _ ?_
    show own_S p e below T63 (mkF m 18 #[.val (.int p0), .val (.ref b55)] [(.ref b55), (.ref b63), (.ref b63)]) _
    refine st70.trans ?_
    show own_S p e below T70 (mkF m 21 #[.val (.int p0), .val (.ref b55)] [(.ref b63)]) _
    exact Jvm.RoadKit.retOut X70 hx Bd.returns rfl (Or.inr (Or.inr (Or.inr (Or.inr ⟨rfl, rfl, rfl⟩)))) (hb hby d1_21) hr
  · show Q1 Z p0 cs h0 n0 _ T70.heap _
    exact ⟨b63, rfl, N70, kp77, ge_b63, gs_b63, x75⟩
theorem pn_0 : plainName "com/example/xml_signing/xmlsigning/c14n/TreeElement" = true := by first | (simp [plainName, overriddenIn]; done) | decide +kernel
theorem ef_8 (m : MethodId) (p0 : Int32) : entryFrame m #[(.int p0)] 1 = mkF m 0 #[.val (.int p0)] [] := by first | (simp [entryFrame, mkF, argsToLocals, Value.category]; done) | rfl
theorem d8_0 : decode prog_72_method_2_code 0 = .ok (.iload_n 0, 1) := by decide +kernel
theorem d8_1 : decode prog_72_method_2_code 1 = .ok (.ifCond .ne 9, 3) := by decide +kernel
theorem d8_10 : decode prog_72_method_2_code 10 = .ok (.iconst 3, 1) := by decide +kernel
theorem d8_11 : decode prog_72_method_2_code 11 = .ok (.iload_n 0, 1) := by decide +kernel
theorem d8_12 : decode prog_72_method_2_code 12 = .ok (.imul, 1) := by decide +kernel
theorem d8_13 : decode prog_72_method_2_code 13 = .ok (.anewarray 40, 3) := by decide +kernel
theorem d8_16 : decode prog_72_method_2_code 16 = .ok (.areturn, 1) := by decide +kernel
def Q8 (Z : State) (p0 : Int32) (h0 : Heap) (n0 : Nat) (v : Option Value) (h : Heap) (L : List Loc) : Prop := ∃ (r : Addr) (k : ClassId), v = some (.ref r) ∧ Fr n0 L ∧ Keep h0 h [] ∧ n0 ≤ r ∧ h0.size ≤ r ∧ Ovr Z k "java/lang/String" ∧ Arv Z h r k (.object "java/lang/String") ((3 : Int32) * p0) [] .null
set_option maxRecDepth 65536 in
set_option maxHeartbeats 40000000 in
theorem rm8 (l : Launch) (Z : State) (ag : Array Value) (hw : ∀ d ∈ tables_1, d.before ag Z = true) (ws : List Jvm.Cond) (p0 : Int32) (h0 : Heap) (n0 : Nat) (Z0 : n0 ≤ h0.size) (h1 : 1 ≤ p0.toInt) (h3 : p0.toInt ≤ 3) :
    MetFree l (⟨"com/example/xml_signing/xmlsigning/c14n/TreeElement", "nameRows", "(I)[Ljava/lang/String;"⟩ : MethodName) (head1 (Jvm.Cond.code (⟨"com/example/xml_signing/xmlsigning/c14n/TreeElement", "nameRows", "(I)[Ljava/lang/String;"⟩ : MethodName) prog_72_method_2_code 1 (some (.array (.object "java/lang/String"))) :: ws) ({ frames := 0, cells := 1, slots := 9, locals := 0 } : Room)) (fun a U => a = #[(.int p0)] ∧ Z.Warmed39 U.vm ∧ U.heap = h0) (fun _ _ _ _ _ => True) (fun _ U o U' => ∃ v L, o = .returned v ∧ Q8 Z p0 h0 n0 v U'.heap L ∧ FrameEnd U o U' L ({ frames := 0, cells := 1, slots := 9, locals := 0 } : Room).cells ({ frames := 0, cells := 1, slots := 9, locals := 0 } : Room).slots) := by
  refine MetFree.of_bodySF (plainFor_of_name pn_0) hisR ?_
  intro p e s m args below meth c s₁ Bd hml0 hP hK
  obtain ⟨rfl, hZ, hh⟩ := hP
  have hx := Bd.exec
  have hby := Bd.bytes
  have hml : c.maxLocals = 1 := hml0
  have hown : s.vm.findClass "com/example/xml_signing/xmlsigning/c14n/TreeElement" = some m.cls := findClass_of_methodNamed Bd.named
  have hnm := (name_of_methodNamed Bd.named Bd.method).1
  have X0 : Stand p l e ({ frames := 0, cells := 1, slots := 9, locals := 0 } : Room) s m #[(.int p0)] below meth c s₁ [] 0 0 := Stand.of_body Bd
  have e0 : s₁.heap = h0 := by rw [← hh, Bd.state]; rfl
  have N0 := Fr.nil n0
  have pre0 : ∀ t, Steps p.tables e below (s₁.setTop (mkF m 0 #[.val (.int p0)] [])) t → Steps p.tables e below (s₁.setTop (entryFrame m #[(.int p0)] 1)) t := fun t k => castTop (ef_8 m p0) k
  obtain ⟨T78, h78, k78, X78, e78, E78, A78, O78, st78⟩ := newR X0 hx hZ hown (hw _ (List.mem_of_getElem? (i := 40) rfl)) (hw _ (List.mem_of_getElem? (i := 2) rfl)) e0 (g := (mkF m 13 #[.val (.int p0)] [(.int ((3 : Int32) * p0))])) rfl (hb hby d8_13) rfl (own_3n p0 h1 h3).1 (cap := 9) (own_3n p0 h1 h3).2 (by decide) (by decide) (by decide)
  obtain ⟨b78, g78⟩ : ∃ z, z = h0.size := ⟨_, rfl⟩
  have ge_b78 : n0 ≤ b78 := Nat.le_trans Z0 (Nat.le_of_eq g78.symm)
  have gs_b78 : h0.size ≤ b78 := Nat.le_trans (Keep.refl h0 []).1 (Nat.le_of_eq g78.symm)
  rw [← g78] at A78 st78
  have sz79 : n0 ≤ h78.size := Nat.le_trans Z0 E78.1
  have kp80 : Keep h0 h78 [] := (Keep.refl h0 []).ext E78
  have V78 : Arv Z h78 b78 k78 (.object "java/lang/String") ((3 : Int32) * p0) [] .null := Arv.new A78 (own_3n p0 h1 h3).1
  obtain ⟨fs, hr, hrun, hended, hW, hsame⟩ := X78.leave (v := some (.ref b78)) (fun h => by rw [Bd.returns] at h; cases h)
  refine ⟨_, _, pre0 _ ?_, hrun, hended, _, _, rfl, ?_, ⟨_, rfl⟩, hW, hsame.mono (by decide) (by decide)⟩
  · show own_S p e below s₁ (mkF m 0 #[.val (.int p0)] []) _
    refine XS.iloadN X0.here hx rfl (hb hby d8_0) rfl ?_
    show own_S p e below s₁ (mkF m 1 #[.val (.int p0)] [(.int p0)]) _
    refine XS.ifYes X0.here hx rfl (pc0 := 1) (pc' := 10) rfl (hb hby d8_1) rfl ((if0 _ _).trans (feq (show ¬ (p0 = (0 : Int32)) from (own_nz p0 h1))).2) (by decide) (by decide) ?_
    show own_S p e below s₁ (mkF m 10 #[.val (.int p0)] []) _
    refine XS.iconst X0.here hx rfl (hb hby d8_10) ?_
    show own_S p e below s₁ (mkF m 11 #[.val (.int p0)] [.int 3]) _
    refine XS.iloadN X0.here hx rfl (hb hby d8_11) rfl ?_
    show own_S p e below s₁ (mkF m 12 #[.val (.int p0)] [(.int p0), .int 3]) _
    refine XS.imul X0.here hx rfl (hb hby d8_12) rfl ?_
    show own_S p e below s₁ (mkF m 13 #[.val (.int p0)] [(.int ((3 : Int32) * p0))]) _
    refine st78 _ ?_
    show own_S p e below T78 (mkF m 16 #[.val (.int p0)] [(.ref b78)]) _
    exact Jvm.RoadKit.retOut X78 hx Bd.returns rfl (Or.inr (Or.inr (Or.inr (Or.inr ⟨rfl, rfl, rfl⟩)))) (hb hby d8_16) hr
  · show Q8 Z p0 h0 n0 _ T78.heap _
    rw [e78]
    exact ⟨b78, k78, rfl, N0, kp80, ge_b78, gs_b78, O78, V78⟩
def own_set (vs : List Value) (p1 : Int32) (v2 v3 v4 : Value) : List Value := (((vs.set ((((3 : Int32) * p1) + (0 : Int32))).toNatClampNeg v2).set ((((3 : Int32) * p1) + (1 : Int32))).toNatClampNeg v3).set ((((3 : Int32) * p1) + (2 : Int32))).toNatClampNeg v4)
theorem ef_9 (m : MethodId) (a0 : Addr) (p1 : Int32) (v2 : Value) (v3 : Value) (v4 : Value) (rv_v2 : v2.isRef = true) (rv_v3 : v3.isRef = true) (rv_v4 : v4.isRef = true) : entryFrame m #[(.ref a0), (.int p1), v2, v3, v4] 5 = mkF m 0 #[.val (.ref a0), .val (.int p1), .val v2, .val v3, .val v4] [] := by rcases ref_cases rv_v2 with rfl | ⟨a, rfl⟩ <;> rcases ref_cases rv_v3 with rfl | ⟨a, rfl⟩ <;> rcases ref_cases rv_v4 with rfl | ⟨a, rfl⟩ <;> first | (simp [entryFrame, mkF, argsToLocals, Value.category]; done) | rfl
theorem d9_0 : decode prog_72_method_3_code 0 = .ok (.aload_n 0, 1) := by decide +kernel
theorem d9_1 : decode prog_72_method_3_code 1 = .ok (.iconst 3, 1) := by decide +kernel
theorem d9_2 : decode prog_72_method_3_code 2 = .ok (.iload_n 1, 1) := by decide +kernel
theorem d9_3 : decode prog_72_method_3_code 3 = .ok (.imul, 1) := by decide +kernel
theorem d9_4 : decode prog_72_method_3_code 4 = .ok (.iconst 0, 1) := by decide +kernel
theorem d9_5 : decode prog_72_method_3_code 5 = .ok (.iadd, 1) := by decide +kernel
theorem d9_6 : decode prog_72_method_3_code 6 = .ok (.aload_n 2, 1) := by decide +kernel
theorem d9_7 : decode prog_72_method_3_code 7 = .ok (.aastore, 1) := by decide +kernel
theorem d9_8 : decode prog_72_method_3_code 8 = .ok (.aload_n 0, 1) := by decide +kernel
theorem d9_9 : decode prog_72_method_3_code 9 = .ok (.iconst 3, 1) := by decide +kernel
theorem d9_10 : decode prog_72_method_3_code 10 = .ok (.iload_n 1, 1) := by decide +kernel
theorem d9_11 : decode prog_72_method_3_code 11 = .ok (.imul, 1) := by decide +kernel
theorem d9_12 : decode prog_72_method_3_code 12 = .ok (.iconst 1, 1) := by decide +kernel
theorem d9_13 : decode prog_72_method_3_code 13 = .ok (.iadd, 1) := by decide +kernel
theorem d9_14 : decode prog_72_method_3_code 14 = .ok (.aload_n 3, 1) := by decide +kernel
theorem d9_15 : decode prog_72_method_3_code 15 = .ok (.aastore, 1) := by decide +kernel
theorem d9_16 : decode prog_72_method_3_code 16 = .ok (.aload_n 0, 1) := by decide +kernel
theorem d9_17 : decode prog_72_method_3_code 17 = .ok (.iconst 3, 1) := by decide +kernel
theorem d9_18 : decode prog_72_method_3_code 18 = .ok (.iload_n 1, 1) := by decide +kernel
theorem d9_19 : decode prog_72_method_3_code 19 = .ok (.imul, 1) := by decide +kernel
theorem d9_20 : decode prog_72_method_3_code 20 = .ok (.iconst 2, 1) := by decide +kernel
theorem d9_21 : decode prog_72_method_3_code 21 = .ok (.iadd, 1) := by decide +kernel
theorem d9_22 : decode prog_72_method_3_code 22 = .ok (.aload 4, 2) := by decide +kernel
theorem d9_24 : decode prog_72_method_3_code 24 = .ok (.aastore, 1) := by decide +kernel
theorem d9_25 : decode prog_72_method_3_code 25 = .ok (.return_, 1) := by decide +kernel
def Q9 (Z : State) (a0 : Addr) (p1 : Int32) (v2 : Value) (v3 : Value) (v4 : Value) (k : ClassId) (nn : Int32) (vs : List Value) (h0 : Heap) (n0 : Nat) (v : Option Value) (h : Heap) (L : List Loc) : Prop := v = none ∧ Fr n0 L ∧ Keep h0 h [a0] ∧ Arv Z h a0 k (.object "java/lang/String") nn (own_set vs p1 v2 v3 v4) .null
set_option maxRecDepth 65536 in
set_option maxHeartbeats 40000000 in
theorem rm9 (l : Launch) (Z : State) (ag : Array Value) (hw : ∀ d ∈ tables_1, d.before ag Z = true) (ws : List Jvm.Cond) (a0 : Addr) (p1 : Int32) (v2 : Value) (v3 : Value) (v4 : Value) (k : ClassId) (nn : Int32) (vs : List Value) (h0 : Heap) (n0 : Nat) (Z0 : n0 ≤ h0.size) (rv_v2 : v2.isRef = true) (rv_v3 : v3.isRef = true) (rv_v4 : v4.isRef = true) (V_a0 : Arv Z h0 a0 k (.object "java/lang/String") nn vs .null) (Ov : Ovr Z k "java/lang/String") (ge_a0 : n0 ≤ a0) (sv_v2 : own_sv Z h0 v2) (sv_v3 : own_sv Z h0 v3) (sv_v4 : own_sv Z h0 v4) (hbn : own_in3 p1 nn) (hlen : vs.length = nn.toNatClampNeg) :
    MetFree l (⟨"com/example/xml_signing/xmlsigning/c14n/TreeElement", "setNames", "([Ljava/lang/String;ILjava/lang/String;Ljava/lang/String;Ljava/lang/String;)V"⟩ : MethodName) (head1 (Jvm.Cond.code (⟨"com/example/xml_signing/xmlsigning/c14n/TreeElement", "setNames", "([Ljava/lang/String;ILjava/lang/String;Ljava/lang/String;Ljava/lang/String;)V"⟩ : MethodName) prog_72_method_3_code 5 none :: ws) ({ frames := 0, cells := 0, slots := 0, locals := 0 } : Room)) (fun a U => a = #[(.ref a0), (.int p1), v2, v3, v4] ∧ Z.Warmed39 U.vm ∧ U.heap = h0) (fun _ _ _ _ _ => True) (fun _ U o U' => ∃ v L, o = .returned v ∧ Q9 Z a0 p1 v2 v3 v4 k nn vs h0 n0 v U'.heap L ∧ FrameEnd U o U' L ({ frames := 0, cells := 0, slots := 0, locals := 0 } : Room).cells ({ frames := 0, cells := 0, slots := 0, locals := 0 } : Room).slots) := by
  refine MetFree.of_bodySF (plainFor_of_name pn_0) hisR ?_
  intro p e s m args below meth c s₁ Bd hml0 hP hK
  obtain ⟨rfl, hZ, hh⟩ := hP
  have hx := Bd.exec
  have hby := Bd.bytes
  have hml : c.maxLocals = 5 := hml0
  have hown : s.vm.findClass "com/example/xml_signing/xmlsigning/c14n/TreeElement" = some m.cls := findClass_of_methodNamed Bd.named
  have hnm := (name_of_methodNamed Bd.named Bd.method).1
  have X0 : Stand p l e ({ frames := 0, cells := 0, slots := 0, locals := 0 } : Room) s m #[(.ref a0), (.int p1), v2, v3, v4] below meth c s₁ [] 0 0 := Stand.of_body Bd
  have e0 : s₁.heap = h0 := by rw [← hh, Bd.state]; rfl
  have N0 := Fr.nil n0
  have pre0 : ∀ t, Steps p.tables e below (s₁.setTop (mkF m 0 #[.val (.ref a0), .val (.int p1), .val v2, .val v3, .val v4] [])) t → Steps p.tables e below (s₁.setTop (entryFrame m #[(.ref a0), (.int p1), v2, v3, v4] 5)) t := fun t k => castTop (ef_9 m a0 p1 v2 v3 v4 rv_v2 rv_v3 rv_v4) k
  obtain ⟨cl81, Ar81, q81, S81, M81, H81, G81⟩ := id V_a0
  have hin81 : ¬ ((((3 : Int32) * p1) + (0 : Int32)) < 0 ∨ cl81.slots.size ≤ ((((3 : Int32) * p1) + (0 : Int32))).toNatClampNeg) := inb_of S81 hbn.1
  obtain ⟨T81, h81, X81, e81, W81, st81⟩ := stR X0 hx hZ e0 Ar81 (j := (((3 : Int32) * p1) + (0 : Int32))) hin81 rfl (own_sv_sto Ar81 q81 Ov sv_v2) (g := (mkF m 7 #[.val (.ref a0), .val (.int p1), .val v2, .val v3, .val v4] [v2, (.int (((3 : Int32) * p1) + (0 : Int32))), (.ref a0)])) rfl rfl (hb hby d9_7)
  have V81 : Arv Z h81 a0 k (.object "java/lang/String") nn (vs.set ((((3 : Int32) * p1) + (0 : Int32))).toNatClampNeg v2) .null := Arv.set Ar81 q81 S81 M81 H81 G81 (own_fit_ref rv_v2) W81 ((((3 : Int32) * p1) + (0 : Int32))).toNatClampNeg rfl (own_ix hbn.1 hlen)
  have x82 := sv_v2.wr W81
  have x83 := sv_v3.wr W81
  have x84 := sv_v4.wr W81
  have sz85 : n0 ≤ h81.size := Nat.le_trans Z0 (Keep.of_wr W81).1
  have kp86 : Keep h0 h81 [a0] := (Keep.refl h0 [a0]).wr W81 (Or.inl (List.mem_of_getElem? (i := 0) rfl))
  have N81 := Fr.snoc X81 N0 ge_a0
  obtain ⟨cl87, Ar87, q87, S87, M87, H87, G87⟩ := id V81
  have hin87 : ¬ ((((3 : Int32) * p1) + (1 : Int32)) < 0 ∨ cl87.slots.size ≤ ((((3 : Int32) * p1) + (1 : Int32))).toNatClampNeg) := inb_of S87 hbn.2.1
  obtain ⟨T87, h87, X87, e87, W87, st87⟩ := stR X81 hx hZ e81 Ar87 (j := (((3 : Int32) * p1) + (1 : Int32))) hin87 rfl (own_sv_sto Ar87 q87 Ov x83) (g := (mkF m 15 #[.val (.ref a0), .val (.int p1), .val v2, .val v3, .val v4] [v3, (.int (((3 : Int32) * p1) + (1 : Int32))), (.ref a0)])) rfl rfl (hb hby d9_15)
  have V87 : Arv Z h87 a0 k (.object "java/lang/String") nn ((vs.set ((((3 : Int32) * p1) + (0 : Int32))).toNatClampNeg v2).set ((((3 : Int32) * p1) + (1 : Int32))).toNatClampNeg v3) .null := Arv.set Ar87 q87 S87 M87 H87 G87 (own_fit_ref rv_v3) W87 ((((3 : Int32) * p1) + (1 : Int32))).toNatClampNeg rfl (by rw [List.length_set]; exact own_ix hbn.2.1 hlen)
  have x88 := x82.wr W87
  have x89 := x83.wr W87
  have x90 := x84.wr W87
  have sz91 : n0 ≤ h87.size := Nat.le_trans sz85 (Keep.of_wr W87).1
  have kp92 : Keep h0 h87 [a0] := kp86.wr W87 (Or.inl (List.mem_of_getElem? (i := 0) rfl))
  have N87 := Fr.snoc X87 N81 ge_a0
  obtain ⟨cl93, Ar93, q93, S93, M93, H93, G93⟩ := id V87
  have hin93 : ¬ ((((3 : Int32) * p1) + (2 : Int32)) < 0 ∨ cl93.slots.size ≤ ((((3 : Int32) * p1) + (2 : Int32))).toNatClampNeg) := inb_of S93 hbn.2.2
  obtain ⟨T93, h93, X93, e93, W93, st93⟩ := stR X87 hx hZ e87 Ar93 (j := (((3 : Int32) * p1) + (2 : Int32))) hin93 rfl (own_sv_sto Ar93 q93 Ov x90) (g := (mkF m 24 #[.val (.ref a0), .val (.int p1), .val v2, .val v3, .val v4] [v4, (.int (((3 : Int32) * p1) + (2 : Int32))), (.ref a0)])) rfl rfl (hb hby d9_24)
  have V93 : Arv Z h93 a0 k (.object "java/lang/String") nn (((vs.set ((((3 : Int32) * p1) + (0 : Int32))).toNatClampNeg v2).set ((((3 : Int32) * p1) + (1 : Int32))).toNatClampNeg v3).set ((((3 : Int32) * p1) + (2 : Int32))).toNatClampNeg v4) .null := Arv.set Ar93 q93 S93 M93 H93 G93 (own_fit_ref rv_v4) W93 ((((3 : Int32) * p1) + (2 : Int32))).toNatClampNeg rfl (by rw [List.length_set, List.length_set]; exact own_ix hbn.2.2 hlen)
  have x94 := x88.wr W93
  have x95 := x89.wr W93
  have x96 := x90.wr W93
  have sz97 : n0 ≤ h93.size := Nat.le_trans sz91 (Keep.of_wr W93).1
  have kp98 : Keep h0 h93 [a0] := kp92.wr W93 (Or.inl (List.mem_of_getElem? (i := 0) rfl))
  have N93 := Fr.snoc X93 N87 ge_a0
  obtain ⟨fs, hr, hrun, hended, hW, hsame⟩ := X93.leave (v := none) (fun _ => rfl)
  refine ⟨_, _, pre0 _ ?_, hrun, hended, _, _, rfl, ?_, ⟨_, rfl⟩, hW, hsame.mono (by decide) (by decide)⟩
  · show own_S p e below s₁ (mkF m 0 #[.val (.ref a0), .val (.int p1), .val v2, .val v3, .val v4] []) _
    refine XS.aloadN X0.here hx rfl (hb hby d9_0) rfl rfl ?_
    show own_S p e below s₁ (mkF m 1 #[.val (.ref a0), .val (.int p1), .val v2, .val v3, .val v4] [(.ref a0)]) _
    refine XS.iconst X0.here hx rfl (hb hby d9_1) ?_
    show own_S p e below s₁ (mkF m 2 #[.val (.ref a0), .val (.int p1), .val v2, .val v3, .val v4] [.int 3, (.ref a0)]) _
    refine XS.iloadN X0.here hx rfl (hb hby d9_2) rfl ?_
    show own_S p e below s₁ (mkF m 3 #[.val (.ref a0), .val (.int p1), .val v2, .val v3, .val v4] [(.int p1), .int 3, (.ref a0)]) _
    refine XS.imul X0.here hx rfl (hb hby d9_3) rfl ?_
    show own_S p e below s₁ (mkF m 4 #[.val (.ref a0), .val (.int p1), .val v2, .val v3, .val v4] [(.int ((3 : Int32) * p1)), (.ref a0)]) _
    refine XS.iconst X0.here hx rfl (hb hby d9_4) ?_
    show own_S p e below s₁ (mkF m 5 #[.val (.ref a0), .val (.int p1), .val v2, .val v3, .val v4] [.int 0, (.int ((3 : Int32) * p1)), (.ref a0)]) _
    refine XS.iadd X0.here hx rfl (hb hby d9_5) rfl ?_
    show own_S p e below s₁ (mkF m 6 #[.val (.ref a0), .val (.int p1), .val v2, .val v3, .val v4] [(.int (((3 : Int32) * p1) + (0 : Int32))), (.ref a0)]) _
    refine XS.aloadN X0.here hx rfl (hb hby d9_6) rfl rv_v2 ?_
    show own_S p e below s₁ (mkF m 7 #[.val (.ref a0), .val (.int p1), .val v2, .val v3, .val v4] [v2, (.int (((3 : Int32) * p1) + (0 : Int32))), (.ref a0)]) _
    refine st81 _ ?_
    show own_S p e below T81 (mkF m 8 #[.val (.ref a0), .val (.int p1), .val v2, .val v3, .val v4] []) _
    refine XS.aloadN X81.here hx rfl (hb hby d9_8) rfl rfl ?_
    show own_S p e below T81 (mkF m 9 #[.val (.ref a0), .val (.int p1), .val v2, .val v3, .val v4] [(.ref a0)]) _
    refine XS.iconst X81.here hx rfl (hb hby d9_9) ?_
    show own_S p e below T81 (mkF m 10 #[.val (.ref a0), .val (.int p1), .val v2, .val v3, .val v4] [.int 3, (.ref a0)]) _
    refine XS.iloadN X81.here hx rfl (hb hby d9_10) rfl ?_
    show own_S p e below T81 (mkF m 11 #[.val (.ref a0), .val (.int p1), .val v2, .val v3, .val v4] [(.int p1), .int 3, (.ref a0)]) _
    refine XS.imul X81.here hx rfl (hb hby d9_11) rfl ?_
    show own_S p e below T81 (mkF m 12 #[.val (.ref a0), .val (.int p1), .val v2, .val v3, .val v4] [(.int ((3 : Int32) * p1)), (.ref a0)]) _
    refine XS.iconst X81.here hx rfl (hb hby d9_12) ?_
    show own_S p e below T81 (mkF m 13 #[.val (.ref a0), .val (.int p1), .val v2, .val v3, .val v4] [.int 1, (.int ((3 : Int32) * p1)), (.ref a0)]) _
    refine XS.iadd X81.here hx rfl (hb hby d9_13) rfl ?_
    show own_S p e below T81 (mkF m 14 #[.val (.ref a0), .val (.int p1), .val v2, .val v3, .val v4] [(.int (((3 : Int32) * p1) + (1 : Int32))), (.ref a0)]) _
    refine XS.aloadN X81.here hx rfl (hb hby d9_14) rfl rv_v3 ?_
    show own_S p e below T81 (mkF m 15 #[.val (.ref a0), .val (.int p1), .val v2, .val v3, .val v4] [v3, (.int (((3 : Int32) * p1) + (1 : Int32))), (.ref a0)]) _
    refine st87 _ ?_
    show own_S p e below T87 (mkF m 16 #[.val (.ref a0), .val (.int p1), .val v2, .val v3, .val v4] []) _
    refine XS.aloadN X87.here hx rfl (hb hby d9_16) rfl rfl ?_
    show own_S p e below T87 (mkF m 17 #[.val (.ref a0), .val (.int p1), .val v2, .val v3, .val v4] [(.ref a0)]) _
    refine XS.iconst X87.here hx rfl (hb hby d9_17) ?_
    show own_S p e below T87 (mkF m 18 #[.val (.ref a0), .val (.int p1), .val v2, .val v3, .val v4] [.int 3, (.ref a0)]) _
    refine XS.iloadN X87.here hx rfl (hb hby d9_18) rfl ?_
    show own_S p e below T87 (mkF m 19 #[.val (.ref a0), .val (.int p1), .val v2, .val v3, .val v4] [(.int p1), .int 3, (.ref a0)]) _
    refine XS.imul X87.here hx rfl (hb hby d9_19) rfl ?_
    show own_S p e below T87 (mkF m 20 #[.val (.ref a0), .val (.int p1), .val v2, .val v3, .val v4] [(.int ((3 : Int32) * p1)), (.ref a0)]) _
    refine XS.iconst X87.here hx rfl (hb hby d9_20) ?_
    show own_S p e below T87 (mkF m 21 #[.val (.ref a0), .val (.int p1), .val v2, .val v3, .val v4] [.int 2, (.int ((3 : Int32) * p1)), (.ref a0)]) _
    refine XS.iadd X87.here hx rfl (hb hby d9_21) rfl ?_
    show own_S p e below T87 (mkF m 22 #[.val (.ref a0), .val (.int p1), .val v2, .val v3, .val v4] [(.int (((3 : Int32) * p1) + (2 : Int32))), (.ref a0)]) _
    refine XS.aload X87.here hx rfl (hb hby d9_22) rfl rv_v4 ?_
    show own_S p e below T87 (mkF m 24 #[.val (.ref a0), .val (.int p1), .val v2, .val v3, .val v4] [v4, (.int (((3 : Int32) * p1) + (2 : Int32))), (.ref a0)]) _
    refine st93 _ ?_
    show own_S p e below T93 (mkF m 25 #[.val (.ref a0), .val (.int p1), .val v2, .val v3, .val v4] []) _
    exact X93.returnOut hx Bd.returns (hb hby d9_25) hr
  · show Q9 Z a0 p1 v2 v3 v4 k nn vs h0 n0 _ T93.heap _
    rw [e93]
    exact ⟨rfl, N93, kp98, V93⟩
theorem ef_10 (m : MethodId) (a0 : Addr) (p1 : Int32) (p2 : Int32) (p3 : Int32) (a4 : Addr) (a5 : Addr) : entryFrame m #[(.ref a0), (.int p1), (.int p2), (.int p3), (.ref a4), (.ref a5)] 7 = mkF m 0 #[.val (.ref a0), .val (.int p1), .val (.int p2), .val (.int p3), .val (.ref a4), .val (.ref a5), .unset] [] := by first | (simp [entryFrame, mkF, argsToLocals, Value.category]; done) | rfl
abbrev own_loc6 (a0 : Addr) (p1 : Int32) (p2 : Int32) (p3 : Int32) (a4 : Addr) (a5 : Addr) : Array Slot := #[.val (.ref a0), .val (.int p1), .val (.int p2), .val (.int p3), .val (.ref a4), .val (.ref a5), .unset]
theorem d10_0 : decode method_4_code 0 = .ok (.iload_n 1, 1) := by decide +kernel
theorem d10_1 : decode method_4_code 1 = .ok (.aload_n 0, 1) := by decide +kernel
theorem d10_2 : decode method_4_code 2 = .ok (.arraylength, 1) := by decide +kernel
theorem d10_3 : decode method_4_code 3 = .ok (.if_icmp .lt 5, 3) := by decide +kernel
theorem d10_8 : decode method_4_code 8 = .ok (.iload_n 1, 1) := by decide +kernel
theorem d10_9 : decode method_4_code 9 = .ok (.iconst 3, 1) := by decide +kernel
theorem d10_10 : decode method_4_code 10 = .ok (.idiv, 1) := by decide +kernel
theorem d10_11 : decode method_4_code 11 = .ok (.iload_n 3, 1) := by decide +kernel
theorem d10_12 : decode method_4_code 12 = .ok (.if_icmp .ne 14, 3) := by decide +kernel
theorem d10_15 : decode method_4_code 15 = .ok (.aload 5, 2) := by decide +kernel
theorem d10_17 : decode method_4_code 17 = .ok (.iload_n 1, 1) := by decide +kernel
theorem d10_18 : decode method_4_code 18 = .ok (.iconst 3, 1) := by decide +kernel
theorem d10_19 : decode method_4_code 19 = .ok (.irem, 1) := by decide +kernel
theorem d10_20 : decode method_4_code 20 = .ok (.aaload, 1) := by decide +kernel
theorem d10_21 : decode method_4_code 21 = .ok (.astore 6, 2) := by decide +kernel
abbrev own_loc7 (a0 : Addr) (p1 : Int32) (p2 : Int32) (p3 : Int32) (a4 : Addr) (a5 : Addr) : Array Slot := #[.val (.ref a0), .val (.int p1), .val (.int p2), .val (.int p3), .val (.ref a4), .val (.ref a5), .val .null]
theorem d10_23 : decode method_4_code 23 = .ok (.goto 24, 3) := by decide +kernel
theorem d10_47 : decode method_4_code 47 = .ok (.aload_n 0, 1) := by decide +kernel
theorem d10_48 : decode method_4_code 48 = .ok (.iload_n 1, 1) := by decide +kernel
theorem d10_49 : decode method_4_code 49 = .ok (.aaload, 1) := by decide +kernel
theorem d10_50 : decode method_4_code 50 = .ok (.aload 6, 2) := by decide +kernel
theorem d10_52 : decode method_4_code 52 = .ok (.if_acmp .ne 7, 3) := by decide +kernel
theorem d10_55 : decode method_4_code 55 = .ok (.iconst 1, 1) := by decide +kernel
theorem d10_56 : decode method_4_code 56 = .ok (.goto 4, 3) := by decide +kernel
theorem d10_60 : decode method_4_code 60 = .ok (.ireturn, 1) := by decide +kernel
theorem d10_26 : decode method_4_code 26 = .ok (.iload_n 1, 1) := by decide +kernel
theorem d10_27 : decode method_4_code 27 = .ok (.iconst 3, 1) := by decide +kernel
theorem d10_28 : decode method_4_code 28 = .ok (.idiv, 1) := by decide +kernel
theorem d10_29 : decode method_4_code 29 = .ok (.iload_n 2, 1) := by decide +kernel
theorem d10_30 : decode method_4_code 30 = .ok (.if_icmp .ne 14, 3) := by decide +kernel
theorem d10_33 : decode method_4_code 33 = .ok (.aload 4, 2) := by decide +kernel
theorem d10_35 : decode method_4_code 35 = .ok (.iload_n 1, 1) := by decide +kernel
theorem d10_36 : decode method_4_code 36 = .ok (.iconst 3, 1) := by decide +kernel
theorem d10_37 : decode method_4_code 37 = .ok (.irem, 1) := by decide +kernel
theorem d10_38 : decode method_4_code 38 = .ok (.aaload, 1) := by decide +kernel
theorem d10_39 : decode method_4_code 39 = .ok (.astore 6, 2) := by decide +kernel
theorem d10_41 : decode method_4_code 41 = .ok (.goto 6, 3) := by decide +kernel
theorem d10_44 : decode method_4_code 44 = .ok (.aconst_null, 1) := by decide +kernel
theorem d10_45 : decode method_4_code 45 = .ok (.astore 6, 2) := by decide +kernel
theorem d10_6 : decode method_4_code 6 = .ok (.iconst 1, 1) := by decide +kernel
theorem d10_7 : decode method_4_code 7 = .ok (.ireturn, 1) := by decide +kernel
def Q10_null (Z : State) (a0 : Addr) (p1 : Int32) (p2 : Int32) (p3 : Int32) (a4 : Addr) (a5 : Addr) (k : ClassId) (nn : Int32) (vs : List Value) (k1 : ClassId) (us : List Value) (k2 : ClassId) (ws' : List Value) (h0 : Heap) (n0 : Nat) (v : Option Value) (h : Heap) (L : List Loc) : Prop := v = some (.int (1 : Int32)) ∧ Fr n0 L ∧ h = h0
set_option maxRecDepth 65536 in
set_option maxHeartbeats 40000000 in
theorem rm10_null (l : Launch) (Z : State) (ag : Array Value) (hw : ∀ d ∈ tables_1, d.before ag Z = true) (ws : List Jvm.Cond) (a0 : Addr) (p1 : Int32) (p2 : Int32) (p3 : Int32) (a4 : Addr) (a5 : Addr) (k : ClassId) (nn : Int32) (vs : List Value) (k1 : ClassId) (us : List Value) (k2 : ClassId) (ws' : List Value) (h0 : Heap) (n0 : Nat) (Z0 : n0 ≤ h0.size) (V_a0 : Arv Z h0 a0 k (.object "java/lang/String") nn vs .null) (V_a4 : Arv Z h0 a4 k1 (.object "java/lang/String") (3 : Int32) us .null) (V_a5 : Arv Z h0 a5 k2 (.object "java/lang/String") (3 : Int32) ws' .null) (hs : own_slot_ok p1 p2 p3 nn vs us ws' .null) (hp0 : 0 ≤ p1.toInt) :
    MetFree l (⟨"com/example/xml_signing/xmlsigning/c14n/TreeElementSetNamesPinLaw", "slot", "([Ljava/lang/String;III[Ljava/lang/String;[Ljava/lang/String;)Z"⟩ : MethodName) (head1 (Jvm.Cond.code (⟨"com/example/xml_signing/xmlsigning/c14n/TreeElementSetNamesPinLaw", "slot", "([Ljava/lang/String;III[Ljava/lang/String;[Ljava/lang/String;)Z"⟩ : MethodName) method_4_code 7 (some .boolean) :: ws) ({ frames := 0, cells := 0, slots := 0, locals := 0 } : Room)) (fun a U => a = #[(.ref a0), (.int p1), (.int p2), (.int p3), (.ref a4), (.ref a5)] ∧ Z.Warmed39 U.vm ∧ U.heap = h0) (fun _ _ _ _ _ => True) (fun _ U o U' => ∃ v L, o = .returned v ∧ Q10_null Z a0 p1 p2 p3 a4 a5 k nn vs k1 us k2 ws' h0 n0 v U'.heap L ∧ FrameEnd U o U' L ({ frames := 0, cells := 0, slots := 0, locals := 0 } : Room).cells ({ frames := 0, cells := 0, slots := 0, locals := 0 } : Room).slots) := by
  refine MetFree.of_bodySF (plainFor_of_name pn_1) hisR ?_
  intro p e s m args below meth c s₁ Bd hml0 hP hK
  obtain ⟨rfl, hZ, hh⟩ := hP
  have hx := Bd.exec
  have hby := Bd.bytes
  have hml : c.maxLocals = 7 := hml0
  have hown : s.vm.findClass "com/example/xml_signing/xmlsigning/c14n/TreeElementSetNamesPinLaw" = some m.cls := findClass_of_methodNamed Bd.named
  have hnm := (name_of_methodNamed Bd.named Bd.method).1
  have X0 : Stand p l e ({ frames := 0, cells := 0, slots := 0, locals := 0 } : Room) s m #[(.ref a0), (.int p1), (.int p2), (.int p3), (.ref a4), (.ref a5)] below meth c s₁ [] 0 0 := Stand.of_body Bd
  have e0 : s₁.heap = h0 := by rw [← hh, Bd.state]; rfl
  have N0 := Fr.nil n0
  have pre0 : ∀ t, Steps p.tables e below (s₁.setTop (mkF m 0 #[.val (.ref a0), .val (.int p1), .val (.int p2), .val (.int p3), .val (.ref a4), .val (.ref a5), .unset] [])) t → Steps p.tables e below (s₁.setTop (entryFrame m #[(.ref a0), (.int p1), (.int p2), (.int p3), (.ref a4), (.ref a5)] 7)) t := fun t k => castTop (ef_10 m a0 p1 p2 p3 a4 a5) k
  obtain ⟨cl99, Ar99, -, S99, M99, -, -⟩ := id V_a0
  have ld99 := X0.arraylength hx (by rw [e0]; exact Ar99.1) (State.isArrayOf_alike hZ.alike Ar99.2.1) (g := (mkF m 2 (own_loc6 a0 p1 p2 p3 a4 a5) [(.ref a0), (.int p1)])) rfl rfl (hb hby d10_2)
  have cp101 : ∀ target, own_S p e below s₁ (mkF m 3 (own_loc6 a0 p1 p2 p3 a4 a5) [(.int nn), (.int p1)]) target → own_S p e below s₁ (mkF m 0 (own_loc6 a0 p1 p2 p3 a4 a5) []) target := by
    intro target kt
    show own_S p e below s₁ (mkF m 0 (own_loc6 a0 p1 p2 p3 a4 a5) []) _
    refine XS.iloadN X0.here hx rfl (hb hby d10_0) rfl ?_
    show own_S p e below s₁ (mkF m 1 (own_loc6 a0 p1 p2 p3 a4 a5) [(.int p1)]) _
    refine XS.aloadN X0.here hx rfl (hb hby d10_1) rfl rfl ?_
    show own_S p e below s₁ (mkF m 2 (own_loc6 a0 p1 p2 p3 a4 a5) [(.ref a0), (.int p1)]) _
    refine ld99 _ ?_
    rw [len_of S99 M99]
    exact kt
  by_cases hc100 : p1 < nn
  · have cp103 : ∀ target, own_S p e below s₁ (mkF m 12 (own_loc6 a0 p1 p2 p3 a4 a5) [(.int p3), (.int (p1 / (3 : Int32)))]) target → own_S p e below s₁ (mkF m 0 (own_loc6 a0 p1 p2 p3 a4 a5) []) target := by
      intro target kt
      show own_S p e below s₁ (mkF m 0 (own_loc6 a0 p1 p2 p3 a4 a5) []) _
      refine cp101 _ ?_
      show own_S p e below s₁ (mkF m 3 (own_loc6 a0 p1 p2 p3 a4 a5) [(.int nn), (.int p1)]) _
      refine XS.icmpYes X0.here hx rfl (pc0 := 3) (pc' := 8) rfl (hb hby d10_3) rfl (tlt hc100).1 (by decide) (by decide) ?_
      show own_S p e below s₁ (mkF m 8 (own_loc6 a0 p1 p2 p3 a4 a5) []) _
      refine XS.iloadN X0.here hx rfl (hb hby d10_8) rfl ?_
      show own_S p e below s₁ (mkF m 9 (own_loc6 a0 p1 p2 p3 a4 a5) [(.int p1)]) _
      refine XS.iconst X0.here hx rfl (hb hby d10_9) ?_
      show own_S p e below s₁ (mkF m 10 (own_loc6 a0 p1 p2 p3 a4 a5) [.int 3, (.int p1)]) _
      refine XS.idiv X0.here hx rfl (hb hby d10_10) rfl (by decide) ?_
      show own_S p e below s₁ (mkF m 11 (own_loc6 a0 p1 p2 p3 a4 a5) [(.int (p1 / (3 : Int32)))]) _
      refine XS.iloadN X0.here hx rfl (hb hby d10_11) rfl ?_
      exact kt
    by_cases hc102 : (p1 / (3 : Int32)) = p3
    · obtain ⟨cl104, Ar104, q104, S104, M104, H104, G104⟩ := id V_a5
      have hin104 : ¬ ((p1 % (3 : Int32)) < 0 ∨ cl104.slots.size ≤ ((p1 % (3 : Int32))).toNatClampNeg) := inb_of S104 (own_rem p1 hp0)
      have hat104 : cl104.slots[((p1 % (3 : Int32))).toNatClampNeg]? = some .null := Has.at H104 hin104 ((hs hc100).2.1 hc102)
      have ld104 := X0.aaload hx (j := (p1 % (3 : Int32))) (v := .null) (by rw [e0]; exact Ar104.1) (State.isArrayOf_alike hZ.alike Ar104.2.1) rfl Ar104.2.2 hin104 hat104 (g := (mkF m 20 (own_loc6 a0 p1 p2 p3 a4 a5) [(.int (p1 % (3 : Int32))), (.ref a5)])) rfl rfl (hb hby d10_20)
      obtain ⟨cl105, Ar105, q105, S105, M105, H105, G105⟩ := id V_a0
      have hin105 : ¬ (p1 < 0 ∨ cl105.slots.size ≤ (p1).toNatClampNeg) := inb_of S105 ⟨own_nonneg hp0, hc100⟩
      have hat105 : cl105.slots[(p1).toNatClampNeg]? = some .null := Has.at H105 hin105 (hs hc100).1
      have ld105 := X0.aaload hx (j := p1) (v := .null) (by rw [e0]; exact Ar105.1) (State.isArrayOf_alike hZ.alike Ar105.2.1) rfl Ar105.2.2 hin105 hat105 (g := (mkF m 49 (own_loc7 a0 p1 p2 p3 a4 a5) [(.int p1), (.ref a0)])) rfl rfl (hb hby d10_49)
      obtain ⟨fs, hr, hrun, hended, hW, hsame⟩ := X0.leave (v := some (.int (1 : Int32))) (fun h => by rw [Bd.returns] at h; cases h)
      refine ⟨_, _, pre0 _ ?_, hrun, hended, _, _, rfl, ?_, ⟨_, rfl⟩, hW, hsame.mono (by decide) (by decide)⟩
      · show own_S p e below s₁ (mkF m 0 (own_loc6 a0 p1 p2 p3 a4 a5) []) _
        refine cp103 _ ?_
        show own_S p e below s₁ (mkF m 12 (own_loc6 a0 p1 p2 p3 a4 a5) [(.int p3), (.int (p1 / (3 : Int32)))]) _
        refine XS.icmpNo X0.here hx rfl (hb hby d10_12) rfl (teq hc102).2 ?_
        show own_S p e below s₁ (mkF m 15 (own_loc6 a0 p1 p2 p3 a4 a5) []) _
        refine XS.aload X0.here hx rfl (hb hby d10_15) rfl rfl ?_
        show own_S p e below s₁ (mkF m 17 (own_loc6 a0 p1 p2 p3 a4 a5) [(.ref a5)]) _
        refine XS.iloadN X0.here hx rfl (hb hby d10_17) rfl ?_
        show own_S p e below s₁ (mkF m 18 (own_loc6 a0 p1 p2 p3 a4 a5) [(.int p1), (.ref a5)]) _
        refine XS.iconst X0.here hx rfl (hb hby d10_18) ?_
        show own_S p e below s₁ (mkF m 19 (own_loc6 a0 p1 p2 p3 a4 a5) [.int 3, (.int p1), (.ref a5)]) _
        refine iremM X0 hx rfl (hb hby d10_19) rfl (by decide) ?_
        show own_S p e below s₁ (mkF m 20 (own_loc6 a0 p1 p2 p3 a4 a5) [(.int (p1 % (3 : Int32))), (.ref a5)]) _
        refine ld104 _ ?_
        show own_S p e below s₁ (mkF m 21 (own_loc6 a0 p1 p2 p3 a4 a5) [.null]) _
        refine XS.astore X0.here hx rfl (hb hby d10_21) rfl rfl (l' := (own_loc7 a0 p1 p2 p3 a4 a5)) rfl ?_
        show own_S p e below s₁ (mkF m 23 (own_loc7 a0 p1 p2 p3 a4 a5) []) _
        refine XS.goto X0.here hx rfl (pc0 := 23) (pc' := 47) rfl (hb hby d10_23) (by decide) (by decide) ?_
        show own_S p e below s₁ (mkF m 47 (own_loc7 a0 p1 p2 p3 a4 a5) []) _
        refine XS.aloadN X0.here hx rfl (hb hby d10_47) rfl rfl ?_
        show own_S p e below s₁ (mkF m 48 (own_loc7 a0 p1 p2 p3 a4 a5) [(.ref a0)]) _
        refine XS.iloadN X0.here hx rfl (hb hby d10_48) rfl ?_
        show own_S p e below s₁ (mkF m 49 (own_loc7 a0 p1 p2 p3 a4 a5) [(.int p1), (.ref a0)]) _
        refine ld105 _ ?_
        show own_S p e below s₁ (mkF m 50 (own_loc7 a0 p1 p2 p3 a4 a5) [.null]) _
        refine XS.aload X0.here hx rfl (hb hby d10_50) rfl rfl ?_
        show own_S p e below s₁ (mkF m 52 (own_loc7 a0 p1 p2 p3 a4 a5) [.null, .null]) _
        refine Jvm.RoadKit.acmp (g := (mkF m 52 (own_loc7 a0 p1 p2 p3 a4 a5) [.null, .null])) X0 hx rfl rfl rfl (pc0 := 52) (pc' := 55) (same := true) rfl (hb hby d10_52) rfl (decide_eq_true rfl) (by decide) (by decide) ?_
        show own_S p e below s₁ (mkF m 55 (own_loc7 a0 p1 p2 p3 a4 a5) []) _
        refine XS.iconst X0.here hx rfl (hb hby d10_55) ?_
        show own_S p e below s₁ (mkF m 56 (own_loc7 a0 p1 p2 p3 a4 a5) [.int 1]) _
        refine XS.goto X0.here hx rfl (pc0 := 56) (pc' := 60) rfl (hb hby d10_56) (by decide) (by decide) ?_
        show own_S p e below s₁ (mkF m 60 (own_loc7 a0 p1 p2 p3 a4 a5) [.int 1]) _
        exact retN X0 hx (t := .boolean) Bd.returns (by simp) (hb hby d10_60) hr
      · show Q10_null Z a0 p1 p2 p3 a4 a5 k nn vs k1 us k2 ws' h0 n0 _ s₁.heap _
        rw [e0]
        exact ⟨rfl, N0, rfl⟩
    · have cp107 : ∀ target, own_S p e below s₁ (mkF m 30 (own_loc6 a0 p1 p2 p3 a4 a5) [(.int p2), (.int (p1 / (3 : Int32)))]) target → own_S p e below s₁ (mkF m 0 (own_loc6 a0 p1 p2 p3 a4 a5) []) target := by
        intro target kt
        show own_S p e below s₁ (mkF m 0 (own_loc6 a0 p1 p2 p3 a4 a5) []) _
        refine cp103 _ ?_
        show own_S p e below s₁ (mkF m 12 (own_loc6 a0 p1 p2 p3 a4 a5) [(.int p3), (.int (p1 / (3 : Int32)))]) _
        refine XS.icmpYes X0.here hx rfl (pc0 := 12) (pc' := 26) rfl (hb hby d10_12) rfl (feq hc102).2 (by decide) (by decide) ?_
        show own_S p e below s₁ (mkF m 26 (own_loc6 a0 p1 p2 p3 a4 a5) []) _
        refine XS.iloadN X0.here hx rfl (hb hby d10_26) rfl ?_
        show own_S p e below s₁ (mkF m 27 (own_loc6 a0 p1 p2 p3 a4 a5) [(.int p1)]) _
        refine XS.iconst X0.here hx rfl (hb hby d10_27) ?_
        show own_S p e below s₁ (mkF m 28 (own_loc6 a0 p1 p2 p3 a4 a5) [.int 3, (.int p1)]) _
        refine XS.idiv X0.here hx rfl (hb hby d10_28) rfl (by decide) ?_
        show own_S p e below s₁ (mkF m 29 (own_loc6 a0 p1 p2 p3 a4 a5) [(.int (p1 / (3 : Int32)))]) _
        refine XS.iloadN X0.here hx rfl (hb hby d10_29) rfl ?_
        exact kt
      by_cases hc106 : (p1 / (3 : Int32)) = p2
      · obtain ⟨cl108, Ar108, q108, S108, M108, H108, G108⟩ := id V_a4
        have hin108 : ¬ ((p1 % (3 : Int32)) < 0 ∨ cl108.slots.size ≤ ((p1 % (3 : Int32))).toNatClampNeg) := inb_of S108 (own_rem p1 hp0)
        have hat108 : cl108.slots[((p1 % (3 : Int32))).toNatClampNeg]? = some .null := Has.at H108 hin108 ((hs hc100).2.2.1 hc102 hc106)
        have ld108 := X0.aaload hx (j := (p1 % (3 : Int32))) (v := .null) (by rw [e0]; exact Ar108.1) (State.isArrayOf_alike hZ.alike Ar108.2.1) rfl Ar108.2.2 hin108 hat108 (g := (mkF m 38 (own_loc6 a0 p1 p2 p3 a4 a5) [(.int (p1 % (3 : Int32))), (.ref a4)])) rfl rfl (hb hby d10_38)
        obtain ⟨cl109, Ar109, q109, S109, M109, H109, G109⟩ := id V_a0
        have hin109 : ¬ (p1 < 0 ∨ cl109.slots.size ≤ (p1).toNatClampNeg) := inb_of S109 ⟨own_nonneg hp0, hc100⟩
        have hat109 : cl109.slots[(p1).toNatClampNeg]? = some .null := Has.at H109 hin109 (hs hc100).1
        have ld109 := X0.aaload hx (j := p1) (v := .null) (by rw [e0]; exact Ar109.1) (State.isArrayOf_alike hZ.alike Ar109.2.1) rfl Ar109.2.2 hin109 hat109 (g := (mkF m 49 (own_loc7 a0 p1 p2 p3 a4 a5) [(.int p1), (.ref a0)])) rfl rfl (hb hby d10_49)
        obtain ⟨fs, hr, hrun, hended, hW, hsame⟩ := X0.leave (v := some (.int (1 : Int32))) (fun h => by rw [Bd.returns] at h; cases h)
        refine ⟨_, _, pre0 _ ?_, hrun, hended, _, _, rfl, ?_, ⟨_, rfl⟩, hW, hsame.mono (by decide) (by decide)⟩
        · show own_S p e below s₁ (mkF m 0 (own_loc6 a0 p1 p2 p3 a4 a5) []) _
          refine cp107 _ ?_
          show own_S p e below s₁ (mkF m 30 (own_loc6 a0 p1 p2 p3 a4 a5) [(.int p2), (.int (p1 / (3 : Int32)))]) _
          refine XS.icmpNo X0.here hx rfl (hb hby d10_30) rfl (teq hc106).2 ?_
          show own_S p e below s₁ (mkF m 33 (own_loc6 a0 p1 p2 p3 a4 a5) []) _
          refine XS.aload X0.here hx rfl (hb hby d10_33) rfl rfl ?_
          show own_S p e below s₁ (mkF m 35 (own_loc6 a0 p1 p2 p3 a4 a5) [(.ref a4)]) _
          refine XS.iloadN X0.here hx rfl (hb hby d10_35) rfl ?_
          show own_S p e below s₁ (mkF m 36 (own_loc6 a0 p1 p2 p3 a4 a5) [(.int p1), (.ref a4)]) _
          refine XS.iconst X0.here hx rfl (hb hby d10_36) ?_
          show own_S p e below s₁ (mkF m 37 (own_loc6 a0 p1 p2 p3 a4 a5) [.int 3, (.int p1), (.ref a4)]) _
          refine iremM X0 hx rfl (hb hby d10_37) rfl (by decide) ?_
          show own_S p e below s₁ (mkF m 38 (own_loc6 a0 p1 p2 p3 a4 a5) [(.int (p1 % (3 : Int32))), (.ref a4)]) _
          refine ld108 _ ?_
          show own_S p e below s₁ (mkF m 39 (own_loc6 a0 p1 p2 p3 a4 a5) [.null]) _
          refine XS.astore X0.here hx rfl (hb hby d10_39) rfl rfl (l' := (own_loc7 a0 p1 p2 p3 a4 a5)) rfl ?_
          show own_S p e below s₁ (mkF m 41 (own_loc7 a0 p1 p2 p3 a4 a5) []) _
          refine XS.goto X0.here hx rfl (pc0 := 41) (pc' := 47) rfl (hb hby d10_41) (by decide) (by decide) ?_
          show own_S p e below s₁ (mkF m 47 (own_loc7 a0 p1 p2 p3 a4 a5) []) _
          refine XS.aloadN X0.here hx rfl (hb hby d10_47) rfl rfl ?_
          show own_S p e below s₁ (mkF m 48 (own_loc7 a0 p1 p2 p3 a4 a5) [(.ref a0)]) _
          refine XS.iloadN X0.here hx rfl (hb hby d10_48) rfl ?_
          show own_S p e below s₁ (mkF m 49 (own_loc7 a0 p1 p2 p3 a4 a5) [(.int p1), (.ref a0)]) _
          refine ld109 _ ?_
          show own_S p e below s₁ (mkF m 50 (own_loc7 a0 p1 p2 p3 a4 a5) [.null]) _
          refine XS.aload X0.here hx rfl (hb hby d10_50) rfl rfl ?_
          show own_S p e below s₁ (mkF m 52 (own_loc7 a0 p1 p2 p3 a4 a5) [.null, .null]) _
          refine Jvm.RoadKit.acmp (g := (mkF m 52 (own_loc7 a0 p1 p2 p3 a4 a5) [.null, .null])) X0 hx rfl rfl rfl (pc0 := 52) (pc' := 55) (same := true) rfl (hb hby d10_52) rfl (decide_eq_true rfl) (by decide) (by decide) ?_
          show own_S p e below s₁ (mkF m 55 (own_loc7 a0 p1 p2 p3 a4 a5) []) _
          refine XS.iconst X0.here hx rfl (hb hby d10_55) ?_
          show own_S p e below s₁ (mkF m 56 (own_loc7 a0 p1 p2 p3 a4 a5) [.int 1]) _
          refine XS.goto X0.here hx rfl (pc0 := 56) (pc' := 60) rfl (hb hby d10_56) (by decide) (by decide) ?_
          show own_S p e below s₁ (mkF m 60 (own_loc7 a0 p1 p2 p3 a4 a5) [.int 1]) _
          exact retN X0 hx (t := .boolean) Bd.returns (by simp) (hb hby d10_60) hr
        · show Q10_null Z a0 p1 p2 p3 a4 a5 k nn vs k1 us k2 ws' h0 n0 _ s₁.heap _
          rw [e0]
          exact ⟨rfl, N0, rfl⟩
      · obtain ⟨cl110, Ar110, q110, S110, M110, H110, G110⟩ := id V_a0
        have hin110 : ¬ (p1 < 0 ∨ cl110.slots.size ≤ (p1).toNatClampNeg) := inb_of S110 ⟨own_nonneg hp0, hc100⟩
        have hat110 : cl110.slots[(p1).toNatClampNeg]? = some .null := Has.at H110 hin110 (hs hc100).1
        have ld110 := X0.aaload hx (j := p1) (v := .null) (by rw [e0]; exact Ar110.1) (State.isArrayOf_alike hZ.alike Ar110.2.1) rfl Ar110.2.2 hin110 hat110 (g := (mkF m 49 (own_loc7 a0 p1 p2 p3 a4 a5) [(.int p1), (.ref a0)])) rfl rfl (hb hby d10_49)
        obtain ⟨fs, hr, hrun, hended, hW, hsame⟩ := X0.leave (v := some (.int (1 : Int32))) (fun h => by rw [Bd.returns] at h; cases h)
        refine ⟨_, _, pre0 _ ?_, hrun, hended, _, _, rfl, ?_, ⟨_, rfl⟩, hW, hsame.mono (by decide) (by decide)⟩
        · show own_S p e below s₁ (mkF m 0 (own_loc6 a0 p1 p2 p3 a4 a5) []) _
          refine cp107 _ ?_
          show own_S p e below s₁ (mkF m 30 (own_loc6 a0 p1 p2 p3 a4 a5) [(.int p2), (.int (p1 / (3 : Int32)))]) _
          refine XS.icmpYes X0.here hx rfl (pc0 := 30) (pc' := 44) rfl (hb hby d10_30) rfl (feq hc106).2 (by decide) (by decide) ?_
          show own_S p e below s₁ (mkF m 44 (own_loc6 a0 p1 p2 p3 a4 a5) []) _
          refine XS.aconstNull X0.here hx rfl (hb hby d10_44) ?_
          show own_S p e below s₁ (mkF m 45 (own_loc6 a0 p1 p2 p3 a4 a5) [.null]) _
          refine XS.astore X0.here hx rfl (hb hby d10_45) rfl rfl (l' := (own_loc7 a0 p1 p2 p3 a4 a5)) rfl ?_
          show own_S p e below s₁ (mkF m 47 (own_loc7 a0 p1 p2 p3 a4 a5) []) _
          refine XS.aloadN X0.here hx rfl (hb hby d10_47) rfl rfl ?_
          show own_S p e below s₁ (mkF m 48 (own_loc7 a0 p1 p2 p3 a4 a5) [(.ref a0)]) _
          refine XS.iloadN X0.here hx rfl (hb hby d10_48) rfl ?_
          show own_S p e below s₁ (mkF m 49 (own_loc7 a0 p1 p2 p3 a4 a5) [(.int p1), (.ref a0)]) _
          refine ld110 _ ?_
          show own_S p e below s₁ (mkF m 50 (own_loc7 a0 p1 p2 p3 a4 a5) [.null]) _
          refine XS.aload X0.here hx rfl (hb hby d10_50) rfl rfl ?_
          show own_S p e below s₁ (mkF m 52 (own_loc7 a0 p1 p2 p3 a4 a5) [.null, .null]) _
          refine Jvm.RoadKit.acmp (g := (mkF m 52 (own_loc7 a0 p1 p2 p3 a4 a5) [.null, .null])) X0 hx rfl rfl rfl (pc0 := 52) (pc' := 55) (same := true) rfl (hb hby d10_52) rfl (decide_eq_true rfl) (by decide) (by decide) ?_
          show own_S p e below s₁ (mkF m 55 (own_loc7 a0 p1 p2 p3 a4 a5) []) _
          refine XS.iconst X0.here hx rfl (hb hby d10_55) ?_
          show own_S p e below s₁ (mkF m 56 (own_loc7 a0 p1 p2 p3 a4 a5) [.int 1]) _
          refine XS.goto X0.here hx rfl (pc0 := 56) (pc' := 60) rfl (hb hby d10_56) (by decide) (by decide) ?_
          show own_S p e below s₁ (mkF m 60 (own_loc7 a0 p1 p2 p3 a4 a5) [.int 1]) _
          exact retN X0 hx (t := .boolean) Bd.returns (by simp) (hb hby d10_60) hr
        · show Q10_null Z a0 p1 p2 p3 a4 a5 k nn vs k1 us k2 ws' h0 n0 _ s₁.heap _
          rw [e0]
          exact ⟨rfl, N0, rfl⟩
  · obtain ⟨fs, hr, hrun, hended, hW, hsame⟩ := X0.leave (v := some (.int (1 : Int32))) (fun h => by rw [Bd.returns] at h; cases h)
    refine ⟨_, _, pre0 _ ?_, hrun, hended, _, _, rfl, ?_, ⟨_, rfl⟩, hW, hsame.mono (by decide) (by decide)⟩
    · show own_S p e below s₁ (mkF m 0 (own_loc6 a0 p1 p2 p3 a4 a5) []) _
      refine cp101 _ ?_
      show own_S p e below s₁ (mkF m 3 (own_loc6 a0 p1 p2 p3 a4 a5) [(.int nn), (.int p1)]) _
      refine XS.icmpNo X0.here hx rfl (hb hby d10_3) rfl (flt hc100).1 ?_
      show own_S p e below s₁ (mkF m 6 (own_loc6 a0 p1 p2 p3 a4 a5) []) _
      refine XS.iconst X0.here hx rfl (hb hby d10_6) ?_
      show own_S p e below s₁ (mkF m 7 (own_loc6 a0 p1 p2 p3 a4 a5) [.int 1]) _
      exact retN X0 hx (t := .boolean) Bd.returns (by simp) (hb hby d10_7) hr
    · show Q10_null Z a0 p1 p2 p3 a4 a5 k nn vs k1 us k2 ws' h0 n0 _ s₁.heap _
      rw [e0]
      exact ⟨rfl, N0, rfl⟩
abbrev own_loc8 (a0 : Addr) (p1 : Int32) (p2 : Int32) (p3 : Int32) (a4 : Addr) (a5 : Addr) (xa : Addr) : Array Slot := #[.val (.ref a0), .val (.int p1), .val (.int p2), .val (.int p3), .val (.ref a4), .val (.ref a5), .val (.ref xa)]
def Q10_ref (Z : State) (a0 : Addr) (p1 : Int32) (p2 : Int32) (p3 : Int32) (a4 : Addr) (a5 : Addr) (k : ClassId) (nn : Int32) (vs : List Value) (k1 : ClassId) (us : List Value) (k2 : ClassId) (ws' : List Value) (xa : Addr) (h0 : Heap) (n0 : Nat) (v : Option Value) (h : Heap) (L : List Loc) : Prop := v = some (.int (1 : Int32)) ∧ Fr n0 L ∧ h = h0
set_option maxRecDepth 65536 in
set_option maxHeartbeats 40000000 in
theorem rm10_ref (l : Launch) (Z : State) (ag : Array Value) (hw : ∀ d ∈ tables_1, d.before ag Z = true) (ws : List Jvm.Cond) (a0 : Addr) (p1 : Int32) (p2 : Int32) (p3 : Int32) (a4 : Addr) (a5 : Addr) (k : ClassId) (nn : Int32) (vs : List Value) (k1 : ClassId) (us : List Value) (k2 : ClassId) (ws' : List Value) (xa : Addr) (h0 : Heap) (n0 : Nat) (Z0 : n0 ≤ h0.size) (V_a0 : Arv Z h0 a0 k (.object "java/lang/String") nn vs .null) (V_a4 : Arv Z h0 a4 k1 (.object "java/lang/String") (3 : Int32) us .null) (V_a5 : Arv Z h0 a5 k2 (.object "java/lang/String") (3 : Int32) ws' .null) (hs : own_slot_ok p1 p2 p3 nn vs us ws' (.ref xa)) (hp0 : 0 ≤ p1.toInt) :
    MetFree l (⟨"com/example/xml_signing/xmlsigning/c14n/TreeElementSetNamesPinLaw", "slot", "([Ljava/lang/String;III[Ljava/lang/String;[Ljava/lang/String;)Z"⟩ : MethodName) (head1 (Jvm.Cond.code (⟨"com/example/xml_signing/xmlsigning/c14n/TreeElementSetNamesPinLaw", "slot", "([Ljava/lang/String;III[Ljava/lang/String;[Ljava/lang/String;)Z"⟩ : MethodName) method_4_code 7 (some .boolean) :: ws) ({ frames := 0, cells := 0, slots := 0, locals := 0 } : Room)) (fun a U => a = #[(.ref a0), (.int p1), (.int p2), (.int p3), (.ref a4), (.ref a5)] ∧ Z.Warmed39 U.vm ∧ U.heap = h0) (fun _ _ _ _ _ => True) (fun _ U o U' => ∃ v L, o = .returned v ∧ Q10_ref Z a0 p1 p2 p3 a4 a5 k nn vs k1 us k2 ws' xa h0 n0 v U'.heap L ∧ FrameEnd U o U' L ({ frames := 0, cells := 0, slots := 0, locals := 0 } : Room).cells ({ frames := 0, cells := 0, slots := 0, locals := 0 } : Room).slots) := by
  refine MetFree.of_bodySF (plainFor_of_name pn_1) hisR ?_
  intro p e s m args below meth c s₁ Bd hml0 hP hK
  obtain ⟨rfl, hZ, hh⟩ := hP
  have hx := Bd.exec
  have hby := Bd.bytes
  have hml : c.maxLocals = 7 := hml0
  have hown : s.vm.findClass "com/example/xml_signing/xmlsigning/c14n/TreeElementSetNamesPinLaw" = some m.cls := findClass_of_methodNamed Bd.named
  have hnm := (name_of_methodNamed Bd.named Bd.method).1
  have X0 : Stand p l e ({ frames := 0, cells := 0, slots := 0, locals := 0 } : Room) s m #[(.ref a0), (.int p1), (.int p2), (.int p3), (.ref a4), (.ref a5)] below meth c s₁ [] 0 0 := Stand.of_body Bd
  have e0 : s₁.heap = h0 := by rw [← hh, Bd.state]; rfl
  have N0 := Fr.nil n0
  have pre0 : ∀ t, Steps p.tables e below (s₁.setTop (mkF m 0 #[.val (.ref a0), .val (.int p1), .val (.int p2), .val (.int p3), .val (.ref a4), .val (.ref a5), .unset] [])) t → Steps p.tables e below (s₁.setTop (entryFrame m #[(.ref a0), (.int p1), (.int p2), (.int p3), (.ref a4), (.ref a5)] 7)) t := fun t k => castTop (ef_10 m a0 p1 p2 p3 a4 a5) k
  obtain ⟨cl111, Ar111, -, S111, M111, -, -⟩ := id V_a0
  have ld111 := X0.arraylength hx (by rw [e0]; exact Ar111.1) (State.isArrayOf_alike hZ.alike Ar111.2.1) (g := (mkF m 2 (own_loc6 a0 p1 p2 p3 a4 a5) [(.ref a0), (.int p1)])) rfl rfl (hb hby d10_2)
  have cp113 : ∀ target, own_S p e below s₁ (mkF m 3 (own_loc6 a0 p1 p2 p3 a4 a5) [(.int nn), (.int p1)]) target → own_S p e below s₁ (mkF m 0 (own_loc6 a0 p1 p2 p3 a4 a5) []) target := by
    intro target kt
    show own_S p e below s₁ (mkF m 0 (own_loc6 a0 p1 p2 p3 a4 a5) []) _
    refine XS.iloadN X0.here hx rfl (hb hby d10_0) rfl ?_
    show own_S p e below s₁ (mkF m 1 (own_loc6 a0 p1 p2 p3 a4 a5) [(.int p1)]) _
    refine XS.aloadN X0.here hx rfl (hb hby d10_1) rfl rfl ?_
    show own_S p e below s₁ (mkF m 2 (own_loc6 a0 p1 p2 p3 a4 a5) [(.ref a0), (.int p1)]) _
    refine ld111 _ ?_
    rw [len_of S111 M111]
    exact kt
  by_cases hc112 : p1 < nn
  · have cp115 : ∀ target, own_S p e below s₁ (mkF m 12 (own_loc6 a0 p1 p2 p3 a4 a5) [(.int p3), (.int (p1 / (3 : Int32)))]) target → own_S p e below s₁ (mkF m 0 (own_loc6 a0 p1 p2 p3 a4 a5) []) target := by
      intro target kt
      show own_S p e below s₁ (mkF m 0 (own_loc6 a0 p1 p2 p3 a4 a5) []) _
      refine cp113 _ ?_
      show own_S p e below s₁ (mkF m 3 (own_loc6 a0 p1 p2 p3 a4 a5) [(.int nn), (.int p1)]) _
      refine XS.icmpYes X0.here hx rfl (pc0 := 3) (pc' := 8) rfl (hb hby d10_3) rfl (tlt hc112).1 (by decide) (by decide) ?_
      show own_S p e below s₁ (mkF m 8 (own_loc6 a0 p1 p2 p3 a4 a5) []) _
      refine XS.iloadN X0.here hx rfl (hb hby d10_8) rfl ?_
      show own_S p e below s₁ (mkF m 9 (own_loc6 a0 p1 p2 p3 a4 a5) [(.int p1)]) _
      refine XS.iconst X0.here hx rfl (hb hby d10_9) ?_
      show own_S p e below s₁ (mkF m 10 (own_loc6 a0 p1 p2 p3 a4 a5) [.int 3, (.int p1)]) _
      refine XS.idiv X0.here hx rfl (hb hby d10_10) rfl (by decide) ?_
      show own_S p e below s₁ (mkF m 11 (own_loc6 a0 p1 p2 p3 a4 a5) [(.int (p1 / (3 : Int32)))]) _
      refine XS.iloadN X0.here hx rfl (hb hby d10_11) rfl ?_
      exact kt
    by_cases hc114 : (p1 / (3 : Int32)) = p3
    · obtain ⟨cl116, Ar116, q116, S116, M116, H116, G116⟩ := id V_a5
      have hin116 : ¬ ((p1 % (3 : Int32)) < 0 ∨ cl116.slots.size ≤ ((p1 % (3 : Int32))).toNatClampNeg) := inb_of S116 (own_rem p1 hp0)
      have hat116 : cl116.slots[((p1 % (3 : Int32))).toNatClampNeg]? = some (.ref xa) := Has.at H116 hin116 ((hs hc112).2.1 hc114)
      have ld116 := X0.aaload hx (j := (p1 % (3 : Int32))) (v := (.ref xa)) (by rw [e0]; exact Ar116.1) (State.isArrayOf_alike hZ.alike Ar116.2.1) rfl Ar116.2.2 hin116 hat116 (g := (mkF m 20 (own_loc6 a0 p1 p2 p3 a4 a5) [(.int (p1 % (3 : Int32))), (.ref a5)])) rfl rfl (hb hby d10_20)
      obtain ⟨cl117, Ar117, q117, S117, M117, H117, G117⟩ := id V_a0
      have hin117 : ¬ (p1 < 0 ∨ cl117.slots.size ≤ (p1).toNatClampNeg) := inb_of S117 ⟨own_nonneg hp0, hc112⟩
      have hat117 : cl117.slots[(p1).toNatClampNeg]? = some (.ref xa) := Has.at H117 hin117 (hs hc112).1
      have ld117 := X0.aaload hx (j := p1) (v := (.ref xa)) (by rw [e0]; exact Ar117.1) (State.isArrayOf_alike hZ.alike Ar117.2.1) rfl Ar117.2.2 hin117 hat117 (g := (mkF m 49 (own_loc8 a0 p1 p2 p3 a4 a5 xa) [(.int p1), (.ref a0)])) rfl rfl (hb hby d10_49)
      obtain ⟨fs, hr, hrun, hended, hW, hsame⟩ := X0.leave (v := some (.int (1 : Int32))) (fun h => by rw [Bd.returns] at h; cases h)
      refine ⟨_, _, pre0 _ ?_, hrun, hended, _, _, rfl, ?_, ⟨_, rfl⟩, hW, hsame.mono (by decide) (by decide)⟩
      · show own_S p e below s₁ (mkF m 0 (own_loc6 a0 p1 p2 p3 a4 a5) []) _
        refine cp115 _ ?_
        show own_S p e below s₁ (mkF m 12 (own_loc6 a0 p1 p2 p3 a4 a5) [(.int p3), (.int (p1 / (3 : Int32)))]) _
        refine XS.icmpNo X0.here hx rfl (hb hby d10_12) rfl (teq hc114).2 ?_
        show own_S p e below s₁ (mkF m 15 (own_loc6 a0 p1 p2 p3 a4 a5) []) _
        refine XS.aload X0.here hx rfl (hb hby d10_15) rfl rfl ?_
        show own_S p e below s₁ (mkF m 17 (own_loc6 a0 p1 p2 p3 a4 a5) [(.ref a5)]) _
        refine XS.iloadN X0.here hx rfl (hb hby d10_17) rfl ?_
        show own_S p e below s₁ (mkF m 18 (own_loc6 a0 p1 p2 p3 a4 a5) [(.int p1), (.ref a5)]) _
        refine XS.iconst X0.here hx rfl (hb hby d10_18) ?_
        show own_S p e below s₁ (mkF m 19 (own_loc6 a0 p1 p2 p3 a4 a5) [.int 3, (.int p1), (.ref a5)]) _
        refine iremM X0 hx rfl (hb hby d10_19) rfl (by decide) ?_
        show own_S p e below s₁ (mkF m 20 (own_loc6 a0 p1 p2 p3 a4 a5) [(.int (p1 % (3 : Int32))), (.ref a5)]) _
        refine ld116 _ ?_
        show own_S p e below s₁ (mkF m 21 (own_loc6 a0 p1 p2 p3 a4 a5) [(.ref xa)]) _
        refine XS.astore X0.here hx rfl (hb hby d10_21) rfl rfl (l' := (own_loc8 a0 p1 p2 p3 a4 a5 xa)) rfl ?_
        show own_S p e below s₁ (mkF m 23 (own_loc8 a0 p1 p2 p3 a4 a5 xa) []) _
        refine XS.goto X0.here hx rfl (pc0 := 23) (pc' := 47) rfl (hb hby d10_23) (by decide) (by decide) ?_
        show own_S p e below s₁ (mkF m 47 (own_loc8 a0 p1 p2 p3 a4 a5 xa) []) _
        refine XS.aloadN X0.here hx rfl (hb hby d10_47) rfl rfl ?_
        show own_S p e below s₁ (mkF m 48 (own_loc8 a0 p1 p2 p3 a4 a5 xa) [(.ref a0)]) _
        refine XS.iloadN X0.here hx rfl (hb hby d10_48) rfl ?_
        show own_S p e below s₁ (mkF m 49 (own_loc8 a0 p1 p2 p3 a4 a5 xa) [(.int p1), (.ref a0)]) _
        refine ld117 _ ?_
        show own_S p e below s₁ (mkF m 50 (own_loc8 a0 p1 p2 p3 a4 a5 xa) [(.ref xa)]) _
        refine XS.aload X0.here hx rfl (hb hby d10_50) rfl rfl ?_
        show own_S p e below s₁ (mkF m 52 (own_loc8 a0 p1 p2 p3 a4 a5 xa) [(.ref xa), (.ref xa)]) _
        refine Jvm.RoadKit.acmp (g := (mkF m 52 (own_loc8 a0 p1 p2 p3 a4 a5 xa) [(.ref xa), (.ref xa)])) X0 hx rfl rfl rfl (pc0 := 52) (pc' := 55) (same := true) rfl (hb hby d10_52) rfl (decide_eq_true rfl) (by decide) (by decide) ?_
        show own_S p e below s₁ (mkF m 55 (own_loc8 a0 p1 p2 p3 a4 a5 xa) []) _
        refine XS.iconst X0.here hx rfl (hb hby d10_55) ?_
        show own_S p e below s₁ (mkF m 56 (own_loc8 a0 p1 p2 p3 a4 a5 xa) [.int 1]) _
        refine XS.goto X0.here hx rfl (pc0 := 56) (pc' := 60) rfl (hb hby d10_56) (by decide) (by decide) ?_
        show own_S p e below s₁ (mkF m 60 (own_loc8 a0 p1 p2 p3 a4 a5 xa) [.int 1]) _
        exact retN X0 hx (t := .boolean) Bd.returns (by simp) (hb hby d10_60) hr
      · show Q10_ref Z a0 p1 p2 p3 a4 a5 k nn vs k1 us k2 ws' xa h0 n0 _ s₁.heap _
        rw [e0]
        exact ⟨rfl, N0, rfl⟩
    · have cp119 : ∀ target, own_S p e below s₁ (mkF m 30 (own_loc6 a0 p1 p2 p3 a4 a5) [(.int p2), (.int (p1 / (3 : Int32)))]) target → own_S p e below s₁ (mkF m 0 (own_loc6 a0 p1 p2 p3 a4 a5) []) target := by
        intro target kt
        show own_S p e below s₁ (mkF m 0 (own_loc6 a0 p1 p2 p3 a4 a5) []) _
        refine cp115 _ ?_
        show own_S p e below s₁ (mkF m 12 (own_loc6 a0 p1 p2 p3 a4 a5) [(.int p3), (.int (p1 / (3 : Int32)))]) _
        refine XS.icmpYes X0.here hx rfl (pc0 := 12) (pc' := 26) rfl (hb hby d10_12) rfl (feq hc114).2 (by decide) (by decide) ?_
        show own_S p e below s₁ (mkF m 26 (own_loc6 a0 p1 p2 p3 a4 a5) []) _
        refine XS.iloadN X0.here hx rfl (hb hby d10_26) rfl ?_
        show own_S p e below s₁ (mkF m 27 (own_loc6 a0 p1 p2 p3 a4 a5) [(.int p1)]) _
        refine XS.iconst X0.here hx rfl (hb hby d10_27) ?_
        show own_S p e below s₁ (mkF m 28 (own_loc6 a0 p1 p2 p3 a4 a5) [.int 3, (.int p1)]) _
        refine XS.idiv X0.here hx rfl (hb hby d10_28) rfl (by decide) ?_
        show own_S p e below s₁ (mkF m 29 (own_loc6 a0 p1 p2 p3 a4 a5) [(.int (p1 / (3 : Int32)))]) _
        refine XS.iloadN X0.here hx rfl (hb hby d10_29) rfl ?_
        exact kt
      by_cases hc118 : (p1 / (3 : Int32)) = p2
      · obtain ⟨cl120, Ar120, q120, S120, M120, H120, G120⟩ := id V_a4
        have hin120 : ¬ ((p1 % (3 : Int32)) < 0 ∨ cl120.slots.size ≤ ((p1 % (3 : Int32))).toNatClampNeg) := inb_of S120 (own_rem p1 hp0)
        have hat120 : cl120.slots[((p1 % (3 : Int32))).toNatClampNeg]? = some (.ref xa) := Has.at H120 hin120 ((hs hc112).2.2.1 hc114 hc118)
        have ld120 := X0.aaload hx (j := (p1 % (3 : Int32))) (v := (.ref xa)) (by rw [e0]; exact Ar120.1) (State.isArrayOf_alike hZ.alike Ar120.2.1) rfl Ar120.2.2 hin120 hat120 (g := (mkF m 38 (own_loc6 a0 p1 p2 p3 a4 a5) [(.int (p1 % (3 : Int32))), (.ref a4)])) rfl rfl (hb hby d10_38)
        obtain ⟨cl121, Ar121, q121, S121, M121, H121, G121⟩ := id V_a0
        have hin121 : ¬ (p1 < 0 ∨ cl121.slots.size ≤ (p1).toNatClampNeg) := inb_of S121 ⟨own_nonneg hp0, hc112⟩
        have hat121 : cl121.slots[(p1).toNatClampNeg]? = some (.ref xa) := Has.at H121 hin121 (hs hc112).1
        have ld121 := X0.aaload hx (j := p1) (v := (.ref xa)) (by rw [e0]; exact Ar121.1) (State.isArrayOf_alike hZ.alike Ar121.2.1) rfl Ar121.2.2 hin121 hat121 (g := (mkF m 49 (own_loc8 a0 p1 p2 p3 a4 a5 xa) [(.int p1), (.ref a0)])) rfl rfl (hb hby d10_49)
        obtain ⟨fs, hr, hrun, hended, hW, hsame⟩ := X0.leave (v := some (.int (1 : Int32))) (fun h => by rw [Bd.returns] at h; cases h)
        refine ⟨_, _, pre0 _ ?_, hrun, hended, _, _, rfl, ?_, ⟨_, rfl⟩, hW, hsame.mono (by decide) (by decide)⟩
        · show own_S p e below s₁ (mkF m 0 (own_loc6 a0 p1 p2 p3 a4 a5) []) _
          refine cp119 _ ?_
          show own_S p e below s₁ (mkF m 30 (own_loc6 a0 p1 p2 p3 a4 a5) [(.int p2), (.int (p1 / (3 : Int32)))]) _
          refine XS.icmpNo X0.here hx rfl (hb hby d10_30) rfl (teq hc118).2 ?_
          show own_S p e below s₁ (mkF m 33 (own_loc6 a0 p1 p2 p3 a4 a5) []) _
          refine XS.aload X0.here hx rfl (hb hby d10_33) rfl rfl ?_
          show own_S p e below s₁ (mkF m 35 (own_loc6 a0 p1 p2 p3 a4 a5) [(.ref a4)]) _
          refine XS.iloadN X0.here hx rfl (hb hby d10_35) rfl ?_
          show own_S p e below s₁ (mkF m 36 (own_loc6 a0 p1 p2 p3 a4 a5) [(.int p1), (.ref a4)]) _
          refine XS.iconst X0.here hx rfl (hb hby d10_36) ?_
          show own_S p e below s₁ (mkF m 37 (own_loc6 a0 p1 p2 p3 a4 a5) [.int 3, (.int p1), (.ref a4)]) _
          refine iremM X0 hx rfl (hb hby d10_37) rfl (by decide) ?_
          show own_S p e below s₁ (mkF m 38 (own_loc6 a0 p1 p2 p3 a4 a5) [(.int (p1 % (3 : Int32))), (.ref a4)]) _
          refine ld120 _ ?_
          show own_S p e below s₁ (mkF m 39 (own_loc6 a0 p1 p2 p3 a4 a5) [(.ref xa)]) _
          refine XS.astore X0.here hx rfl (hb hby d10_39) rfl rfl (l' := (own_loc8 a0 p1 p2 p3 a4 a5 xa)) rfl ?_
          show own_S p e below s₁ (mkF m 41 (own_loc8 a0 p1 p2 p3 a4 a5 xa) []) _
          refine XS.goto X0.here hx rfl (pc0 := 41) (pc' := 47) rfl (hb hby d10_41) (by decide) (by decide) ?_
          show own_S p e below s₁ (mkF m 47 (own_loc8 a0 p1 p2 p3 a4 a5 xa) []) _
          refine XS.aloadN X0.here hx rfl (hb hby d10_47) rfl rfl ?_
          show own_S p e below s₁ (mkF m 48 (own_loc8 a0 p1 p2 p3 a4 a5 xa) [(.ref a0)]) _
          refine XS.iloadN X0.here hx rfl (hb hby d10_48) rfl ?_
          show own_S p e below s₁ (mkF m 49 (own_loc8 a0 p1 p2 p3 a4 a5 xa) [(.int p1), (.ref a0)]) _
          refine ld121 _ ?_
          show own_S p e below s₁ (mkF m 50 (own_loc8 a0 p1 p2 p3 a4 a5 xa) [(.ref xa)]) _
          refine XS.aload X0.here hx rfl (hb hby d10_50) rfl rfl ?_
          show own_S p e below s₁ (mkF m 52 (own_loc8 a0 p1 p2 p3 a4 a5 xa) [(.ref xa), (.ref xa)]) _
          refine Jvm.RoadKit.acmp (g := (mkF m 52 (own_loc8 a0 p1 p2 p3 a4 a5 xa) [(.ref xa), (.ref xa)])) X0 hx rfl rfl rfl (pc0 := 52) (pc' := 55) (same := true) rfl (hb hby d10_52) rfl (decide_eq_true rfl) (by decide) (by decide) ?_
          show own_S p e below s₁ (mkF m 55 (own_loc8 a0 p1 p2 p3 a4 a5 xa) []) _
          refine XS.iconst X0.here hx rfl (hb hby d10_55) ?_
          show own_S p e below s₁ (mkF m 56 (own_loc8 a0 p1 p2 p3 a4 a5 xa) [.int 1]) _
          refine XS.goto X0.here hx rfl (pc0 := 56) (pc' := 60) rfl (hb hby d10_56) (by decide) (by decide) ?_
          show own_S p e below s₁ (mkF m 60 (own_loc8 a0 p1 p2 p3 a4 a5 xa) [.int 1]) _
          exact retN X0 hx (t := .boolean) Bd.returns (by simp) (hb hby d10_60) hr
        · show Q10_ref Z a0 p1 p2 p3 a4 a5 k nn vs k1 us k2 ws' xa h0 n0 _ s₁.heap _
          rw [e0]
          exact ⟨rfl, N0, rfl⟩
      · obtain ⟨cl122, Ar122, q122, S122, M122, H122, G122⟩ := id V_a0
        have hin122 : ¬ (p1 < 0 ∨ cl122.slots.size ≤ (p1).toNatClampNeg) := inb_of S122 ⟨own_nonneg hp0, hc112⟩
        have hat122 : cl122.slots[(p1).toNatClampNeg]? = some (.ref xa) := Has.at H122 hin122 (hs hc112).1
        have ld122 := X0.aaload hx (j := p1) (v := (.ref xa)) (by rw [e0]; exact Ar122.1) (State.isArrayOf_alike hZ.alike Ar122.2.1) rfl Ar122.2.2 hin122 hat122 (g := (mkF m 49 (own_loc7 a0 p1 p2 p3 a4 a5) [(.int p1), (.ref a0)])) rfl rfl (hb hby d10_49)
        obtain ⟨fs, hr, hrun, hended, hW, hsame⟩ := X0.leave (v := some (.int (1 : Int32))) (fun h => by rw [Bd.returns] at h; cases h)
        refine ⟨_, _, pre0 _ ?_, hrun, hended, _, _, rfl, ?_, ⟨_, rfl⟩, hW, hsame.mono (by decide) (by decide)⟩
        · show own_S p e below s₁ (mkF m 0 (own_loc6 a0 p1 p2 p3 a4 a5) []) _
          refine cp119 _ ?_
          show own_S p e below s₁ (mkF m 30 (own_loc6 a0 p1 p2 p3 a4 a5) [(.int p2), (.int (p1 / (3 : Int32)))]) _
          refine XS.icmpYes X0.here hx rfl (pc0 := 30) (pc' := 44) rfl (hb hby d10_30) rfl (feq hc118).2 (by decide) (by decide) ?_
          show own_S p e below s₁ (mkF m 44 (own_loc6 a0 p1 p2 p3 a4 a5) []) _
          refine XS.aconstNull X0.here hx rfl (hb hby d10_44) ?_
          show own_S p e below s₁ (mkF m 45 (own_loc6 a0 p1 p2 p3 a4 a5) [.null]) _
          refine XS.astore X0.here hx rfl (hb hby d10_45) rfl rfl (l' := (own_loc7 a0 p1 p2 p3 a4 a5)) rfl ?_
          show own_S p e below s₁ (mkF m 47 (own_loc7 a0 p1 p2 p3 a4 a5) []) _
          refine XS.aloadN X0.here hx rfl (hb hby d10_47) rfl rfl ?_
          show own_S p e below s₁ (mkF m 48 (own_loc7 a0 p1 p2 p3 a4 a5) [(.ref a0)]) _
          refine XS.iloadN X0.here hx rfl (hb hby d10_48) rfl ?_
          show own_S p e below s₁ (mkF m 49 (own_loc7 a0 p1 p2 p3 a4 a5) [(.int p1), (.ref a0)]) _
          refine ld122 _ ?_
          show own_S p e below s₁ (mkF m 50 (own_loc7 a0 p1 p2 p3 a4 a5) [(.ref xa)]) _
          refine XS.aload X0.here hx rfl (hb hby d10_50) rfl rfl ?_
          show own_S p e below s₁ (mkF m 52 (own_loc7 a0 p1 p2 p3 a4 a5) [.null, (.ref xa)]) _
          refine Jvm.RoadKit.acmp (g := (mkF m 52 (own_loc7 a0 p1 p2 p3 a4 a5) [.null, (.ref xa)])) X0 hx rfl rfl rfl (pc0 := 52) (pc' := 55) (same := true) rfl (hb hby d10_52) rfl (decide_eq_true ((hs hc112).2.2.2 hc114 hc118)) (by decide) (by decide) ?_
          show own_S p e below s₁ (mkF m 55 (own_loc7 a0 p1 p2 p3 a4 a5) []) _
          refine XS.iconst X0.here hx rfl (hb hby d10_55) ?_
          show own_S p e below s₁ (mkF m 56 (own_loc7 a0 p1 p2 p3 a4 a5) [.int 1]) _
          refine XS.goto X0.here hx rfl (pc0 := 56) (pc' := 60) rfl (hb hby d10_56) (by decide) (by decide) ?_
          show own_S p e below s₁ (mkF m 60 (own_loc7 a0 p1 p2 p3 a4 a5) [.int 1]) _
          exact retN X0 hx (t := .boolean) Bd.returns (by simp) (hb hby d10_60) hr
        · show Q10_ref Z a0 p1 p2 p3 a4 a5 k nn vs k1 us k2 ws' xa h0 n0 _ s₁.heap _
          rw [e0]
          exact ⟨rfl, N0, rfl⟩
  · obtain ⟨fs, hr, hrun, hended, hW, hsame⟩ := X0.leave (v := some (.int (1 : Int32))) (fun h => by rw [Bd.returns] at h; cases h)
    refine ⟨_, _, pre0 _ ?_, hrun, hended, _, _, rfl, ?_, ⟨_, rfl⟩, hW, hsame.mono (by decide) (by decide)⟩
    · show own_S p e below s₁ (mkF m 0 (own_loc6 a0 p1 p2 p3 a4 a5) []) _
      refine cp113 _ ?_
      show own_S p e below s₁ (mkF m 3 (own_loc6 a0 p1 p2 p3 a4 a5) [(.int nn), (.int p1)]) _
      refine XS.icmpNo X0.here hx rfl (hb hby d10_3) rfl (flt hc112).1 ?_
      show own_S p e below s₁ (mkF m 6 (own_loc6 a0 p1 p2 p3 a4 a5) []) _
      refine XS.iconst X0.here hx rfl (hb hby d10_6) ?_
      show own_S p e below s₁ (mkF m 7 (own_loc6 a0 p1 p2 p3 a4 a5) [.int 1]) _
      exact retN X0 hx (t := .boolean) Bd.returns (by simp) (hb hby d10_7) hr
    · show Q10_ref Z a0 p1 p2 p3 a4 a5 k nn vs k1 us k2 ws' xa h0 n0 _ s₁.heap _
      rw [e0]
      exact ⟨rfl, N0, rfl⟩
theorem rm10 (l : Launch) (Z : State) (a0_ : Array Value) (hw : ∀ d ∈ tables_1, d.before a0_ Z = true) (ws : List Jvm.Cond) (a0 : Addr) (p1 : Int32) (p2 : Int32) (p3 : Int32) (a4 : Addr) (a5 : Addr) (k : ClassId) (nn : Int32) (vs : List Value) (k1 : ClassId) (us : List Value) (k2 : ClassId) (ws' : List Value) (x : Value) (h0 : Heap) (n0 : Nat) (Z0 : n0 ≤ h0.size) (rv_x : x.isRef = true) (V_a0 : Arv Z h0 a0 k (.object "java/lang/String") nn vs .null) (V_a4 : Arv Z h0 a4 k1 (.object "java/lang/String") (3 : Int32) us .null) (V_a5 : Arv Z h0 a5 k2 (.object "java/lang/String") (3 : Int32) ws' .null) (hs : own_slot_ok p1 p2 p3 nn vs us ws' x) (hp0 : 0 ≤ p1.toInt) :
    MetFree l (⟨"com/example/xml_signing/xmlsigning/c14n/TreeElementSetNamesPinLaw", "slot", "([Ljava/lang/String;III[Ljava/lang/String;[Ljava/lang/String;)Z"⟩ : MethodName) (head1 (Jvm.Cond.code (⟨"com/example/xml_signing/xmlsigning/c14n/TreeElementSetNamesPinLaw", "slot", "([Ljava/lang/String;III[Ljava/lang/String;[Ljava/lang/String;)Z"⟩ : MethodName) method_4_code 7 (some .boolean) :: ws) ({ frames := 0, cells := 0, slots := 0, locals := 0 } : Room)) (fun a U => a = #[(.ref a0), (.int p1), (.int p2), (.int p3), (.ref a4), (.ref a5)] ∧ Z.Warmed39 U.vm ∧ U.heap = h0) (fun _ _ _ _ _ => True) (fun _ U o U' => ∃ v L, o = .returned v ∧ own_Qi (1 : Int32) h0 n0 v U'.heap L ∧ FrameEnd U o U' L ({ frames := 0, cells := 0, slots := 0, locals := 0 } : Room).cells ({ frames := 0, cells := 0, slots := 0, locals := 0 } : Room).slots) := by
  rcases ref_cases rv_x with rfl | ⟨xa, rfl⟩
  · exact rm10_null l Z a0_ hw ws a0 p1 p2 p3 a4 a5 k nn vs k1 us k2 ws' h0 n0 Z0 V_a0 V_a4 V_a5 hs hp0
  · exact rm10_ref l Z a0_ hw ws a0 p1 p2 p3 a4 a5 k nn vs k1 us k2 ws' xa h0 n0 Z0 V_a0 V_a4 V_a5 hs hp0
theorem own_set_len (vs : List Value) (p : Int32) (a b c : Value) : (own_set vs p a b c).length = vs.length := by unfold own_set; rw [List.length_set, List.length_set, List.length_set]
theorem own_cn (p : Int32) : 1 ≤ ((1 : Int32) + ((p &&& (2147483647 : Int32)) % (3 : Int32))).toInt ∧ ((1 : Int32) + ((p &&& (2147483647 : Int32)) % (3 : Int32))).toInt ≤ 3 := by
  have m := c_mask p 2147483647 31 (by decide) (by decide)
  have a := (c_irem (p &&& (2147483647 : Int32)) 3 3 rfl).1 (by omega)
  have s := c_iadd 1 ((p &&& (2147483647 : Int32)) % (3 : Int32)); have r := rng32 ((1 : Int32) + ((p &&& (2147483647 : Int32)) % (3 : Int32))); have e : (1 : Int32).toInt = 1 := rfl
  omega
theorem own_and (p : Int32) : 0 ≤ (p &&& (32767 : Int32)).toInt := by have := c_mask p 32767 15 (by decide) (by decide); omega
theorem own_rem_in (x cn : Int32) (h : 0 ≤ x.toInt) (h1 : 1 ≤ cn.toInt) : 0 ≤ (x % cn).toInt ∧ (x % cn).toInt < cn.toInt := by
  have := (c_iremV x cn).1 h (by omega); exact ⟨this.1, this.2.1⟩
theorem own_three (c : Int32) (h0 : 0 ≤ c.toInt) (h : c.toInt < 3) : c = 0 ∨ c = 1 ∨ c = 2 := by
  simp only [← Int32.toInt_inj, show (0 : Int32).toInt = 0 from rfl, show (1 : Int32).toInt = 1 from rfl, show (2 : Int32).toInt = 2 from rfl]; omega
theorem own_n3 (c : Int32) (h0 : 1 ≤ c.toInt) (h : c.toInt ≤ 3) : c = 1 ∨ c = 2 ∨ c = 3 := by
  simp only [← Int32.toInt_inj, show (1 : Int32).toInt = 1 from rfl, show (2 : Int32).toInt = 2 from rfl, show (3 : Int32).toInt = 3 from rfl]; omega
theorem own_b3 (i cn : Int32) (h1 : 1 ≤ cn.toInt) (h3 : cn.toInt ≤ 3) (h : 0 ≤ i.toInt ∧ i.toInt < cn.toInt) : own_in3 i ((3 : Int32) * cn) := by
  rcases own_three i h.1 (by omega) with rfl | rfl | rfl <;> rcases own_n3 cn h1 h3 with rfl | rfl | rfl <;> first | (unfold own_in3; decide) | exact absurd h (by decide)
def own_x (j : Int32) (vs : List Value) : Value := vs.getD j.toNatClampNeg .null
theorem own_three' (c : Int32) (h0 : 1 ≤ c.toInt) (h : c.toInt ≤ 3) : c = 1 ∨ c = 2 ∨ c = 3 := by
  simp only [← Int32.toInt_inj, show (3 : Int32).toInt = 3 from rfl, show (1 : Int32).toInt = 1 from rfl, show (2 : Int32).toInt = 2 from rfl]; omega
def own_ok (c i j : Int32) : Prop := (c = 1 ∧ i = 0 ∧ j = 0) ∨ (c = 2 ∧ i = 0 ∧ j = 0) ∨ (c = 2 ∧ i = 0 ∧ j = 1) ∨ (c = 2 ∧ i = 1 ∧ j = 0) ∨ (c = 2 ∧ i = 1 ∧ j = 1) ∨ (c = 3 ∧ i = 0 ∧ j = 0) ∨ (c = 3 ∧ i = 0 ∧ j = 1) ∨ (c = 3 ∧ i = 0 ∧ j = 2) ∨ (c = 3 ∧ i = 1 ∧ j = 0) ∨ (c = 3 ∧ i = 1 ∧ j = 1) ∨ (c = 3 ∧ i = 1 ∧ j = 2) ∨ (c = 3 ∧ i = 2 ∧ j = 0) ∨ (c = 3 ∧ i = 2 ∧ j = 1) ∨ (c = 3 ∧ i = 2 ∧ j = 2)
theorem own_oks (c i j : Int32) (h1 : 1 ≤ c.toInt) (h3 : c.toInt ≤ 3) (hi : 0 ≤ i.toInt ∧ i.toInt < c.toInt) (hj : 0 ≤ j.toInt ∧ j.toInt < c.toInt) : own_ok c i j := by
  unfold own_ok
  rcases own_three' c h1 h3 with rfl | rfl | rfl <;> rcases own_three i hi.1 (by have := hi.2; omega) with rfl | rfl | rfl <;> rcases own_three j hj.1 (by have := hj.2; omega) with rfl | rfl | rfl <;> first | (exact absurd hi (by decide)) | (exact absurd hj (by decide)) | decide
theorem own_xrv0 (c i j : Int32) (h1 : 1 ≤ c.toInt) (h3 : c.toInt ≤ 3) (hi : 0 ≤ i.toInt ∧ i.toInt < c.toInt) (hj : 0 ≤ j.toInt ∧ j.toInt < c.toInt) {f0 f1 f2 f3 f4 f5 : Value} (r0 : f0.isRef = true) (r1 : f1.isRef = true) (r2 : f2.isRef = true) (r3 : f3.isRef = true) (r4 : f4.isRef = true) (r5 : f5.isRef = true) : (own_x (0 : Int32) (own_set (own_set (List.replicate (((3 : Int32) * c)).toNatClampNeg (.null : Value)) i f0 f1 f2) j f3 f4 f5)).isRef = true := by
  rcases own_oks c i j h1 h3 hi hj with ⟨rfl, rfl, rfl⟩ | ⟨rfl, rfl, rfl⟩ | ⟨rfl, rfl, rfl⟩ | ⟨rfl, rfl, rfl⟩ | ⟨rfl, rfl, rfl⟩ | ⟨rfl, rfl, rfl⟩ | ⟨rfl, rfl, rfl⟩ | ⟨rfl, rfl, rfl⟩ | ⟨rfl, rfl, rfl⟩ | ⟨rfl, rfl, rfl⟩ | ⟨rfl, rfl, rfl⟩ | ⟨rfl, rfl, rfl⟩ | ⟨rfl, rfl, rfl⟩ | ⟨rfl, rfl, rfl⟩ <;> first | exact r0 | exact r1 | exact r2 | exact r3 | exact r4 | exact r5 | rfl
theorem own_sok0 (c i j : Int32) (h1 : 1 ≤ c.toInt) (h3 : c.toInt ≤ 3) (hi : 0 ≤ i.toInt ∧ i.toInt < c.toInt) (hj : 0 ≤ j.toInt ∧ j.toInt < c.toInt) (f0 f1 f2 f3 f4 f5 : Value) : own_slot_ok (0 : Int32) i j ((3 : Int32) * c) (own_set (own_set (List.replicate (((3 : Int32) * c)).toNatClampNeg (.null : Value)) i f0 f1 f2) j f3 f4 f5) [f0, f1, f2] [f3, f4, f5] (own_x (0 : Int32) (own_set (own_set (List.replicate (((3 : Int32) * c)).toNatClampNeg (.null : Value)) i f0 f1 f2) j f3 f4 f5)) := by
  rcases own_oks c i j h1 h3 hi hj with ⟨rfl, rfl, rfl⟩ | ⟨rfl, rfl, rfl⟩ | ⟨rfl, rfl, rfl⟩ | ⟨rfl, rfl, rfl⟩ | ⟨rfl, rfl, rfl⟩ | ⟨rfl, rfl, rfl⟩ | ⟨rfl, rfl, rfl⟩ | ⟨rfl, rfl, rfl⟩ | ⟨rfl, rfl, rfl⟩ | ⟨rfl, rfl, rfl⟩ | ⟨rfl, rfl, rfl⟩ | ⟨rfl, rfl, rfl⟩ | ⟨rfl, rfl, rfl⟩ | ⟨rfl, rfl, rfl⟩ <;> intro h <;> first | exact absurd h (by decide) | exact ⟨rfl, fun q => by first | rfl | exact absurd q (by decide), fun q r => by first | rfl | exact absurd r (by decide) | exact absurd rfl q | exact absurd (by decide) q, fun q r => by first | rfl | exact absurd (by decide) q | exact absurd (by decide) r⟩
theorem own_xrv1 (c i j : Int32) (h1 : 1 ≤ c.toInt) (h3 : c.toInt ≤ 3) (hi : 0 ≤ i.toInt ∧ i.toInt < c.toInt) (hj : 0 ≤ j.toInt ∧ j.toInt < c.toInt) {f0 f1 f2 f3 f4 f5 : Value} (r0 : f0.isRef = true) (r1 : f1.isRef = true) (r2 : f2.isRef = true) (r3 : f3.isRef = true) (r4 : f4.isRef = true) (r5 : f5.isRef = true) : (own_x (1 : Int32) (own_set (own_set (List.replicate (((3 : Int32) * c)).toNatClampNeg (.null : Value)) i f0 f1 f2) j f3 f4 f5)).isRef = true := by
  rcases own_oks c i j h1 h3 hi hj with ⟨rfl, rfl, rfl⟩ | ⟨rfl, rfl, rfl⟩ | ⟨rfl, rfl, rfl⟩ | ⟨rfl, rfl, rfl⟩ | ⟨rfl, rfl, rfl⟩ | ⟨rfl, rfl, rfl⟩ | ⟨rfl, rfl, rfl⟩ | ⟨rfl, rfl, rfl⟩ | ⟨rfl, rfl, rfl⟩ | ⟨rfl, rfl, rfl⟩ | ⟨rfl, rfl, rfl⟩ | ⟨rfl, rfl, rfl⟩ | ⟨rfl, rfl, rfl⟩ | ⟨rfl, rfl, rfl⟩ <;> first | exact r0 | exact r1 | exact r2 | exact r3 | exact r4 | exact r5 | rfl
theorem own_sok1 (c i j : Int32) (h1 : 1 ≤ c.toInt) (h3 : c.toInt ≤ 3) (hi : 0 ≤ i.toInt ∧ i.toInt < c.toInt) (hj : 0 ≤ j.toInt ∧ j.toInt < c.toInt) (f0 f1 f2 f3 f4 f5 : Value) : own_slot_ok (1 : Int32) i j ((3 : Int32) * c) (own_set (own_set (List.replicate (((3 : Int32) * c)).toNatClampNeg (.null : Value)) i f0 f1 f2) j f3 f4 f5) [f0, f1, f2] [f3, f4, f5] (own_x (1 : Int32) (own_set (own_set (List.replicate (((3 : Int32) * c)).toNatClampNeg (.null : Value)) i f0 f1 f2) j f3 f4 f5)) := by
  rcases own_oks c i j h1 h3 hi hj with ⟨rfl, rfl, rfl⟩ | ⟨rfl, rfl, rfl⟩ | ⟨rfl, rfl, rfl⟩ | ⟨rfl, rfl, rfl⟩ | ⟨rfl, rfl, rfl⟩ | ⟨rfl, rfl, rfl⟩ | ⟨rfl, rfl, rfl⟩ | ⟨rfl, rfl, rfl⟩ | ⟨rfl, rfl, rfl⟩ | ⟨rfl, rfl, rfl⟩ | ⟨rfl, rfl, rfl⟩ | ⟨rfl, rfl, rfl⟩ | ⟨rfl, rfl, rfl⟩ | ⟨rfl, rfl, rfl⟩ <;> intro h <;> first | exact absurd h (by decide) | exact ⟨rfl, fun q => by first | rfl | exact absurd q (by decide), fun q r => by first | rfl | exact absurd r (by decide) | exact absurd rfl q | exact absurd (by decide) q, fun q r => by first | rfl | exact absurd (by decide) q | exact absurd (by decide) r⟩
theorem own_xrv2 (c i j : Int32) (h1 : 1 ≤ c.toInt) (h3 : c.toInt ≤ 3) (hi : 0 ≤ i.toInt ∧ i.toInt < c.toInt) (hj : 0 ≤ j.toInt ∧ j.toInt < c.toInt) {f0 f1 f2 f3 f4 f5 : Value} (r0 : f0.isRef = true) (r1 : f1.isRef = true) (r2 : f2.isRef = true) (r3 : f3.isRef = true) (r4 : f4.isRef = true) (r5 : f5.isRef = true) : (own_x (2 : Int32) (own_set (own_set (List.replicate (((3 : Int32) * c)).toNatClampNeg (.null : Value)) i f0 f1 f2) j f3 f4 f5)).isRef = true := by
  rcases own_oks c i j h1 h3 hi hj with ⟨rfl, rfl, rfl⟩ | ⟨rfl, rfl, rfl⟩ | ⟨rfl, rfl, rfl⟩ | ⟨rfl, rfl, rfl⟩ | ⟨rfl, rfl, rfl⟩ | ⟨rfl, rfl, rfl⟩ | ⟨rfl, rfl, rfl⟩ | ⟨rfl, rfl, rfl⟩ | ⟨rfl, rfl, rfl⟩ | ⟨rfl, rfl, rfl⟩ | ⟨rfl, rfl, rfl⟩ | ⟨rfl, rfl, rfl⟩ | ⟨rfl, rfl, rfl⟩ | ⟨rfl, rfl, rfl⟩ <;> first | exact r0 | exact r1 | exact r2 | exact r3 | exact r4 | exact r5 | rfl
theorem own_sok2 (c i j : Int32) (h1 : 1 ≤ c.toInt) (h3 : c.toInt ≤ 3) (hi : 0 ≤ i.toInt ∧ i.toInt < c.toInt) (hj : 0 ≤ j.toInt ∧ j.toInt < c.toInt) (f0 f1 f2 f3 f4 f5 : Value) : own_slot_ok (2 : Int32) i j ((3 : Int32) * c) (own_set (own_set (List.replicate (((3 : Int32) * c)).toNatClampNeg (.null : Value)) i f0 f1 f2) j f3 f4 f5) [f0, f1, f2] [f3, f4, f5] (own_x (2 : Int32) (own_set (own_set (List.replicate (((3 : Int32) * c)).toNatClampNeg (.null : Value)) i f0 f1 f2) j f3 f4 f5)) := by
  rcases own_oks c i j h1 h3 hi hj with ⟨rfl, rfl, rfl⟩ | ⟨rfl, rfl, rfl⟩ | ⟨rfl, rfl, rfl⟩ | ⟨rfl, rfl, rfl⟩ | ⟨rfl, rfl, rfl⟩ | ⟨rfl, rfl, rfl⟩ | ⟨rfl, rfl, rfl⟩ | ⟨rfl, rfl, rfl⟩ | ⟨rfl, rfl, rfl⟩ | ⟨rfl, rfl, rfl⟩ | ⟨rfl, rfl, rfl⟩ | ⟨rfl, rfl, rfl⟩ | ⟨rfl, rfl, rfl⟩ | ⟨rfl, rfl, rfl⟩ <;> intro h <;> first | exact absurd h (by decide) | exact ⟨rfl, fun q => by first | rfl | exact absurd q (by decide), fun q r => by first | rfl | exact absurd r (by decide) | exact absurd rfl q | exact absurd (by decide) q, fun q r => by first | rfl | exact absurd (by decide) q | exact absurd (by decide) r⟩
theorem own_xrv3 (c i j : Int32) (h1 : 1 ≤ c.toInt) (h3 : c.toInt ≤ 3) (hi : 0 ≤ i.toInt ∧ i.toInt < c.toInt) (hj : 0 ≤ j.toInt ∧ j.toInt < c.toInt) {f0 f1 f2 f3 f4 f5 : Value} (r0 : f0.isRef = true) (r1 : f1.isRef = true) (r2 : f2.isRef = true) (r3 : f3.isRef = true) (r4 : f4.isRef = true) (r5 : f5.isRef = true) : (own_x (3 : Int32) (own_set (own_set (List.replicate (((3 : Int32) * c)).toNatClampNeg (.null : Value)) i f0 f1 f2) j f3 f4 f5)).isRef = true := by
  rcases own_oks c i j h1 h3 hi hj with ⟨rfl, rfl, rfl⟩ | ⟨rfl, rfl, rfl⟩ | ⟨rfl, rfl, rfl⟩ | ⟨rfl, rfl, rfl⟩ | ⟨rfl, rfl, rfl⟩ | ⟨rfl, rfl, rfl⟩ | ⟨rfl, rfl, rfl⟩ | ⟨rfl, rfl, rfl⟩ | ⟨rfl, rfl, rfl⟩ | ⟨rfl, rfl, rfl⟩ | ⟨rfl, rfl, rfl⟩ | ⟨rfl, rfl, rfl⟩ | ⟨rfl, rfl, rfl⟩ | ⟨rfl, rfl, rfl⟩ <;> first | exact r0 | exact r1 | exact r2 | exact r3 | exact r4 | exact r5 | rfl
theorem own_sok3 (c i j : Int32) (h1 : 1 ≤ c.toInt) (h3 : c.toInt ≤ 3) (hi : 0 ≤ i.toInt ∧ i.toInt < c.toInt) (hj : 0 ≤ j.toInt ∧ j.toInt < c.toInt) (f0 f1 f2 f3 f4 f5 : Value) : own_slot_ok (3 : Int32) i j ((3 : Int32) * c) (own_set (own_set (List.replicate (((3 : Int32) * c)).toNatClampNeg (.null : Value)) i f0 f1 f2) j f3 f4 f5) [f0, f1, f2] [f3, f4, f5] (own_x (3 : Int32) (own_set (own_set (List.replicate (((3 : Int32) * c)).toNatClampNeg (.null : Value)) i f0 f1 f2) j f3 f4 f5)) := by
  rcases own_oks c i j h1 h3 hi hj with ⟨rfl, rfl, rfl⟩ | ⟨rfl, rfl, rfl⟩ | ⟨rfl, rfl, rfl⟩ | ⟨rfl, rfl, rfl⟩ | ⟨rfl, rfl, rfl⟩ | ⟨rfl, rfl, rfl⟩ | ⟨rfl, rfl, rfl⟩ | ⟨rfl, rfl, rfl⟩ | ⟨rfl, rfl, rfl⟩ | ⟨rfl, rfl, rfl⟩ | ⟨rfl, rfl, rfl⟩ | ⟨rfl, rfl, rfl⟩ | ⟨rfl, rfl, rfl⟩ | ⟨rfl, rfl, rfl⟩ <;> intro h <;> first | exact absurd h (by decide) | exact ⟨rfl, fun q => by first | rfl | exact absurd q (by decide), fun q r => by first | rfl | exact absurd r (by decide) | exact absurd rfl q | exact absurd (by decide) q, fun q r => by first | rfl | exact absurd (by decide) q | exact absurd (by decide) r⟩
theorem own_xrv4 (c i j : Int32) (h1 : 1 ≤ c.toInt) (h3 : c.toInt ≤ 3) (hi : 0 ≤ i.toInt ∧ i.toInt < c.toInt) (hj : 0 ≤ j.toInt ∧ j.toInt < c.toInt) {f0 f1 f2 f3 f4 f5 : Value} (r0 : f0.isRef = true) (r1 : f1.isRef = true) (r2 : f2.isRef = true) (r3 : f3.isRef = true) (r4 : f4.isRef = true) (r5 : f5.isRef = true) : (own_x (4 : Int32) (own_set (own_set (List.replicate (((3 : Int32) * c)).toNatClampNeg (.null : Value)) i f0 f1 f2) j f3 f4 f5)).isRef = true := by
  rcases own_oks c i j h1 h3 hi hj with ⟨rfl, rfl, rfl⟩ | ⟨rfl, rfl, rfl⟩ | ⟨rfl, rfl, rfl⟩ | ⟨rfl, rfl, rfl⟩ | ⟨rfl, rfl, rfl⟩ | ⟨rfl, rfl, rfl⟩ | ⟨rfl, rfl, rfl⟩ | ⟨rfl, rfl, rfl⟩ | ⟨rfl, rfl, rfl⟩ | ⟨rfl, rfl, rfl⟩ | ⟨rfl, rfl, rfl⟩ | ⟨rfl, rfl, rfl⟩ | ⟨rfl, rfl, rfl⟩ | ⟨rfl, rfl, rfl⟩ <;> first | exact r0 | exact r1 | exact r2 | exact r3 | exact r4 | exact r5 | rfl
theorem own_sok4 (c i j : Int32) (h1 : 1 ≤ c.toInt) (h3 : c.toInt ≤ 3) (hi : 0 ≤ i.toInt ∧ i.toInt < c.toInt) (hj : 0 ≤ j.toInt ∧ j.toInt < c.toInt) (f0 f1 f2 f3 f4 f5 : Value) : own_slot_ok (4 : Int32) i j ((3 : Int32) * c) (own_set (own_set (List.replicate (((3 : Int32) * c)).toNatClampNeg (.null : Value)) i f0 f1 f2) j f3 f4 f5) [f0, f1, f2] [f3, f4, f5] (own_x (4 : Int32) (own_set (own_set (List.replicate (((3 : Int32) * c)).toNatClampNeg (.null : Value)) i f0 f1 f2) j f3 f4 f5)) := by
  rcases own_oks c i j h1 h3 hi hj with ⟨rfl, rfl, rfl⟩ | ⟨rfl, rfl, rfl⟩ | ⟨rfl, rfl, rfl⟩ | ⟨rfl, rfl, rfl⟩ | ⟨rfl, rfl, rfl⟩ | ⟨rfl, rfl, rfl⟩ | ⟨rfl, rfl, rfl⟩ | ⟨rfl, rfl, rfl⟩ | ⟨rfl, rfl, rfl⟩ | ⟨rfl, rfl, rfl⟩ | ⟨rfl, rfl, rfl⟩ | ⟨rfl, rfl, rfl⟩ | ⟨rfl, rfl, rfl⟩ | ⟨rfl, rfl, rfl⟩ <;> intro h <;> first | exact absurd h (by decide) | exact ⟨rfl, fun q => by first | rfl | exact absurd q (by decide), fun q r => by first | rfl | exact absurd r (by decide) | exact absurd rfl q | exact absurd (by decide) q, fun q r => by first | rfl | exact absurd (by decide) q | exact absurd (by decide) r⟩
theorem own_xrv5 (c i j : Int32) (h1 : 1 ≤ c.toInt) (h3 : c.toInt ≤ 3) (hi : 0 ≤ i.toInt ∧ i.toInt < c.toInt) (hj : 0 ≤ j.toInt ∧ j.toInt < c.toInt) {f0 f1 f2 f3 f4 f5 : Value} (r0 : f0.isRef = true) (r1 : f1.isRef = true) (r2 : f2.isRef = true) (r3 : f3.isRef = true) (r4 : f4.isRef = true) (r5 : f5.isRef = true) : (own_x (5 : Int32) (own_set (own_set (List.replicate (((3 : Int32) * c)).toNatClampNeg (.null : Value)) i f0 f1 f2) j f3 f4 f5)).isRef = true := by
  rcases own_oks c i j h1 h3 hi hj with ⟨rfl, rfl, rfl⟩ | ⟨rfl, rfl, rfl⟩ | ⟨rfl, rfl, rfl⟩ | ⟨rfl, rfl, rfl⟩ | ⟨rfl, rfl, rfl⟩ | ⟨rfl, rfl, rfl⟩ | ⟨rfl, rfl, rfl⟩ | ⟨rfl, rfl, rfl⟩ | ⟨rfl, rfl, rfl⟩ | ⟨rfl, rfl, rfl⟩ | ⟨rfl, rfl, rfl⟩ | ⟨rfl, rfl, rfl⟩ | ⟨rfl, rfl, rfl⟩ | ⟨rfl, rfl, rfl⟩ <;> first | exact r0 | exact r1 | exact r2 | exact r3 | exact r4 | exact r5 | rfl
theorem own_sok5 (c i j : Int32) (h1 : 1 ≤ c.toInt) (h3 : c.toInt ≤ 3) (hi : 0 ≤ i.toInt ∧ i.toInt < c.toInt) (hj : 0 ≤ j.toInt ∧ j.toInt < c.toInt) (f0 f1 f2 f3 f4 f5 : Value) : own_slot_ok (5 : Int32) i j ((3 : Int32) * c) (own_set (own_set (List.replicate (((3 : Int32) * c)).toNatClampNeg (.null : Value)) i f0 f1 f2) j f3 f4 f5) [f0, f1, f2] [f3, f4, f5] (own_x (5 : Int32) (own_set (own_set (List.replicate (((3 : Int32) * c)).toNatClampNeg (.null : Value)) i f0 f1 f2) j f3 f4 f5)) := by
  rcases own_oks c i j h1 h3 hi hj with ⟨rfl, rfl, rfl⟩ | ⟨rfl, rfl, rfl⟩ | ⟨rfl, rfl, rfl⟩ | ⟨rfl, rfl, rfl⟩ | ⟨rfl, rfl, rfl⟩ | ⟨rfl, rfl, rfl⟩ | ⟨rfl, rfl, rfl⟩ | ⟨rfl, rfl, rfl⟩ | ⟨rfl, rfl, rfl⟩ | ⟨rfl, rfl, rfl⟩ | ⟨rfl, rfl, rfl⟩ | ⟨rfl, rfl, rfl⟩ | ⟨rfl, rfl, rfl⟩ | ⟨rfl, rfl, rfl⟩ <;> intro h <;> first | exact absurd h (by decide) | exact ⟨rfl, fun q => by first | rfl | exact absurd q (by decide), fun q r => by first | rfl | exact absurd r (by decide) | exact absurd rfl q | exact absurd (by decide) q, fun q r => by first | rfl | exact absurd (by decide) q | exact absurd (by decide) r⟩
theorem own_xrv6 (c i j : Int32) (h1 : 1 ≤ c.toInt) (h3 : c.toInt ≤ 3) (hi : 0 ≤ i.toInt ∧ i.toInt < c.toInt) (hj : 0 ≤ j.toInt ∧ j.toInt < c.toInt) {f0 f1 f2 f3 f4 f5 : Value} (r0 : f0.isRef = true) (r1 : f1.isRef = true) (r2 : f2.isRef = true) (r3 : f3.isRef = true) (r4 : f4.isRef = true) (r5 : f5.isRef = true) : (own_x (6 : Int32) (own_set (own_set (List.replicate (((3 : Int32) * c)).toNatClampNeg (.null : Value)) i f0 f1 f2) j f3 f4 f5)).isRef = true := by
  rcases own_oks c i j h1 h3 hi hj with ⟨rfl, rfl, rfl⟩ | ⟨rfl, rfl, rfl⟩ | ⟨rfl, rfl, rfl⟩ | ⟨rfl, rfl, rfl⟩ | ⟨rfl, rfl, rfl⟩ | ⟨rfl, rfl, rfl⟩ | ⟨rfl, rfl, rfl⟩ | ⟨rfl, rfl, rfl⟩ | ⟨rfl, rfl, rfl⟩ | ⟨rfl, rfl, rfl⟩ | ⟨rfl, rfl, rfl⟩ | ⟨rfl, rfl, rfl⟩ | ⟨rfl, rfl, rfl⟩ | ⟨rfl, rfl, rfl⟩ <;> first | exact r0 | exact r1 | exact r2 | exact r3 | exact r4 | exact r5 | rfl
theorem own_sok6 (c i j : Int32) (h1 : 1 ≤ c.toInt) (h3 : c.toInt ≤ 3) (hi : 0 ≤ i.toInt ∧ i.toInt < c.toInt) (hj : 0 ≤ j.toInt ∧ j.toInt < c.toInt) (f0 f1 f2 f3 f4 f5 : Value) : own_slot_ok (6 : Int32) i j ((3 : Int32) * c) (own_set (own_set (List.replicate (((3 : Int32) * c)).toNatClampNeg (.null : Value)) i f0 f1 f2) j f3 f4 f5) [f0, f1, f2] [f3, f4, f5] (own_x (6 : Int32) (own_set (own_set (List.replicate (((3 : Int32) * c)).toNatClampNeg (.null : Value)) i f0 f1 f2) j f3 f4 f5)) := by
  rcases own_oks c i j h1 h3 hi hj with ⟨rfl, rfl, rfl⟩ | ⟨rfl, rfl, rfl⟩ | ⟨rfl, rfl, rfl⟩ | ⟨rfl, rfl, rfl⟩ | ⟨rfl, rfl, rfl⟩ | ⟨rfl, rfl, rfl⟩ | ⟨rfl, rfl, rfl⟩ | ⟨rfl, rfl, rfl⟩ | ⟨rfl, rfl, rfl⟩ | ⟨rfl, rfl, rfl⟩ | ⟨rfl, rfl, rfl⟩ | ⟨rfl, rfl, rfl⟩ | ⟨rfl, rfl, rfl⟩ | ⟨rfl, rfl, rfl⟩ <;> intro h <;> first | exact absurd h (by decide) | exact ⟨rfl, fun q => by first | rfl | exact absurd q (by decide), fun q r => by first | rfl | exact absurd r (by decide) | exact absurd rfl q | exact absurd (by decide) q, fun q r => by first | rfl | exact absurd (by decide) q | exact absurd (by decide) r⟩
theorem own_xrv7 (c i j : Int32) (h1 : 1 ≤ c.toInt) (h3 : c.toInt ≤ 3) (hi : 0 ≤ i.toInt ∧ i.toInt < c.toInt) (hj : 0 ≤ j.toInt ∧ j.toInt < c.toInt) {f0 f1 f2 f3 f4 f5 : Value} (r0 : f0.isRef = true) (r1 : f1.isRef = true) (r2 : f2.isRef = true) (r3 : f3.isRef = true) (r4 : f4.isRef = true) (r5 : f5.isRef = true) : (own_x (7 : Int32) (own_set (own_set (List.replicate (((3 : Int32) * c)).toNatClampNeg (.null : Value)) i f0 f1 f2) j f3 f4 f5)).isRef = true := by
  rcases own_oks c i j h1 h3 hi hj with ⟨rfl, rfl, rfl⟩ | ⟨rfl, rfl, rfl⟩ | ⟨rfl, rfl, rfl⟩ | ⟨rfl, rfl, rfl⟩ | ⟨rfl, rfl, rfl⟩ | ⟨rfl, rfl, rfl⟩ | ⟨rfl, rfl, rfl⟩ | ⟨rfl, rfl, rfl⟩ | ⟨rfl, rfl, rfl⟩ | ⟨rfl, rfl, rfl⟩ | ⟨rfl, rfl, rfl⟩ | ⟨rfl, rfl, rfl⟩ | ⟨rfl, rfl, rfl⟩ | ⟨rfl, rfl, rfl⟩ <;> first | exact r0 | exact r1 | exact r2 | exact r3 | exact r4 | exact r5 | rfl
theorem own_sok7 (c i j : Int32) (h1 : 1 ≤ c.toInt) (h3 : c.toInt ≤ 3) (hi : 0 ≤ i.toInt ∧ i.toInt < c.toInt) (hj : 0 ≤ j.toInt ∧ j.toInt < c.toInt) (f0 f1 f2 f3 f4 f5 : Value) : own_slot_ok (7 : Int32) i j ((3 : Int32) * c) (own_set (own_set (List.replicate (((3 : Int32) * c)).toNatClampNeg (.null : Value)) i f0 f1 f2) j f3 f4 f5) [f0, f1, f2] [f3, f4, f5] (own_x (7 : Int32) (own_set (own_set (List.replicate (((3 : Int32) * c)).toNatClampNeg (.null : Value)) i f0 f1 f2) j f3 f4 f5)) := by
  rcases own_oks c i j h1 h3 hi hj with ⟨rfl, rfl, rfl⟩ | ⟨rfl, rfl, rfl⟩ | ⟨rfl, rfl, rfl⟩ | ⟨rfl, rfl, rfl⟩ | ⟨rfl, rfl, rfl⟩ | ⟨rfl, rfl, rfl⟩ | ⟨rfl, rfl, rfl⟩ | ⟨rfl, rfl, rfl⟩ | ⟨rfl, rfl, rfl⟩ | ⟨rfl, rfl, rfl⟩ | ⟨rfl, rfl, rfl⟩ | ⟨rfl, rfl, rfl⟩ | ⟨rfl, rfl, rfl⟩ | ⟨rfl, rfl, rfl⟩ <;> intro h <;> first | exact absurd h (by decide) | exact ⟨rfl, fun q => by first | rfl | exact absurd q (by decide), fun q r => by first | rfl | exact absurd r (by decide) | exact absurd rfl q | exact absurd (by decide) q, fun q r => by first | rfl | exact absurd (by decide) q | exact absurd (by decide) r⟩
theorem own_xrv8 (c i j : Int32) (h1 : 1 ≤ c.toInt) (h3 : c.toInt ≤ 3) (hi : 0 ≤ i.toInt ∧ i.toInt < c.toInt) (hj : 0 ≤ j.toInt ∧ j.toInt < c.toInt) {f0 f1 f2 f3 f4 f5 : Value} (r0 : f0.isRef = true) (r1 : f1.isRef = true) (r2 : f2.isRef = true) (r3 : f3.isRef = true) (r4 : f4.isRef = true) (r5 : f5.isRef = true) : (own_x (8 : Int32) (own_set (own_set (List.replicate (((3 : Int32) * c)).toNatClampNeg (.null : Value)) i f0 f1 f2) j f3 f4 f5)).isRef = true := by
  rcases own_oks c i j h1 h3 hi hj with ⟨rfl, rfl, rfl⟩ | ⟨rfl, rfl, rfl⟩ | ⟨rfl, rfl, rfl⟩ | ⟨rfl, rfl, rfl⟩ | ⟨rfl, rfl, rfl⟩ | ⟨rfl, rfl, rfl⟩ | ⟨rfl, rfl, rfl⟩ | ⟨rfl, rfl, rfl⟩ | ⟨rfl, rfl, rfl⟩ | ⟨rfl, rfl, rfl⟩ | ⟨rfl, rfl, rfl⟩ | ⟨rfl, rfl, rfl⟩ | ⟨rfl, rfl, rfl⟩ | ⟨rfl, rfl, rfl⟩ <;> first | exact r0 | exact r1 | exact r2 | exact r3 | exact r4 | exact r5 | rfl
theorem own_sok8 (c i j : Int32) (h1 : 1 ≤ c.toInt) (h3 : c.toInt ≤ 3) (hi : 0 ≤ i.toInt ∧ i.toInt < c.toInt) (hj : 0 ≤ j.toInt ∧ j.toInt < c.toInt) (f0 f1 f2 f3 f4 f5 : Value) : own_slot_ok (8 : Int32) i j ((3 : Int32) * c) (own_set (own_set (List.replicate (((3 : Int32) * c)).toNatClampNeg (.null : Value)) i f0 f1 f2) j f3 f4 f5) [f0, f1, f2] [f3, f4, f5] (own_x (8 : Int32) (own_set (own_set (List.replicate (((3 : Int32) * c)).toNatClampNeg (.null : Value)) i f0 f1 f2) j f3 f4 f5)) := by
  rcases own_oks c i j h1 h3 hi hj with ⟨rfl, rfl, rfl⟩ | ⟨rfl, rfl, rfl⟩ | ⟨rfl, rfl, rfl⟩ | ⟨rfl, rfl, rfl⟩ | ⟨rfl, rfl, rfl⟩ | ⟨rfl, rfl, rfl⟩ | ⟨rfl, rfl, rfl⟩ | ⟨rfl, rfl, rfl⟩ | ⟨rfl, rfl, rfl⟩ | ⟨rfl, rfl, rfl⟩ | ⟨rfl, rfl, rfl⟩ | ⟨rfl, rfl, rfl⟩ | ⟨rfl, rfl, rfl⟩ | ⟨rfl, rfl, rfl⟩ <;> intro h <;> first | exact absurd h (by decide) | exact ⟨rfl, fun q => by first | rfl | exact absurd q (by decide), fun q r => by first | rfl | exact absurd r (by decide) | exact absurd rfl q | exact absurd (by decide) q, fun q r => by first | rfl | exact absurd (by decide) q | exact absurd (by decide) r⟩
theorem ef_0 (m : MethodId) (p0 : Int32) (p1 : Int32) (p2 : Int32) (p3 : Int32) : entryFrame m #[(.int p0), (.int p1), (.int p2), (.int p3)] maxLocals = mkF m 0 #[.val (.int p0), .val (.int p1), .val (.int p2), .val (.int p3), .unset, .unset, .unset, .unset, .unset, .unset, .unset, .unset] [] := by first | (simp [entryFrame, mkF, argsToLocals, Value.category, maxLocals]; done) | rfl
abbrev own_loc9 (p0 : Int32) (p1 : Int32) (p2 : Int32) (p3 : Int32) : Array Slot := #[.val (.int p0), .val (.int p1), .val (.int p2), .val (.int p3), .unset, .unset, .unset, .unset, .unset, .unset, .unset, .unset]
abbrev own_loc10 (p0 : Int32) (p1 : Int32) (p2 : Int32) (p3 : Int32) (cn : Int32) : Array Slot := #[.val (.int p0), .val (.int p1), .val (.int p2), .val (.int p3), .val (.int cn), .unset, .unset, .unset, .unset, .unset, .unset, .unset]
abbrev own_loc11 (p0 : Int32) (p1 : Int32) (p2 : Int32) (p3 : Int32) (cn : Int32) (ii : Int32) : Array Slot := #[.val (.int p0), .val (.int p1), .val (.int p2), .val (.int p3), .val (.int cn), .val (.int ii), .unset, .unset, .unset, .unset, .unset, .unset]
abbrev own_loc12 (p0 : Int32) (p1 : Int32) (p2 : Int32) (p3 : Int32) (cn : Int32) (ii : Int32) (jj : Int32) : Array Slot := #[.val (.int p0), .val (.int p1), .val (.int p2), .val (.int p3), .val (.int cn), .val (.int ii), .val (.int jj), .unset, .unset, .unset, .unset, .unset]
def own_n1 (p0 : Int32) : Int32 := (if ((own_ushr p0 (31 : Int32)) &&& (1 : Int32)) = (0 : Int32) then (0 : Int32) else (1 : Int32))
abbrev own_loc13 (p0 : Int32) (p1 : Int32) (p2 : Int32) (p3 : Int32) (cn : Int32) (ii : Int32) (jj : Int32) : Array Slot := #[.val (.int p0), .val (.int p1), .val (.int p2), .val (.int p3), .val (.int cn), .val (.int ii), .val (.int jj), .val (.int (own_n1 p0)), .unset, .unset, .unset, .unset]
def own_n2 (p0 : Int32) : Int32 := (if ((own_ushr p0 (30 : Int32)) &&& (1 : Int32)) = (0 : Int32) then (0 : Int32) else (1 : Int32))
abbrev own_loc14 (p0 : Int32) (p1 : Int32) (p2 : Int32) (p3 : Int32) (cn : Int32) (ii : Int32) (jj : Int32) : Array Slot := #[.val (.int p0), .val (.int p1), .val (.int p2), .val (.int p3), .val (.int cn), .val (.int ii), .val (.int jj), .val (.int (own_n1 p0)), .val (.int (own_n2 p0)), .unset, .unset, .unset]
theorem pd_1 : parseMethodDescriptor "(I)Ljava/lang/String;" = some ⟨[.int], some (.object "java/lang/String")⟩ := by decide +kernel
abbrev own_loc15 (p0 : Int32) (p1 : Int32) (p2 : Int32) (p3 : Int32) (cn : Int32) (ii : Int32) (jj : Int32) (b130 : Addr) : Array Slot := #[.val (.int p0), .val (.int p1), .val (.int p2), .val (.int p3), .val (.int cn), .val (.int ii), .val (.int jj), .val (.int (own_n1 p0)), .val (.int (own_n2 p0)), .val (.ref b130), .unset, .unset]
abbrev own_loc16 (p0 : Int32) (p1 : Int32) (p2 : Int32) (p3 : Int32) (cn : Int32) (ii : Int32) (jj : Int32) (b130 : Addr) (b179 : Addr) : Array Slot := #[.val (.int p0), .val (.int p1), .val (.int p2), .val (.int p3), .val (.int cn), .val (.int ii), .val (.int jj), .val (.int (own_n1 p0)), .val (.int (own_n2 p0)), .val (.ref b130), .val (.ref b179), .unset]
theorem pd_2 : parseMethodDescriptor "(I)[Ljava/lang/String;" = some ⟨[.int], some (.array (.object "java/lang/String"))⟩ := by decide +kernel
abbrev own_loc17 (p0 : Int32) (p1 : Int32) (p2 : Int32) (p3 : Int32) (cn : Int32) (ii : Int32) (jj : Int32) (b130 : Addr) (b179 : Addr) (r277 : Addr) : Array Slot := #[.val (.int p0), .val (.int p1), .val (.int p2), .val (.int p3), .val (.int cn), .val (.int ii), .val (.int jj), .val (.int (own_n1 p0)), .val (.int (own_n2 p0)), .val (.ref b130), .val (.ref b179), .val (.ref r277)]
theorem pd_9 : parseMethodDescriptor "([Ljava/lang/String;ILjava/lang/String;Ljava/lang/String;Ljava/lang/String;)V" = some ⟨[(.array (.object "java/lang/String")), .int, (.object "java/lang/String"), (.object "java/lang/String"), (.object "java/lang/String")], none⟩ := by decide +kernel
theorem pd_8 : parseMethodDescriptor "([Ljava/lang/String;III[Ljava/lang/String;[Ljava/lang/String;)Z" = some ⟨[(.array (.object "java/lang/String")), .int, .int, .int, (.array (.object "java/lang/String")), (.array (.object "java/lang/String"))], some .boolean⟩ := by decide +kernel
def Q0 (n0 : Nat) (v : Option Value) (h : Heap) (L : List Loc) : Prop := v = some (.int 1) ∧ Fr n0 L
set_option maxRecDepth 65536 in
set_option maxHeartbeats 40000000 in
theorem rm0 (l : Launch) (Z : State) (ag : Array Value) (hw : ∀ d ∈ tables_1, d.before ag Z = true) (ws : List Jvm.Cond) (p0 : Int32) (p1 : Int32) (p2 : Int32) (p3 : Int32) (cs : Int32) (h0 : Heap) (n0 : Nat) (Z0 : n0 ≤ h0.size) (O_ : Old Z n0 h0) (S_cs : Sta Z Z.heap "java/lang/String" "COMPACT_STRINGS" "Z" (.int cs)) (hcs : ¬ cs = (0 : Int32)) :
    MetFree l x (head1 (Jvm.Cond.code x code maxLocals ret :: ws) room_1) (fun a U => a = #[(.int p0), (.int p1), (.int p2), (.int p3)] ∧ Z.Warmed39 U.vm ∧ U.heap = h0) (fun _ _ _ _ _ => True) (fun _ U o U' => ∃ v L, o = .returned v ∧ Q0 n0 v U'.heap L ∧ FrameEnd U o U' L 21 51) := by
  refine MetFree.of_bodySF (plainFor_of_name pn_1) hisR ?_
  intro p e s m args below meth c s₁ Bd hml0 hP hK
  obtain ⟨rfl, hZ, hh⟩ := hP
  have hx := Bd.exec
  have hby := Bd.bytes
  have hml : c.maxLocals = 12 := hml0
  have hown : s.vm.findClass "com/example/xml_signing/xmlsigning/c14n/TreeElementSetNamesPinLaw" = some m.cls := findClass_of_methodNamed Bd.named
  have hnm := (name_of_methodNamed Bd.named Bd.method).1
  have X0 : Stand p l e room_1 s m #[(.int p0), (.int p1), (.int p2), (.int p3)] below meth c s₁ [] 0 0 := Stand.of_body Bd
  have e0 : s₁.heap = h0 := by rw [← hh, Bd.state]; rfl
  have N0 := Fr.nil n0
  have pre0 : ∀ t, Steps p.tables e below (s₁.setTop (mkF m 0 #[.val (.int p0), .val (.int p1), .val (.int p2), .val (.int p3), .unset, .unset, .unset, .unset, .unset, .unset, .unset, .unset] [])) t → Steps p.tables e below (s₁.setTop (entryFrame m #[(.int p0), (.int p1), (.int p2), (.int p3)] maxLocals)) t := fun t k => castTop (ef_0 m p0 p1 p2 p3) k
  obtain ⟨cn, h_cn⟩ : ∃ z : Int32, z = ((1 : Int32) + ((p0 &&& (2147483647 : Int32)) % (3 : Int32))) := ⟨_, rfl⟩
  have sg123 : ∀ target, Steps p.tables e below (s₁.setTop (mkF m 8 (own_loc9 p0 p1 p2 p3) [(.int cn)])) target → Steps p.tables e below (s₁.setTop (mkF m 8 (own_loc9 p0 p1 p2 p3) [(.int ((1 : Int32) + ((p0 &&& (2147483647 : Int32)) % (3 : Int32))))])) target := by subst h_cn; exact fun _ k => k
  have hc1 : 1 ≤ cn.toInt := by rw [h_cn]; exact (own_cn p0).1
  have hc3 : cn.toInt ≤ 3 := by rw [h_cn]; exact (own_cn p0).2
  obtain ⟨ii, h_ii⟩ : ∃ z : Int32, z = ((p1 &&& (32767 : Int32)) % cn) := ⟨_, rfl⟩
  have sg124 : ∀ target, Steps p.tables e below (s₁.setTop (mkF m 18 (own_loc10 p0 p1 p2 p3 cn) [(.int ii)])) target → Steps p.tables e below (s₁.setTop (mkF m 18 (own_loc10 p0 p1 p2 p3 cn) [(.int ((p1 &&& (32767 : Int32)) % cn))])) target := by subst h_ii; exact fun _ k => k
  have h0ii : 0 ≤ ii.toInt ∧ ii.toInt < cn.toInt := by rw [h_ii]; exact own_rem_in _ cn (own_and _) hc1
  obtain ⟨jj, h_jj⟩ : ∃ z : Int32, z = (((own_ushr p1 (16 : Int32)) &&& (32767 : Int32)) % cn) := ⟨_, rfl⟩
  have sg125 : ∀ target, Steps p.tables e below (s₁.setTop (mkF m 31 (own_loc11 p0 p1 p2 p3 cn ii) [(.int jj)])) target → Steps p.tables e below (s₁.setTop (mkF m 31 (own_loc11 p0 p1 p2 p3 cn ii) [(.int (((own_ushr p1 (16 : Int32)) &&& (32767 : Int32)) % cn))])) target := by subst h_jj; exact fun _ k => k
  have h0jj : 0 ≤ jj.toInt ∧ jj.toInt < cn.toInt := by rw [h_jj]; exact own_rem_in _ cn (own_and _) hc1
  have sg127 : ∀ target, Steps p.tables e below (s₁.setTop (mkF m 47 (own_loc12 p0 p1 p2 p3 cn ii jj) [(.int (own_n1 p0))])) target → Steps p.tables e below (s₁.setTop (mkF m 33 (own_loc12 p0 p1 p2 p3 cn ii jj) [])) target := by
    intro target kt
    show own_S p e below s₁ (mkF m 33 (own_loc12 p0 p1 p2 p3 cn ii jj) []) _
    refine XS.iloadN X0.here hx rfl (hb hby at_33) rfl ?_
    show own_S p e below s₁ (mkF m 34 (own_loc12 p0 p1 p2 p3 cn ii jj) [(.int p0)]) _
    refine XS.bipush X0.here hx rfl (hb hby at_34) ?_
    show own_S p e below s₁ (mkF m 36 (own_loc12 p0 p1 p2 p3 cn ii jj) [.int 31, (.int p0)]) _
    refine XS.iushr X0.here hx rfl (hb hby at_36) rfl ?_
    show own_S p e below s₁ (mkF m 37 (own_loc12 p0 p1 p2 p3 cn ii jj) [(.int (own_ushr p0 (31 : Int32)))]) _
    refine XS.iconst X0.here hx rfl (hb hby at_37) ?_
    show own_S p e below s₁ (mkF m 38 (own_loc12 p0 p1 p2 p3 cn ii jj) [.int 1, (.int (own_ushr p0 (31 : Int32)))]) _
    refine XS.iand X0.here hx rfl (hb hby at_38) rfl ?_
    by_cases hc126 : ((own_ushr p0 (31 : Int32)) &&& (1 : Int32)) = (0 : Int32)
    · show own_S p e below s₁ (mkF m 39 (own_loc12 p0 p1 p2 p3 cn ii jj) [(.int ((own_ushr p0 (31 : Int32)) &&& (1 : Int32)))]) _
      refine XS.ifYes X0.here hx rfl (pc0 := 39) (pc' := 46) rfl (hb hby at_39) rfl ((if0 _ _).trans (teq hc126).1) (by decide) (by decide) ?_
      show own_S p e below s₁ (mkF m 46 (own_loc12 p0 p1 p2 p3 cn ii jj) []) _
      refine XS.iconst X0.here hx rfl (hb hby at_46) ?_
      show own_S p e below s₁ (mkF m 47 (own_loc12 p0 p1 p2 p3 cn ii jj) [.int 0]) _
      have kt := own_cast (P := fun z => Steps p.tables e below (s₁.setTop (mkF m 47 (own_loc12 p0 p1 p2 p3 cn ii jj) [(.int z)])) target) (show (own_n1 p0) = (0 : Int32) from (by unfold own_n1; rw [if_pos hc126])) kt
      exact kt
    · show own_S p e below s₁ (mkF m 39 (own_loc12 p0 p1 p2 p3 cn ii jj) [(.int ((own_ushr p0 (31 : Int32)) &&& (1 : Int32)))]) _
      refine XS.ifNo X0.here hx rfl (hb hby at_39) rfl ((if0 _ _).trans (feq hc126).1) ?_
      show own_S p e below s₁ (mkF m 42 (own_loc12 p0 p1 p2 p3 cn ii jj) []) _
      refine XS.iconst X0.here hx rfl (hb hby at_42) ?_
      show own_S p e below s₁ (mkF m 43 (own_loc12 p0 p1 p2 p3 cn ii jj) [.int 1]) _
      refine XS.goto X0.here hx rfl (pc0 := 43) (pc' := 47) rfl (hb hby at_43) (by decide) (by decide) ?_
      show own_S p e below s₁ (mkF m 47 (own_loc12 p0 p1 p2 p3 cn ii jj) [.int 1]) _
      have kt := own_cast (P := fun z => Steps p.tables e below (s₁.setTop (mkF m 47 (own_loc12 p0 p1 p2 p3 cn ii jj) [(.int z)])) target) (show (own_n1 p0) = (1 : Int32) from (by unfold own_n1; rw [if_neg hc126])) kt
      exact kt
  have sg129 : ∀ target, Steps p.tables e below (s₁.setTop (mkF m 63 (own_loc13 p0 p1 p2 p3 cn ii jj) [(.int (own_n2 p0))])) target → Steps p.tables e below (s₁.setTop (mkF m 49 (own_loc13 p0 p1 p2 p3 cn ii jj) [])) target := by
    intro target kt
    show own_S p e below s₁ (mkF m 49 (own_loc13 p0 p1 p2 p3 cn ii jj) []) _
    refine XS.iloadN X0.here hx rfl (hb hby at_49) rfl ?_
    show own_S p e below s₁ (mkF m 50 (own_loc13 p0 p1 p2 p3 cn ii jj) [(.int p0)]) _
    refine XS.bipush X0.here hx rfl (hb hby at_50) ?_
    show own_S p e below s₁ (mkF m 52 (own_loc13 p0 p1 p2 p3 cn ii jj) [.int 30, (.int p0)]) _
    refine XS.iushr X0.here hx rfl (hb hby at_52) rfl ?_
    show own_S p e below s₁ (mkF m 53 (own_loc13 p0 p1 p2 p3 cn ii jj) [(.int (own_ushr p0 (30 : Int32)))]) _
    refine XS.iconst X0.here hx rfl (hb hby at_53) ?_
    show own_S p e below s₁ (mkF m 54 (own_loc13 p0 p1 p2 p3 cn ii jj) [.int 1, (.int (own_ushr p0 (30 : Int32)))]) _
    refine XS.iand X0.here hx rfl (hb hby at_54) rfl ?_
    by_cases hc128 : ((own_ushr p0 (30 : Int32)) &&& (1 : Int32)) = (0 : Int32)
    · show own_S p e below s₁ (mkF m 55 (own_loc13 p0 p1 p2 p3 cn ii jj) [(.int ((own_ushr p0 (30 : Int32)) &&& (1 : Int32)))]) _
      refine XS.ifYes X0.here hx rfl (pc0 := 55) (pc' := 62) rfl (hb hby at_55) rfl ((if0 _ _).trans (teq hc128).1) (by decide) (by decide) ?_
      show own_S p e below s₁ (mkF m 62 (own_loc13 p0 p1 p2 p3 cn ii jj) []) _
      refine XS.iconst X0.here hx rfl (hb hby at_62) ?_
      show own_S p e below s₁ (mkF m 63 (own_loc13 p0 p1 p2 p3 cn ii jj) [.int 0]) _
      have kt := own_cast (P := fun z => Steps p.tables e below (s₁.setTop (mkF m 63 (own_loc13 p0 p1 p2 p3 cn ii jj) [(.int z)])) target) (show (own_n2 p0) = (0 : Int32) from (by unfold own_n2; rw [if_pos hc128])) kt
      exact kt
    · show own_S p e below s₁ (mkF m 55 (own_loc13 p0 p1 p2 p3 cn ii jj) [(.int ((own_ushr p0 (30 : Int32)) &&& (1 : Int32)))]) _
      refine XS.ifNo X0.here hx rfl (hb hby at_55) rfl ((if0 _ _).trans (feq hc128).1) ?_
      show own_S p e below s₁ (mkF m 58 (own_loc13 p0 p1 p2 p3 cn ii jj) []) _
      refine XS.iconst X0.here hx rfl (hb hby at_58) ?_
      show own_S p e below s₁ (mkF m 59 (own_loc13 p0 p1 p2 p3 cn ii jj) [.int 1]) _
      refine XS.goto X0.here hx rfl (pc0 := 59) (pc' := 63) rfl (hb hby at_59) (by decide) (by decide) ?_
      show own_S p e below s₁ (mkF m 63 (own_loc13 p0 p1 p2 p3 cn ii jj) [.int 1]) _
      have kt := own_cast (P := fun z => Steps p.tables e below (s₁.setTop (mkF m 63 (own_loc13 p0 p1 p2 p3 cn ii jj) [(.int z)])) target) (show (own_n2 p0) = (1 : Int32) from (by unfold own_n2; rw [if_neg hc128])) kt
      exact kt
  obtain ⟨T130, h130, k130, X130, e130, E130, A130, O130, st130⟩ := newR X0 hx hZ hown (hw _ (List.mem_of_getElem? (i := 1) rfl)) (hw _ (List.mem_of_getElem? (i := 2) rfl)) e0 (g := (mkF m 66 (own_loc14 p0 p1 p2 p3 cn ii jj) [.int 3])) rfl (hb hby at_66) rfl (by decide) (cap := 3) (by decide) (by decide) (by decide) (by decide)
  obtain ⟨b130, g130⟩ : ∃ z, z = h0.size := ⟨_, rfl⟩
  have ge_b130 : n0 ≤ b130 := Nat.le_trans Z0 (Nat.le_of_eq g130.symm)
  rw [← g130] at A130 st130
  have x131 := O_.ext E130
  have sz132 : n0 ≤ h130.size := Nat.le_trans Z0 E130.1
  have V130 : Arv Z h130 b130 k130 (.object "java/lang/String") (3 : Int32) [.null, .null, .null] .null := (Arv.new A130 (by decide)).pad (pad_rep [] .null 3)
  have cp133 : ∀ target, own_S p e below T130 (mkF m 72 (own_loc14 p0 p1 p2 p3 cn ii jj) [(.int p2), .int 0, (.ref b130), (.ref b130)]) target → own_S p e below s₁ (mkF m 0 (own_loc9 p0 p1 p2 p3) []) target := by
    intro target kt
    show own_S p e below s₁ (mkF m 0 (own_loc9 p0 p1 p2 p3) []) _
    refine XS.iconst X0.here hx rfl (hb hby at_0) ?_
    show own_S p e below s₁ (mkF m 1 (own_loc9 p0 p1 p2 p3) [.int 1]) _
    refine XS.iloadN X0.here hx rfl (hb hby at_1) rfl ?_
    show own_S p e below s₁ (mkF m 2 (own_loc9 p0 p1 p2 p3) [(.int p0), .int 1]) _
    refine X0.ldcInt hx hown (mvT hZ (hw _ (List.mem_of_getElem? (i := 0) rfl))) (g := (mkF m 2 (own_loc9 p0 p1 p2 p3) [(.int p0), .int 1])) rfl (hb hby at_2) _ ?_
    show own_S p e below s₁ (mkF m 4 (own_loc9 p0 p1 p2 p3) [.int 2147483647, (.int p0), .int 1]) _
    refine XS.iand X0.here hx rfl (hb hby at_4) rfl ?_
    show own_S p e below s₁ (mkF m 5 (own_loc9 p0 p1 p2 p3) [(.int (p0 &&& (2147483647 : Int32))), .int 1]) _
    refine XS.iconst X0.here hx rfl (hb hby at_5) ?_
    show own_S p e below s₁ (mkF m 6 (own_loc9 p0 p1 p2 p3) [.int 3, (.int (p0 &&& (2147483647 : Int32))), .int 1]) _
    refine iremM X0 hx rfl (hb hby at_6) rfl (by decide) ?_
    show own_S p e below s₁ (mkF m 7 (own_loc9 p0 p1 p2 p3) [(.int ((p0 &&& (2147483647 : Int32)) % (3 : Int32))), .int 1]) _
    refine XS.iadd X0.here hx rfl (hb hby at_7) rfl ?_
    show own_S p e below s₁ (mkF m 8 (own_loc9 p0 p1 p2 p3) [(.int ((1 : Int32) + ((p0 &&& (2147483647 : Int32)) % (3 : Int32))))]) _
    refine sg123 _ ?_
    show own_S p e below s₁ (mkF m 8 (own_loc9 p0 p1 p2 p3) [(.int cn)]) _
    refine XS.istore X0.here hx rfl (hb hby at_8) rfl (l' := (own_loc10 p0 p1 p2 p3 cn)) rfl ?_
    show own_S p e below s₁ (mkF m 10 (own_loc10 p0 p1 p2 p3 cn) []) _
    refine XS.iloadN X0.here hx rfl (hb hby at_10) rfl ?_
    show own_S p e below s₁ (mkF m 11 (own_loc10 p0 p1 p2 p3 cn) [(.int p1)]) _
    refine XS.sipush X0.here hx rfl (hb hby at_11) ?_
    show own_S p e below s₁ (mkF m 14 (own_loc10 p0 p1 p2 p3 cn) [.int 32767, (.int p1)]) _
    refine XS.iand X0.here hx rfl (hb hby at_14) rfl ?_
    show own_S p e below s₁ (mkF m 15 (own_loc10 p0 p1 p2 p3 cn) [(.int (p1 &&& (32767 : Int32)))]) _
    refine XS.iload X0.here hx rfl (hb hby at_15) rfl ?_
    show own_S p e below s₁ (mkF m 17 (own_loc10 p0 p1 p2 p3 cn) [(.int cn), (.int (p1 &&& (32767 : Int32)))]) _
    refine iremM X0 hx rfl (hb hby at_17) rfl (own_nz cn hc1) ?_
    show own_S p e below s₁ (mkF m 18 (own_loc10 p0 p1 p2 p3 cn) [(.int ((p1 &&& (32767 : Int32)) % cn))]) _
    refine sg124 _ ?_
    show own_S p e below s₁ (mkF m 18 (own_loc10 p0 p1 p2 p3 cn) [(.int ii)]) _
    refine XS.istore X0.here hx rfl (hb hby at_18) rfl (l' := (own_loc11 p0 p1 p2 p3 cn ii)) rfl ?_
    show own_S p e below s₁ (mkF m 20 (own_loc11 p0 p1 p2 p3 cn ii) []) _
    refine XS.iloadN X0.here hx rfl (hb hby at_20) rfl ?_
    show own_S p e below s₁ (mkF m 21 (own_loc11 p0 p1 p2 p3 cn ii) [(.int p1)]) _
    refine XS.bipush X0.here hx rfl (hb hby at_21) ?_
    show own_S p e below s₁ (mkF m 23 (own_loc11 p0 p1 p2 p3 cn ii) [.int 16, (.int p1)]) _
    refine XS.iushr X0.here hx rfl (hb hby at_23) rfl ?_
    show own_S p e below s₁ (mkF m 24 (own_loc11 p0 p1 p2 p3 cn ii) [(.int (own_ushr p1 (16 : Int32)))]) _
    refine XS.sipush X0.here hx rfl (hb hby at_24) ?_
    show own_S p e below s₁ (mkF m 27 (own_loc11 p0 p1 p2 p3 cn ii) [.int 32767, (.int (own_ushr p1 (16 : Int32)))]) _
    refine XS.iand X0.here hx rfl (hb hby at_27) rfl ?_
    show own_S p e below s₁ (mkF m 28 (own_loc11 p0 p1 p2 p3 cn ii) [(.int ((own_ushr p1 (16 : Int32)) &&& (32767 : Int32)))]) _
    refine XS.iload X0.here hx rfl (hb hby at_28) rfl ?_
    show own_S p e below s₁ (mkF m 30 (own_loc11 p0 p1 p2 p3 cn ii) [(.int cn), (.int ((own_ushr p1 (16 : Int32)) &&& (32767 : Int32)))]) _
    refine iremM X0 hx rfl (hb hby at_30) rfl (own_nz cn hc1) ?_
    show own_S p e below s₁ (mkF m 31 (own_loc11 p0 p1 p2 p3 cn ii) [(.int (((own_ushr p1 (16 : Int32)) &&& (32767 : Int32)) % cn))]) _
    refine sg125 _ ?_
    show own_S p e below s₁ (mkF m 31 (own_loc11 p0 p1 p2 p3 cn ii) [(.int jj)]) _
    refine XS.istore X0.here hx rfl (hb hby at_31) rfl (l' := (own_loc12 p0 p1 p2 p3 cn ii jj)) rfl ?_
    show own_S p e below s₁ (mkF m 33 (own_loc12 p0 p1 p2 p3 cn ii jj) []) _
    refine sg127 _ ?_
    show own_S p e below s₁ (mkF m 47 (own_loc12 p0 p1 p2 p3 cn ii jj) [(.int (own_n1 p0))]) _
    refine XS.istore X0.here hx rfl (hb hby at_47) rfl (l' := (own_loc13 p0 p1 p2 p3 cn ii jj)) rfl ?_
    show own_S p e below s₁ (mkF m 49 (own_loc13 p0 p1 p2 p3 cn ii jj) []) _
    refine sg129 _ ?_
    show own_S p e below s₁ (mkF m 63 (own_loc13 p0 p1 p2 p3 cn ii jj) [(.int (own_n2 p0))]) _
    refine XS.istore X0.here hx rfl (hb hby at_63) rfl (l' := (own_loc14 p0 p1 p2 p3 cn ii jj)) rfl ?_
    show own_S p e below s₁ (mkF m 65 (own_loc14 p0 p1 p2 p3 cn ii jj) []) _
    refine XS.iconst X0.here hx rfl (hb hby at_65) ?_
    show own_S p e below s₁ (mkF m 66 (own_loc14 p0 p1 p2 p3 cn ii jj) [.int 3]) _
    refine st130 _ ?_
    show own_S p e below T130 (mkF m 69 (own_loc14 p0 p1 p2 p3 cn ii jj) [(.ref b130)]) _
    refine XS.dup X130.here hx rfl (hb hby at_69) rfl rfl ?_
    show own_S p e below T130 (mkF m 70 (own_loc14 p0 p1 p2 p3 cn ii jj) [(.ref b130), (.ref b130)]) _
    refine XS.iconst X130.here hx rfl (hb hby at_70) ?_
    show own_S p e below T130 (mkF m 71 (own_loc14 p0 p1 p2 p3 cn ii jj) [.int 0, (.ref b130), (.ref b130)]) _
    refine XS.iloadN X130.here hx rfl (hb hby at_71) rfl ?_
    exact kt
  obtain ⟨_, _, ⟨T134, L134, k134, n134⟩, -, X134, ⟨Lc134, hQ134, l134, y134, z134⟩, st134⟩ := Jvm.LawKit.callS X130 hx (y := (⟨"com/example/xml_signing/xmlsigning/c14n/TreeElementSetNamesPinLaw", "str", "(I)Ljava/lang/String;"⟩ : MethodName)) hown (mvT hZ (hw _ (List.mem_of_getElem? (i := 3) rfl))) (mvT hZ (hw _ (List.mem_of_getElem? (i := 4) rfl))) (mvT hZ (hw _ (List.mem_of_getElem? (i := 5) rfl))) (mvT hZ (hw _ (List.mem_of_getElem? (i := 6) rfl))) (by decide) (backOf (W := 3) (rm1 l Z ag hw [] p2 cs h130 n0 sz132 x131 S_cs hcs) hZ (hw _ (List.mem_of_getElem? (i := 6) rfl)) (hw _ (List.mem_of_getElem? (i := 5) rfl)) (by decide) (by decide)) (g := (mkF m 72 (own_loc14 p0 p1 p2 p3 cn ii jj) [(.int p2), .int 0, (.ref b130), (.ref b130)])) rfl (by rw [hml]; rfl) (argsL := [(.int p2)]) (rest := [(.int (0 : Int32)), (.ref b130), (.ref b130)]) (lenOf pd_1 rfl) rfl (by show 2 * 0 + _ ≤ _; exact Nat.le_of_eq rfl) (hb hby at_72) (fun _ _ => ⟨rfl, e130, (by decide : 1 + 3 ≤ _), (by decide : 3 + 6 ≤ _)⟩)
  dsimp only [Pt.U, Pt.locs, Pt.cells, Pt.slots] at X134 l134 y134 z134 st134 hQ134
  subst l134 y134 z134
  obtain ⟨r134, rfl, N134q, K134, ge_r134, gq_r134, Er134⟩ := hQ134
  have N134 := Fr.app N0 N134q
  have ne135 : b130 ≠ r134 := Nat.ne_of_lt (Nat.lt_of_lt_of_le V130.lt gq_r134)
  have x136 := x131.keep K134 all0
  have x137 := V130.keep K134 nin0
  have sz138 : n0 ≤ T134.heap.size := Nat.le_trans sz132 K134.1
  obtain ⟨cl139, Ar139, q139, S139, M139, H139, G139⟩ := id x137
  have hin139 : ¬ ((0 : Int32) < 0 ∨ cl139.slots.size ≤ ((0 : Int32)).toNatClampNeg) := inb_of S139 ⟨(by decide : ¬ (0 : Int32) < 0), (by decide : (0 : Int32) < (3 : Int32))⟩
  obtain ⟨T139, h139, X139, e139, W139, st139⟩ := stR X134 hx hZ rfl Ar139 (j := (0 : Int32)) hin139 rfl (Sto.ofV Ar139 q139 O130 (Ins.self Er134)) (g := (mkF m 75 (own_loc14 p0 p1 p2 p3 cn ii jj) [(.ref r134), .int 0, (.ref b130), (.ref b130)])) rfl rfl (hb hby at_75)
  have V139 : Arv Z h139 b130 k130 (.object "java/lang/String") (3 : Int32) [(.ref r134), .null, .null] .null := Arv.set Ar139 q139 S139 M139 H139 G139 rfl W139 0 rfl (Nat.le_of_ble_eq_true rfl)
  have x140 := x136.wr W139 ge_b130
  have x141 := Er134.wr W139
  have sz142 : n0 ≤ h139.size := Nat.le_trans sz138 (Keep.of_wr W139).1
  have N139 := Fr.snoc X139 N134 ge_b130
  obtain ⟨T143, h143, L143, x1, X143, e143, sz143, N143, x162, x163, x164, rv_x1, sv_x1, st143⟩ : ∃ (T143 : State) (h143 : Heap) (L143 : List Loc) (x1 : Value), (Stand p l e room_1 s m #[(.int p0), (.int p1), (.int p2), (.int p3)] below meth c T143 L143 7 15) ∧ (T143.heap = h143) ∧ (n0 ≤ h143.size) ∧ (Fr n0 L143) ∧ (Old Z n0 h143) ∧ (Exa Z h143 r134 "java/lang/String") ∧ (Arv Z h143 b130 k130 (.object "java/lang/String") (3 : Int32) [(.ref r134), x1, .null] .null) ∧ (x1.isRef = true) ∧ (own_sv Z h143 x1) ∧ (∀ target, Steps p.tables e below (T143.setTop (mkF m 95 (own_loc14 p0 p1 p2 p3 cn ii jj) [(.ref b130)])) target → Steps p.tables e below (T139.setTop (mkF m 76 (own_loc14 p0 p1 p2 p3 cn ii jj) [(.ref b130)])) target) := by
    have cp145 : ∀ target, own_S p e below T139 (mkF m 80 (own_loc14 p0 p1 p2 p3 cn ii jj) [(.int (own_n1 p0)), .int 1, (.ref b130), (.ref b130)]) target → own_S p e below T139 (mkF m 76 (own_loc14 p0 p1 p2 p3 cn ii jj) [(.ref b130)]) target := by
      intro target kt
      show own_S p e below T139 (mkF m 76 (own_loc14 p0 p1 p2 p3 cn ii jj) [(.ref b130)]) _
      refine XS.dup X139.here hx rfl (hb hby at_76) rfl rfl ?_
      show own_S p e below T139 (mkF m 77 (own_loc14 p0 p1 p2 p3 cn ii jj) [(.ref b130), (.ref b130)]) _
      refine XS.iconst X139.here hx rfl (hb hby at_77) ?_
      show own_S p e below T139 (mkF m 78 (own_loc14 p0 p1 p2 p3 cn ii jj) [.int 1, (.ref b130), (.ref b130)]) _
      refine XS.iload X139.here hx rfl (hb hby at_78) rfl ?_
      exact kt
    by_cases hc144 : (own_n1 p0) = (0 : Int32)
    · obtain ⟨_, _, ⟨T146, L146, k146, n146⟩, -, X146, ⟨Lc146, hQ146, l146, y146, z146⟩, st146⟩ := Jvm.LawKit.callS X139 hx (y := (⟨"com/example/xml_signing/xmlsigning/c14n/TreeElementSetNamesPinLaw", "str", "(I)Ljava/lang/String;"⟩ : MethodName)) hown (mvT hZ (hw _ (List.mem_of_getElem? (i := 3) rfl))) (mvT hZ (hw _ (List.mem_of_getElem? (i := 4) rfl))) (mvT hZ (hw _ (List.mem_of_getElem? (i := 5) rfl))) (mvT hZ (hw _ (List.mem_of_getElem? (i := 6) rfl))) (by decide) (backOf (W := 3) (rm1 l Z ag hw [] (own_ushr p2 (8 : Int32)) cs h139 n0 sz142 x140 S_cs hcs) hZ (hw _ (List.mem_of_getElem? (i := 6) rfl)) (hw _ (List.mem_of_getElem? (i := 5) rfl)) (by decide) (by decide)) (g := (mkF m 91 (own_loc14 p0 p1 p2 p3 cn ii jj) [(.int (own_ushr p2 (8 : Int32))), .int 1, (.ref b130), (.ref b130)])) rfl (by rw [hml]; rfl) (argsL := [(.int (own_ushr p2 (8 : Int32)))]) (rest := [(.int (1 : Int32)), (.ref b130), (.ref b130)]) (lenOf pd_1 rfl) rfl (by show 2 * 0 + _ ≤ _; exact Nat.le_of_eq rfl) (hb hby at_91) (fun _ _ => ⟨rfl, e139, (by decide : 4 + 3 ≤ _), (by decide : 9 + 6 ≤ _)⟩)
      dsimp only [Pt.U, Pt.locs, Pt.cells, Pt.slots] at X146 l146 y146 z146 st146 hQ146
      subst l146 y146 z146
      obtain ⟨r146, rfl, N146q, K146, ge_r146, gq_r146, Er146⟩ := hQ146
      have N146 := Fr.app N139 N146q
      have ne147 : b130 ≠ r146 := Nat.ne_of_lt (Nat.lt_of_lt_of_le V139.lt gq_r146)
      have ne148 : r134 ≠ r146 := Nat.ne_of_lt (Nat.lt_of_lt_of_le x141.lt gq_r146)
      have x149 := x140.keep K146 all0
      have x150 := x141.keep K146
      have x151 := V139.keep K146 nin0
      have sz152 : n0 ≤ T146.heap.size := Nat.le_trans sz142 K146.1
      obtain ⟨cl153, Ar153, q153, S153, M153, H153, G153⟩ := id x151
      have hin153 : ¬ ((1 : Int32) < 0 ∨ cl153.slots.size ≤ ((1 : Int32)).toNatClampNeg) := inb_of S153 ⟨(by decide : ¬ (1 : Int32) < 0), (by decide : (1 : Int32) < (3 : Int32))⟩
      obtain ⟨T153, h153, X153, e153, W153, st153⟩ := stR X146 hx hZ rfl Ar153 (j := (1 : Int32)) hin153 rfl (Sto.ofV Ar153 q153 O130 (Ins.self Er146)) (g := (mkF m 94 (own_loc14 p0 p1 p2 p3 cn ii jj) [(.ref r146), .int 1, (.ref b130), (.ref b130)])) rfl rfl (hb hby at_94)
      have V153 : Arv Z h153 b130 k130 (.object "java/lang/String") (3 : Int32) [(.ref r134), (.ref r146), .null] .null := Arv.set Ar153 q153 S153 M153 H153 G153 rfl W153 1 rfl (Nat.le_of_ble_eq_true rfl)
      have x154 := x149.wr W153 ge_b130
      have x155 := x150.wr W153
      have x156 := Er146.wr W153
      have sz157 : n0 ≤ h153.size := Nat.le_trans sz152 (Keep.of_wr W153).1
      have N153 := Fr.snoc X153 N146 ge_b130
      refine ⟨T153, h153, _, (.ref r146), X153, e153, sz157, N153, x154, x155, V153, rfl, (own_sv.of x156), fun target kt => ?_⟩
      show own_S p e below T139 (mkF m 76 (own_loc14 p0 p1 p2 p3 cn ii jj) [(.ref b130)]) _
      refine cp145 _ ?_
      show own_S p e below T139 (mkF m 80 (own_loc14 p0 p1 p2 p3 cn ii jj) [(.int (own_n1 p0)), .int 1, (.ref b130), (.ref b130)]) _
      refine XS.ifYes X139.here hx rfl (pc0 := 80) (pc' := 87) rfl (hb hby at_80) rfl ((if0 _ _).trans (teq hc144).1) (by decide) (by decide) ?_
      show own_S p e below T139 (mkF m 87 (own_loc14 p0 p1 p2 p3 cn ii jj) [.int 1, (.ref b130), (.ref b130)]) _
      refine XS.iloadN X139.here hx rfl (hb hby at_87) rfl ?_
      show own_S p e below T139 (mkF m 88 (own_loc14 p0 p1 p2 p3 cn ii jj) [(.int p2), .int 1, (.ref b130), (.ref b130)]) _
      refine XS.bipush X139.here hx rfl (hb hby at_88) ?_
      show own_S p e below T139 (mkF m 90 (own_loc14 p0 p1 p2 p3 cn ii jj) [.int 8, (.int p2), .int 1, (.ref b130), (.ref b130)]) _
      refine XS.iushr X139.here hx rfl (hb hby at_90) rfl ?_
      show own_S p e below T139 (mkF m 91 (own_loc14 p0 p1 p2 p3 cn ii jj) [(.int (own_ushr p2 (8 : Int32))), .int 1, (.ref b130), (.ref b130)]) _
      refine st146 _ ?_
      show own_S p e below T146 (mkF m 94 (own_loc14 p0 p1 p2 p3 cn ii jj) [(.ref r146), .int 1, (.ref b130), (.ref b130)]) _
      refine st153 _ ?_
      exact kt
    · obtain ⟨cl158, Ar158, q158, S158, M158, H158, G158⟩ := id V139
      have hin158 : ¬ ((1 : Int32) < 0 ∨ cl158.slots.size ≤ ((1 : Int32)).toNatClampNeg) := inb_of S158 ⟨(by decide : ¬ (1 : Int32) < 0), (by decide : (1 : Int32) < (3 : Int32))⟩
      obtain ⟨T158, h158, X158, e158, W158, st158⟩ := stR X139 hx hZ e139 Ar158 (j := (1 : Int32)) hin158 rfl (Or.inl rfl) (g := (mkF m 94 (own_loc14 p0 p1 p2 p3 cn ii jj) [.null, .int 1, (.ref b130), (.ref b130)])) rfl rfl (hb hby at_94)
      have V158 : Arv Z h158 b130 k130 (.object "java/lang/String") (3 : Int32) [(.ref r134), .null, .null] .null := Arv.set Ar158 q158 S158 M158 H158 G158 rfl W158 1 rfl (Nat.le_of_ble_eq_true rfl)
      have x159 := x140.wr W158 ge_b130
      have x160 := x141.wr W158
      have sz161 : n0 ≤ h158.size := Nat.le_trans sz142 (Keep.of_wr W158).1
      have N158 := Fr.snoc X158 N139 ge_b130
      refine ⟨T158, h158, _, .null, X158.mono (by decide) (by decide), e158, sz161, N158, x159, x160, V158, rfl, own_sv.null, fun target kt => ?_⟩
      show own_S p e below T139 (mkF m 76 (own_loc14 p0 p1 p2 p3 cn ii jj) [(.ref b130)]) _
      refine cp145 _ ?_
      show own_S p e below T139 (mkF m 80 (own_loc14 p0 p1 p2 p3 cn ii jj) [(.int (own_n1 p0)), .int 1, (.ref b130), (.ref b130)]) _
      refine XS.ifNo X139.here hx rfl (hb hby at_80) rfl ((if0 _ _).trans (feq hc144).1) ?_
      show own_S p e below T139 (mkF m 83 (own_loc14 p0 p1 p2 p3 cn ii jj) [.int 1, (.ref b130), (.ref b130)]) _
      refine XS.aconstNull X139.here hx rfl (hb hby at_83) ?_
      show own_S p e below T139 (mkF m 84 (own_loc14 p0 p1 p2 p3 cn ii jj) [.null, .int 1, (.ref b130), (.ref b130)]) _
      refine XS.goto X139.here hx rfl (pc0 := 84) (pc' := 94) rfl (hb hby at_84) (by decide) (by decide) ?_
      show own_S p e below T139 (mkF m 94 (own_loc14 p0 p1 p2 p3 cn ii jj) [.null, .int 1, (.ref b130), (.ref b130)]) _
      refine st158 _ ?_
      exact kt
  obtain ⟨_, _, ⟨T165, L165, k165, n165⟩, -, X165, ⟨Lc165, hQ165, l165, y165, z165⟩, st165⟩ := Jvm.LawKit.callS X143 hx (y := (⟨"com/example/xml_signing/xmlsigning/c14n/TreeElementSetNamesPinLaw", "str", "(I)Ljava/lang/String;"⟩ : MethodName)) hown (mvT hZ (hw _ (List.mem_of_getElem? (i := 3) rfl))) (mvT hZ (hw _ (List.mem_of_getElem? (i := 4) rfl))) (mvT hZ (hw _ (List.mem_of_getElem? (i := 5) rfl))) (mvT hZ (hw _ (List.mem_of_getElem? (i := 6) rfl))) (by decide) (backOf (W := 3) (rm1 l Z ag hw [] (own_ushr p2 (16 : Int32)) cs h143 n0 sz143 x162 S_cs hcs) hZ (hw _ (List.mem_of_getElem? (i := 6) rfl)) (hw _ (List.mem_of_getElem? (i := 5) rfl)) (by decide) (by decide)) (g := (mkF m 101 (own_loc14 p0 p1 p2 p3 cn ii jj) [(.int (own_ushr p2 (16 : Int32))), .int 2, (.ref b130), (.ref b130)])) rfl (by rw [hml]; rfl) (argsL := [(.int (own_ushr p2 (16 : Int32)))]) (rest := [(.int (2 : Int32)), (.ref b130), (.ref b130)]) (lenOf pd_1 rfl) rfl (by show 2 * 0 + _ ≤ _; exact Nat.le_of_eq rfl) (hb hby at_101) (fun _ _ => ⟨rfl, e143, (by decide : 7 + 3 ≤ _), (by decide : 15 + 6 ≤ _)⟩)
  dsimp only [Pt.U, Pt.locs, Pt.cells, Pt.slots] at X165 l165 y165 z165 st165 hQ165
  subst l165 y165 z165
  obtain ⟨r165, rfl, N165q, K165, ge_r165, gq_r165, Er165⟩ := hQ165
  have N165 := Fr.app N143 N165q
  have ne166 : b130 ≠ r165 := Nat.ne_of_lt (Nat.lt_of_lt_of_le x164.lt gq_r165)
  have ne167 : r134 ≠ r165 := Nat.ne_of_lt (Nat.lt_of_lt_of_le x163.lt gq_r165)
  have x168 := x162.keep K165 all0
  have x169 := x163.keep K165
  have x170 := x164.keep K165 nin0
  have x171 := sv_x1.keep K165
  have sz172 : n0 ≤ T165.heap.size := Nat.le_trans sz143 K165.1
  obtain ⟨cl173, Ar173, q173, S173, M173, H173, G173⟩ := id x170
  have hin173 : ¬ ((2 : Int32) < 0 ∨ cl173.slots.size ≤ ((2 : Int32)).toNatClampNeg) := inb_of S173 ⟨(by decide : ¬ (2 : Int32) < 0), (by decide : (2 : Int32) < (3 : Int32))⟩
  obtain ⟨T173, h173, X173, e173, W173, st173⟩ := stR X165 hx hZ rfl Ar173 (j := (2 : Int32)) hin173 rfl (Sto.ofV Ar173 q173 O130 (Ins.self Er165)) (g := (mkF m 104 (own_loc14 p0 p1 p2 p3 cn ii jj) [(.ref r165), .int 2, (.ref b130), (.ref b130)])) rfl rfl (hb hby at_104)
  have V173 : Arv Z h173 b130 k130 (.object "java/lang/String") (3 : Int32) [(.ref r134), x1, (.ref r165)] .null := Arv.set Ar173 q173 S173 M173 H173 G173 rfl W173 2 rfl (Nat.le_of_ble_eq_true rfl)
  have x174 := x168.wr W173 ge_b130
  have x175 := x169.wr W173
  have x176 := x171.wr W173
  have x177 := Er165.wr W173
  have sz178 : n0 ≤ h173.size := Nat.le_trans sz172 (Keep.of_wr W173).1
  have N173 := Fr.snoc X173 N165 ge_b130
  obtain ⟨T179, h179, k179, X179, e179, E179, A179, O179, st179⟩ := newR X173 hx hZ hown (hw _ (List.mem_of_getElem? (i := 1) rfl)) (hw _ (List.mem_of_getElem? (i := 2) rfl)) e173 (g := (mkF m 108 (own_loc15 p0 p1 p2 p3 cn ii jj b130) [.int 3])) rfl (hb hby at_108) rfl (by decide) (cap := 3) (by decide) (by decide) (by decide) (by decide)
  obtain ⟨b179, g179⟩ : ∃ z, z = h173.size := ⟨_, rfl⟩
  have ne180 : b130 ≠ b179 := Nat.ne_of_lt (Nat.lt_of_lt_of_le V173.lt (Nat.le_of_eq g179.symm))
  have ne181 : r134 ≠ b179 := Nat.ne_of_lt (Nat.lt_of_lt_of_le x175.lt (Nat.le_of_eq g179.symm))
  have ne182 : r165 ≠ b179 := Nat.ne_of_lt (Nat.lt_of_lt_of_le x177.lt (Nat.le_of_eq g179.symm))
  have ge_b179 : n0 ≤ b179 := Nat.le_trans sz178 (Nat.le_of_eq g179.symm)
  rw [← g179] at A179 st179
  have x183 := x174.ext E179
  have x184 := x175.ext E179
  have x185 := x176.ext E179
  have x186 := x177.ext E179
  have x187 := V173.ext E179
  have sz188 : n0 ≤ h179.size := Nat.le_trans sz178 E179.1
  have V179 : Arv Z h179 b179 k179 (.object "java/lang/String") (3 : Int32) [.null, .null, .null] .null := (Arv.new A179 (by decide)).pad (pad_rep [] .null 3)
  have cp189 : ∀ target, own_S p e below T179 (mkF m 114 (own_loc15 p0 p1 p2 p3 cn ii jj b130) [(.int p3), .int 0, (.ref b179), (.ref b179)]) target → own_S p e below s₁ (mkF m 0 (own_loc9 p0 p1 p2 p3) []) target := by
    intro target kt
    show own_S p e below s₁ (mkF m 0 (own_loc9 p0 p1 p2 p3) []) _
    refine cp133 _ ?_
    show own_S p e below T130 (mkF m 72 (own_loc14 p0 p1 p2 p3 cn ii jj) [(.int p2), .int 0, (.ref b130), (.ref b130)]) _
    refine st134 _ ?_
    show own_S p e below T134 (mkF m 75 (own_loc14 p0 p1 p2 p3 cn ii jj) [(.ref r134), .int 0, (.ref b130), (.ref b130)]) _
    refine st139 _ ?_
    show own_S p e below T139 (mkF m 76 (own_loc14 p0 p1 p2 p3 cn ii jj) [(.ref b130)]) _
    refine st143 _ ?_
    show own_S p e below T143 (mkF m 95 (own_loc14 p0 p1 p2 p3 cn ii jj) [(.ref b130)]) _
    refine XS.dup X143.here hx rfl (hb hby at_95) rfl rfl ?_
    show own_S p e below T143 (mkF m 96 (own_loc14 p0 p1 p2 p3 cn ii jj) [(.ref b130), (.ref b130)]) _
    refine XS.iconst X143.here hx rfl (hb hby at_96) ?_
    show own_S p e below T143 (mkF m 97 (own_loc14 p0 p1 p2 p3 cn ii jj) [.int 2, (.ref b130), (.ref b130)]) _
    refine XS.iloadN X143.here hx rfl (hb hby at_97) rfl ?_
    show own_S p e below T143 (mkF m 98 (own_loc14 p0 p1 p2 p3 cn ii jj) [(.int p2), .int 2, (.ref b130), (.ref b130)]) _
    refine XS.bipush X143.here hx rfl (hb hby at_98) ?_
    show own_S p e below T143 (mkF m 100 (own_loc14 p0 p1 p2 p3 cn ii jj) [.int 16, (.int p2), .int 2, (.ref b130), (.ref b130)]) _
    refine XS.iushr X143.here hx rfl (hb hby at_100) rfl ?_
    show own_S p e below T143 (mkF m 101 (own_loc14 p0 p1 p2 p3 cn ii jj) [(.int (own_ushr p2 (16 : Int32))), .int 2, (.ref b130), (.ref b130)]) _
    refine st165 _ ?_
    show own_S p e below T165 (mkF m 104 (own_loc14 p0 p1 p2 p3 cn ii jj) [(.ref r165), .int 2, (.ref b130), (.ref b130)]) _
    refine st173 _ ?_
    show own_S p e below T173 (mkF m 105 (own_loc14 p0 p1 p2 p3 cn ii jj) [(.ref b130)]) _
    refine XS.astore X173.here hx rfl (hb hby at_105) rfl rfl (l' := (own_loc15 p0 p1 p2 p3 cn ii jj b130)) rfl ?_
    show own_S p e below T173 (mkF m 107 (own_loc15 p0 p1 p2 p3 cn ii jj b130) []) _
    refine XS.iconst X173.here hx rfl (hb hby at_107) ?_
    show own_S p e below T173 (mkF m 108 (own_loc15 p0 p1 p2 p3 cn ii jj b130) [.int 3]) _
    refine st179 _ ?_
    show own_S p e below T179 (mkF m 111 (own_loc15 p0 p1 p2 p3 cn ii jj b130) [(.ref b179)]) _
    refine XS.dup X179.here hx rfl (hb hby at_111) rfl rfl ?_
    show own_S p e below T179 (mkF m 112 (own_loc15 p0 p1 p2 p3 cn ii jj b130) [(.ref b179), (.ref b179)]) _
    refine XS.iconst X179.here hx rfl (hb hby at_112) ?_
    show own_S p e below T179 (mkF m 113 (own_loc15 p0 p1 p2 p3 cn ii jj b130) [.int 0, (.ref b179), (.ref b179)]) _
    refine XS.iloadN X179.here hx rfl (hb hby at_113) rfl ?_
    exact kt
  obtain ⟨_, _, ⟨T190, L190, k190, n190⟩, -, X190, ⟨Lc190, hQ190, l190, y190, z190⟩, st190⟩ := Jvm.LawKit.callS X179 hx (y := (⟨"com/example/xml_signing/xmlsigning/c14n/TreeElementSetNamesPinLaw", "str", "(I)Ljava/lang/String;"⟩ : MethodName)) hown (mvT hZ (hw _ (List.mem_of_getElem? (i := 3) rfl))) (mvT hZ (hw _ (List.mem_of_getElem? (i := 4) rfl))) (mvT hZ (hw _ (List.mem_of_getElem? (i := 5) rfl))) (mvT hZ (hw _ (List.mem_of_getElem? (i := 6) rfl))) (by decide) (backOf (W := 3) (rm1 l Z ag hw [] p3 cs h179 n0 sz188 x183 S_cs hcs) hZ (hw _ (List.mem_of_getElem? (i := 6) rfl)) (hw _ (List.mem_of_getElem? (i := 5) rfl)) (by decide) (by decide)) (g := (mkF m 114 (own_loc15 p0 p1 p2 p3 cn ii jj b130) [(.int p3), .int 0, (.ref b179), (.ref b179)])) rfl (by rw [hml]; rfl) (argsL := [(.int p3)]) (rest := [(.int (0 : Int32)), (.ref b179), (.ref b179)]) (lenOf pd_1 rfl) rfl (by show 2 * 0 + _ ≤ _; exact Nat.le_of_eq rfl) (hb hby at_114) (fun _ _ => ⟨rfl, e179, (by decide : 11 + 3 ≤ _), (by decide : 24 + 6 ≤ _)⟩)
  dsimp only [Pt.U, Pt.locs, Pt.cells, Pt.slots] at X190 l190 y190 z190 st190 hQ190
  subst l190 y190 z190
  obtain ⟨r190, rfl, N190q, K190, ge_r190, gq_r190, Er190⟩ := hQ190
  have N190 := Fr.app N173 N190q
  have ne191 : b130 ≠ r190 := Nat.ne_of_lt (Nat.lt_of_lt_of_le x187.lt gq_r190)
  have ne192 : r134 ≠ r190 := Nat.ne_of_lt (Nat.lt_of_lt_of_le x184.lt gq_r190)
  have ne193 : r165 ≠ r190 := Nat.ne_of_lt (Nat.lt_of_lt_of_le x186.lt gq_r190)
  have ne194 : b179 ≠ r190 := Nat.ne_of_lt (Nat.lt_of_lt_of_le V179.lt gq_r190)
  have x195 := x183.keep K190 all0
  have x196 := x184.keep K190
  have x197 := x185.keep K190
  have x198 := x186.keep K190
  have x199 := x187.keep K190 nin0
  have x200 := V179.keep K190 nin0
  have sz201 : n0 ≤ T190.heap.size := Nat.le_trans sz188 K190.1
  obtain ⟨cl202, Ar202, q202, S202, M202, H202, G202⟩ := id x200
  have hin202 : ¬ ((0 : Int32) < 0 ∨ cl202.slots.size ≤ ((0 : Int32)).toNatClampNeg) := inb_of S202 ⟨(by decide : ¬ (0 : Int32) < 0), (by decide : (0 : Int32) < (3 : Int32))⟩
  obtain ⟨T202, h202, X202, e202, W202, st202⟩ := stR X190 hx hZ rfl Ar202 (j := (0 : Int32)) hin202 rfl (Sto.ofV Ar202 q202 O179 (Ins.self Er190)) (g := (mkF m 117 (own_loc15 p0 p1 p2 p3 cn ii jj b130) [(.ref r190), .int 0, (.ref b179), (.ref b179)])) rfl rfl (hb hby at_117)
  have V202 : Arv Z h202 b179 k179 (.object "java/lang/String") (3 : Int32) [(.ref r190), .null, .null] .null := Arv.set Ar202 q202 S202 M202 H202 G202 rfl W202 0 rfl (Nat.le_of_ble_eq_true rfl)
  have x203 := x195.wr W202 ge_b179
  have x204 := x196.wr W202
  have x205 := x197.wr W202
  have x206 := x198.wr W202
  have x207 := x199.other W202 ne180
  have x208 := Er190.wr W202
  have sz209 : n0 ≤ h202.size := Nat.le_trans sz201 (Keep.of_wr W202).1
  have N202 := Fr.snoc X202 N190 ge_b179
  obtain ⟨T210, h210, L210, y1, X210, e210, sz210, N210, x244, x245, x246, x247, x248, x249, x250, rv_y1, sv_y1, st210⟩ : ∃ (T210 : State) (h210 : Heap) (L210 : List Loc) (y1 : Value), (Stand p l e room_1 s m #[(.int p0), (.int p1), (.int p2), (.int p3)] below meth c T210 L210 17 36) ∧ (T210.heap = h210) ∧ (n0 ≤ h210.size) ∧ (Fr n0 L210) ∧ (Old Z n0 h210) ∧ (Exa Z h210 r134 "java/lang/String") ∧ (own_sv Z h210 x1) ∧ (Exa Z h210 r165 "java/lang/String") ∧ (Arv Z h210 b130 k130 (.object "java/lang/String") (3 : Int32) [(.ref r134), x1, (.ref r165)] .null) ∧ (Exa Z h210 r190 "java/lang/String") ∧ (Arv Z h210 b179 k179 (.object "java/lang/String") (3 : Int32) [(.ref r190), y1, .null] .null) ∧ (y1.isRef = true) ∧ (own_sv Z h210 y1) ∧ (∀ target, Steps p.tables e below (T210.setTop (mkF m 137 (own_loc15 p0 p1 p2 p3 cn ii jj b130) [(.ref b179)])) target → Steps p.tables e below (T202.setTop (mkF m 118 (own_loc15 p0 p1 p2 p3 cn ii jj b130) [(.ref b179)])) target) := by
    have cp212 : ∀ target, own_S p e below T202 (mkF m 122 (own_loc15 p0 p1 p2 p3 cn ii jj b130) [(.int (own_n2 p0)), .int 1, (.ref b179), (.ref b179)]) target → own_S p e below T202 (mkF m 118 (own_loc15 p0 p1 p2 p3 cn ii jj b130) [(.ref b179)]) target := by
      intro target kt
      show own_S p e below T202 (mkF m 118 (own_loc15 p0 p1 p2 p3 cn ii jj b130) [(.ref b179)]) _
      refine XS.dup X202.here hx rfl (hb hby at_118) rfl rfl ?_
      show own_S p e below T202 (mkF m 119 (own_loc15 p0 p1 p2 p3 cn ii jj b130) [(.ref b179), (.ref b179)]) _
      refine XS.iconst X202.here hx rfl (hb hby at_119) ?_
      show own_S p e below T202 (mkF m 120 (own_loc15 p0 p1 p2 p3 cn ii jj b130) [.int 1, (.ref b179), (.ref b179)]) _
      refine XS.iload X202.here hx rfl (hb hby at_120) rfl ?_
      exact kt
    by_cases hc211 : (own_n2 p0) = (0 : Int32)
    · obtain ⟨_, _, ⟨T213, L213, k213, n213⟩, -, X213, ⟨Lc213, hQ213, l213, y213, z213⟩, st213⟩ := Jvm.LawKit.callS X202 hx (y := (⟨"com/example/xml_signing/xmlsigning/c14n/TreeElementSetNamesPinLaw", "str", "(I)Ljava/lang/String;"⟩ : MethodName)) hown (mvT hZ (hw _ (List.mem_of_getElem? (i := 3) rfl))) (mvT hZ (hw _ (List.mem_of_getElem? (i := 4) rfl))) (mvT hZ (hw _ (List.mem_of_getElem? (i := 5) rfl))) (mvT hZ (hw _ (List.mem_of_getElem? (i := 6) rfl))) (by decide) (backOf (W := 3) (rm1 l Z ag hw [] (own_ushr p3 (8 : Int32)) cs h202 n0 sz209 x203 S_cs hcs) hZ (hw _ (List.mem_of_getElem? (i := 6) rfl)) (hw _ (List.mem_of_getElem? (i := 5) rfl)) (by decide) (by decide)) (g := (mkF m 133 (own_loc15 p0 p1 p2 p3 cn ii jj b130) [(.int (own_ushr p3 (8 : Int32))), .int 1, (.ref b179), (.ref b179)])) rfl (by rw [hml]; rfl) (argsL := [(.int (own_ushr p3 (8 : Int32)))]) (rest := [(.int (1 : Int32)), (.ref b179), (.ref b179)]) (lenOf pd_1 rfl) rfl (by show 2 * 0 + _ ≤ _; exact Nat.le_of_eq rfl) (hb hby at_133) (fun _ _ => ⟨rfl, e202, (by decide : 14 + 3 ≤ _), (by decide : 30 + 6 ≤ _)⟩)
      dsimp only [Pt.U, Pt.locs, Pt.cells, Pt.slots] at X213 l213 y213 z213 st213 hQ213
      subst l213 y213 z213
      obtain ⟨r213, rfl, N213q, K213, ge_r213, gq_r213, Er213⟩ := hQ213
      have N213 := Fr.app N202 N213q
      have ne214 : b130 ≠ r213 := Nat.ne_of_lt (Nat.lt_of_lt_of_le x207.lt gq_r213)
      have ne215 : r134 ≠ r213 := Nat.ne_of_lt (Nat.lt_of_lt_of_le x204.lt gq_r213)
      have ne216 : r165 ≠ r213 := Nat.ne_of_lt (Nat.lt_of_lt_of_le x206.lt gq_r213)
      have ne217 : b179 ≠ r213 := Nat.ne_of_lt (Nat.lt_of_lt_of_le V202.lt gq_r213)
      have ne218 : r190 ≠ r213 := Nat.ne_of_lt (Nat.lt_of_lt_of_le x208.lt gq_r213)
      have x219 := x203.keep K213 all0
      have x220 := x204.keep K213
      have x221 := x205.keep K213
      have x222 := x206.keep K213
      have x223 := x207.keep K213 nin0
      have x224 := x208.keep K213
      have x225 := V202.keep K213 nin0
      have sz226 : n0 ≤ T213.heap.size := Nat.le_trans sz209 K213.1
      obtain ⟨cl227, Ar227, q227, S227, M227, H227, G227⟩ := id x225
      have hin227 : ¬ ((1 : Int32) < 0 ∨ cl227.slots.size ≤ ((1 : Int32)).toNatClampNeg) := inb_of S227 ⟨(by decide : ¬ (1 : Int32) < 0), (by decide : (1 : Int32) < (3 : Int32))⟩
      obtain ⟨T227, h227, X227, e227, W227, st227⟩ := stR X213 hx hZ rfl Ar227 (j := (1 : Int32)) hin227 rfl (Sto.ofV Ar227 q227 O179 (Ins.self Er213)) (g := (mkF m 136 (own_loc15 p0 p1 p2 p3 cn ii jj b130) [(.ref r213), .int 1, (.ref b179), (.ref b179)])) rfl rfl (hb hby at_136)
      have V227 : Arv Z h227 b179 k179 (.object "java/lang/String") (3 : Int32) [(.ref r190), (.ref r213), .null] .null := Arv.set Ar227 q227 S227 M227 H227 G227 rfl W227 1 rfl (Nat.le_of_ble_eq_true rfl)
      have x228 := x219.wr W227 ge_b179
      have x229 := x220.wr W227
      have x230 := x221.wr W227
      have x231 := x222.wr W227
      have x232 := x223.other W227 ne180
      have x233 := x224.wr W227
      have x234 := Er213.wr W227
      have sz235 : n0 ≤ h227.size := Nat.le_trans sz226 (Keep.of_wr W227).1
      have N227 := Fr.snoc X227 N213 ge_b179
      refine ⟨T227, h227, _, (.ref r213), X227, e227, sz235, N227, x228, x229, x230, x231, x232, x233, V227, rfl, (own_sv.of x234), fun target kt => ?_⟩
      show own_S p e below T202 (mkF m 118 (own_loc15 p0 p1 p2 p3 cn ii jj b130) [(.ref b179)]) _
      refine cp212 _ ?_
      show own_S p e below T202 (mkF m 122 (own_loc15 p0 p1 p2 p3 cn ii jj b130) [(.int (own_n2 p0)), .int 1, (.ref b179), (.ref b179)]) _
      refine XS.ifYes X202.here hx rfl (pc0 := 122) (pc' := 129) rfl (hb hby at_122) rfl ((if0 _ _).trans (teq hc211).1) (by decide) (by decide) ?_
      show own_S p e below T202 (mkF m 129 (own_loc15 p0 p1 p2 p3 cn ii jj b130) [.int 1, (.ref b179), (.ref b179)]) _
      refine XS.iloadN X202.here hx rfl (hb hby at_129) rfl ?_
      show own_S p e below T202 (mkF m 130 (own_loc15 p0 p1 p2 p3 cn ii jj b130) [(.int p3), .int 1, (.ref b179), (.ref b179)]) _
      refine XS.bipush X202.here hx rfl (hb hby at_130) ?_
      show own_S p e below T202 (mkF m 132 (own_loc15 p0 p1 p2 p3 cn ii jj b130) [.int 8, (.int p3), .int 1, (.ref b179), (.ref b179)]) _
      refine XS.iushr X202.here hx rfl (hb hby at_132) rfl ?_
      show own_S p e below T202 (mkF m 133 (own_loc15 p0 p1 p2 p3 cn ii jj b130) [(.int (own_ushr p3 (8 : Int32))), .int 1, (.ref b179), (.ref b179)]) _
      refine st213 _ ?_
      show own_S p e below T213 (mkF m 136 (own_loc15 p0 p1 p2 p3 cn ii jj b130) [(.ref r213), .int 1, (.ref b179), (.ref b179)]) _
      refine st227 _ ?_
      exact kt
    · obtain ⟨cl236, Ar236, q236, S236, M236, H236, G236⟩ := id V202
      have hin236 : ¬ ((1 : Int32) < 0 ∨ cl236.slots.size ≤ ((1 : Int32)).toNatClampNeg) := inb_of S236 ⟨(by decide : ¬ (1 : Int32) < 0), (by decide : (1 : Int32) < (3 : Int32))⟩
      obtain ⟨T236, h236, X236, e236, W236, st236⟩ := stR X202 hx hZ e202 Ar236 (j := (1 : Int32)) hin236 rfl (Or.inl rfl) (g := (mkF m 136 (own_loc15 p0 p1 p2 p3 cn ii jj b130) [.null, .int 1, (.ref b179), (.ref b179)])) rfl rfl (hb hby at_136)
      have V236 : Arv Z h236 b179 k179 (.object "java/lang/String") (3 : Int32) [(.ref r190), .null, .null] .null := Arv.set Ar236 q236 S236 M236 H236 G236 rfl W236 1 rfl (Nat.le_of_ble_eq_true rfl)
      have x237 := x203.wr W236 ge_b179
      have x238 := x204.wr W236
      have x239 := x205.wr W236
      have x240 := x206.wr W236
      have x241 := x207.other W236 ne180
      have x242 := x208.wr W236
      have sz243 : n0 ≤ h236.size := Nat.le_trans sz209 (Keep.of_wr W236).1
      have N236 := Fr.snoc X236 N202 ge_b179
      refine ⟨T236, h236, _, .null, X236.mono (by decide) (by decide), e236, sz243, N236, x237, x238, x239, x240, x241, x242, V236, rfl, own_sv.null, fun target kt => ?_⟩
      show own_S p e below T202 (mkF m 118 (own_loc15 p0 p1 p2 p3 cn ii jj b130) [(.ref b179)]) _
      refine cp212 _ ?_
      show own_S p e below T202 (mkF m 122 (own_loc15 p0 p1 p2 p3 cn ii jj b130) [(.int (own_n2 p0)), .int 1, (.ref b179), (.ref b179)]) _
      refine XS.ifNo X202.here hx rfl (hb hby at_122) rfl ((if0 _ _).trans (feq hc211).1) ?_
      show own_S p e below T202 (mkF m 125 (own_loc15 p0 p1 p2 p3 cn ii jj b130) [.int 1, (.ref b179), (.ref b179)]) _
      refine XS.aconstNull X202.here hx rfl (hb hby at_125) ?_
      show own_S p e below T202 (mkF m 126 (own_loc15 p0 p1 p2 p3 cn ii jj b130) [.null, .int 1, (.ref b179), (.ref b179)]) _
      refine XS.goto X202.here hx rfl (pc0 := 126) (pc' := 136) rfl (hb hby at_126) (by decide) (by decide) ?_
      show own_S p e below T202 (mkF m 136 (own_loc15 p0 p1 p2 p3 cn ii jj b130) [.null, .int 1, (.ref b179), (.ref b179)]) _
      refine st236 _ ?_
      exact kt
  obtain ⟨_, _, ⟨T251, L251, k251, n251⟩, -, X251, ⟨Lc251, hQ251, l251, y251, z251⟩, st251⟩ := Jvm.LawKit.callS X210 hx (y := (⟨"com/example/xml_signing/xmlsigning/c14n/TreeElementSetNamesPinLaw", "str", "(I)Ljava/lang/String;"⟩ : MethodName)) hown (mvT hZ (hw _ (List.mem_of_getElem? (i := 3) rfl))) (mvT hZ (hw _ (List.mem_of_getElem? (i := 4) rfl))) (mvT hZ (hw _ (List.mem_of_getElem? (i := 5) rfl))) (mvT hZ (hw _ (List.mem_of_getElem? (i := 6) rfl))) (by decide) (backOf (W := 3) (rm1 l Z ag hw [] (own_ushr p3 (16 : Int32)) cs h210 n0 sz210 x244 S_cs hcs) hZ (hw _ (List.mem_of_getElem? (i := 6) rfl)) (hw _ (List.mem_of_getElem? (i := 5) rfl)) (by decide) (by decide)) (g := (mkF m 143 (own_loc15 p0 p1 p2 p3 cn ii jj b130) [(.int (own_ushr p3 (16 : Int32))), .int 2, (.ref b179), (.ref b179)])) rfl (by rw [hml]; rfl) (argsL := [(.int (own_ushr p3 (16 : Int32)))]) (rest := [(.int (2 : Int32)), (.ref b179), (.ref b179)]) (lenOf pd_1 rfl) rfl (by show 2 * 0 + _ ≤ _; exact Nat.le_of_eq rfl) (hb hby at_143) (fun _ _ => ⟨rfl, e210, (by decide : 17 + 3 ≤ _), (by decide : 36 + 6 ≤ _)⟩)
  dsimp only [Pt.U, Pt.locs, Pt.cells, Pt.slots] at X251 l251 y251 z251 st251 hQ251
  subst l251 y251 z251
  obtain ⟨r251, rfl, N251q, K251, ge_r251, gq_r251, Er251⟩ := hQ251
  have N251 := Fr.app N210 N251q
  have ne252 : b130 ≠ r251 := Nat.ne_of_lt (Nat.lt_of_lt_of_le x248.lt gq_r251)
  have ne253 : r134 ≠ r251 := Nat.ne_of_lt (Nat.lt_of_lt_of_le x245.lt gq_r251)
  have ne254 : r165 ≠ r251 := Nat.ne_of_lt (Nat.lt_of_lt_of_le x247.lt gq_r251)
  have ne255 : b179 ≠ r251 := Nat.ne_of_lt (Nat.lt_of_lt_of_le x250.lt gq_r251)
  have ne256 : r190 ≠ r251 := Nat.ne_of_lt (Nat.lt_of_lt_of_le x249.lt gq_r251)
  have x257 := x244.keep K251 all0
  have x258 := x245.keep K251
  have x259 := x246.keep K251
  have x260 := x247.keep K251
  have x261 := x248.keep K251 nin0
  have x262 := x249.keep K251
  have x263 := x250.keep K251 nin0
  have x264 := sv_y1.keep K251
  have sz265 : n0 ≤ T251.heap.size := Nat.le_trans sz210 K251.1
  obtain ⟨cl266, Ar266, q266, S266, M266, H266, G266⟩ := id x263
  have hin266 : ¬ ((2 : Int32) < 0 ∨ cl266.slots.size ≤ ((2 : Int32)).toNatClampNeg) := inb_of S266 ⟨(by decide : ¬ (2 : Int32) < 0), (by decide : (2 : Int32) < (3 : Int32))⟩
  obtain ⟨T266, h266, X266, e266, W266, st266⟩ := stR X251 hx hZ rfl Ar266 (j := (2 : Int32)) hin266 rfl (Sto.ofV Ar266 q266 O179 (Ins.self Er251)) (g := (mkF m 146 (own_loc15 p0 p1 p2 p3 cn ii jj b130) [(.ref r251), .int 2, (.ref b179), (.ref b179)])) rfl rfl (hb hby at_146)
  have V266 : Arv Z h266 b179 k179 (.object "java/lang/String") (3 : Int32) [(.ref r190), y1, (.ref r251)] .null := Arv.set Ar266 q266 S266 M266 H266 G266 rfl W266 2 rfl (Nat.le_of_ble_eq_true rfl)
  have x267 := x257.wr W266 ge_b179
  have x268 := x258.wr W266
  have x269 := x259.wr W266
  have x270 := x260.wr W266
  have x271 := x261.other W266 ne180
  have x272 := x262.wr W266
  have x273 := x264.wr W266
  have x274 := Er251.wr W266
  have sz275 : n0 ≤ h266.size := Nat.le_trans sz265 (Keep.of_wr W266).1
  have N266 := Fr.snoc X266 N251 ge_b179
  have cp276 : ∀ target, own_S p e below T266 (mkF m 151 (own_loc16 p0 p1 p2 p3 cn ii jj b130 b179) [(.int cn)]) target → own_S p e below s₁ (mkF m 0 (own_loc9 p0 p1 p2 p3) []) target := by
    intro target kt
    show own_S p e below s₁ (mkF m 0 (own_loc9 p0 p1 p2 p3) []) _
    refine cp189 _ ?_
    show own_S p e below T179 (mkF m 114 (own_loc15 p0 p1 p2 p3 cn ii jj b130) [(.int p3), .int 0, (.ref b179), (.ref b179)]) _
    refine st190 _ ?_
    show own_S p e below T190 (mkF m 117 (own_loc15 p0 p1 p2 p3 cn ii jj b130) [(.ref r190), .int 0, (.ref b179), (.ref b179)]) _
    refine st202 _ ?_
    show own_S p e below T202 (mkF m 118 (own_loc15 p0 p1 p2 p3 cn ii jj b130) [(.ref b179)]) _
    refine st210 _ ?_
    show own_S p e below T210 (mkF m 137 (own_loc15 p0 p1 p2 p3 cn ii jj b130) [(.ref b179)]) _
    refine XS.dup X210.here hx rfl (hb hby at_137) rfl rfl ?_
    show own_S p e below T210 (mkF m 138 (own_loc15 p0 p1 p2 p3 cn ii jj b130) [(.ref b179), (.ref b179)]) _
    refine XS.iconst X210.here hx rfl (hb hby at_138) ?_
    show own_S p e below T210 (mkF m 139 (own_loc15 p0 p1 p2 p3 cn ii jj b130) [.int 2, (.ref b179), (.ref b179)]) _
    refine XS.iloadN X210.here hx rfl (hb hby at_139) rfl ?_
    show own_S p e below T210 (mkF m 140 (own_loc15 p0 p1 p2 p3 cn ii jj b130) [(.int p3), .int 2, (.ref b179), (.ref b179)]) _
    refine XS.bipush X210.here hx rfl (hb hby at_140) ?_
    show own_S p e below T210 (mkF m 142 (own_loc15 p0 p1 p2 p3 cn ii jj b130) [.int 16, (.int p3), .int 2, (.ref b179), (.ref b179)]) _
    refine XS.iushr X210.here hx rfl (hb hby at_142) rfl ?_
    show own_S p e below T210 (mkF m 143 (own_loc15 p0 p1 p2 p3 cn ii jj b130) [(.int (own_ushr p3 (16 : Int32))), .int 2, (.ref b179), (.ref b179)]) _
    refine st251 _ ?_
    show own_S p e below T251 (mkF m 146 (own_loc15 p0 p1 p2 p3 cn ii jj b130) [(.ref r251), .int 2, (.ref b179), (.ref b179)]) _
    refine st266 _ ?_
    show own_S p e below T266 (mkF m 147 (own_loc15 p0 p1 p2 p3 cn ii jj b130) [(.ref b179)]) _
    refine XS.astore X266.here hx rfl (hb hby at_147) rfl rfl (l' := (own_loc16 p0 p1 p2 p3 cn ii jj b130 b179)) rfl ?_
    show own_S p e below T266 (mkF m 149 (own_loc16 p0 p1 p2 p3 cn ii jj b130 b179) []) _
    refine XS.iload X266.here hx rfl (hb hby at_149) rfl ?_
    exact kt
  obtain ⟨_, _, ⟨T277, L277, k277, n277⟩, -, X277, ⟨Lc277, hQ277, l277, y277, z277⟩, st277⟩ := Jvm.LawKit.callS X266 hx (y := (⟨"com/example/xml_signing/xmlsigning/c14n/TreeElement", "nameRows", "(I)[Ljava/lang/String;"⟩ : MethodName)) hown (mvT hZ (hw _ (List.mem_of_getElem? (i := 36) rfl))) (mvT hZ (hw _ (List.mem_of_getElem? (i := 37) rfl))) (mvT hZ (hw _ (List.mem_of_getElem? (i := 38) rfl))) (mvT hZ (hw _ (List.mem_of_getElem? (i := 39) rfl))) (by decide) (backOf (W := 0) (rm8 l Z ag hw [] cn  h266 n0 sz275 hc1 hc3) hZ (hw _ (List.mem_of_getElem? (i := 39) rfl)) (hw _ (List.mem_of_getElem? (i := 38) rfl)) (by decide) (by decide)) (g := (mkF m 151 (own_loc16 p0 p1 p2 p3 cn ii jj b130 b179) [(.int cn)])) rfl (by rw [hml]; rfl) (argsL := [(.int cn)]) (rest := []) (lenOf pd_2 rfl) rfl (by show 2 * 0 + _ ≤ _; exact Nat.le_of_eq rfl) (hb hby at_151) (fun _ _ => ⟨rfl, e266, (by decide : 20 + 1 ≤ _), (by decide : 42 + 9 ≤ _)⟩)
  dsimp only [Pt.U, Pt.locs, Pt.cells, Pt.slots] at X277 l277 y277 z277 st277 hQ277
  subst l277 y277 z277
  obtain ⟨r277, kr277, rfl, N277q, K277, ge_r277, gq_r277, Or277, Vq277⟩ := hQ277
  have N277 := Fr.app N266 N277q
  have Vr277 : Arv Z T277.heap r277 kr277 (.object "java/lang/String") ((3 : Int32) * cn) (List.replicate (((3 : Int32) * cn)).toNatClampNeg (.null : Value)) .null := Vq277.pad (pad_rep [] .null _)
  have ne278 : b130 ≠ r277 := Nat.ne_of_lt (Nat.lt_of_lt_of_le x271.lt gq_r277)
  have ne279 : r134 ≠ r277 := Nat.ne_of_lt (Nat.lt_of_lt_of_le x268.lt gq_r277)
  have ne280 : r165 ≠ r277 := Nat.ne_of_lt (Nat.lt_of_lt_of_le x270.lt gq_r277)
  have ne281 : b179 ≠ r277 := Nat.ne_of_lt (Nat.lt_of_lt_of_le V266.lt gq_r277)
  have ne282 : r190 ≠ r277 := Nat.ne_of_lt (Nat.lt_of_lt_of_le x272.lt gq_r277)
  have ne283 : r251 ≠ r277 := Nat.ne_of_lt (Nat.lt_of_lt_of_le x274.lt gq_r277)
  have x284 := x267.keep K277 all0
  have x285 := x268.keep K277
  have x286 := x269.keep K277
  have x287 := x270.keep K277
  have x288 := x271.keep K277 nin0
  have x289 := x272.keep K277
  have x290 := x273.keep K277
  have x291 := x274.keep K277
  have x292 := V266.keep K277 nin0
  have sz293 : n0 ≤ T277.heap.size := Nat.le_trans sz275 K277.1
  obtain ⟨cl294, Ar294, q294, S294, M294, H294, G294⟩ := id x288
  have hin294 : ¬ ((0 : Int32) < 0 ∨ cl294.slots.size ≤ ((0 : Int32)).toNatClampNeg) := inb_of S294 ⟨(by decide : ¬ (0 : Int32) < 0), (by decide : (0 : Int32) < (3 : Int32))⟩
  have hat294 : cl294.slots[((0 : Int32)).toNatClampNeg]? = some (.ref r134) := Has.at H294 hin294 rfl
  have ld294 := X277.aaload hx (j := (0 : Int32)) (v := (.ref r134)) Ar294.1 (State.isArrayOf_alike hZ.alike Ar294.2.1) rfl Ar294.2.2 hin294 hat294 (g := (mkF m 163 (own_loc17 p0 p1 p2 p3 cn ii jj b130 b179 r277) [.int 0, (.ref b130), (.int ii), (.ref r277)])) rfl rfl (hb hby at_163)
  obtain ⟨cl295, Ar295, q295, S295, M295, H295, G295⟩ := id x288
  have hin295 : ¬ ((1 : Int32) < 0 ∨ cl295.slots.size ≤ ((1 : Int32)).toNatClampNeg) := inb_of S295 ⟨(by decide : ¬ (1 : Int32) < 0), (by decide : (1 : Int32) < (3 : Int32))⟩
  have hat295 : cl295.slots[((1 : Int32)).toNatClampNeg]? = some x1 := Has.at H295 hin295 rfl
  have ld295 := X277.aaload hx (j := (1 : Int32)) (v := x1) Ar295.1 (State.isArrayOf_alike hZ.alike Ar295.2.1) rfl Ar295.2.2 hin295 hat295 (g := (mkF m 167 (own_loc17 p0 p1 p2 p3 cn ii jj b130 b179 r277) [.int 1, (.ref b130), (.ref r134), (.int ii), (.ref r277)])) rfl rfl (hb hby at_167)
  obtain ⟨cl296, Ar296, q296, S296, M296, H296, G296⟩ := id x288
  have hin296 : ¬ ((2 : Int32) < 0 ∨ cl296.slots.size ≤ ((2 : Int32)).toNatClampNeg) := inb_of S296 ⟨(by decide : ¬ (2 : Int32) < 0), (by decide : (2 : Int32) < (3 : Int32))⟩
  have hat296 : cl296.slots[((2 : Int32)).toNatClampNeg]? = some (.ref r165) := Has.at H296 hin296 rfl
  have ld296 := X277.aaload hx (j := (2 : Int32)) (v := (.ref r165)) Ar296.1 (State.isArrayOf_alike hZ.alike Ar296.2.1) rfl Ar296.2.2 hin296 hat296 (g := (mkF m 171 (own_loc17 p0 p1 p2 p3 cn ii jj b130 b179 r277) [.int 2, (.ref b130), x1, (.ref r134), (.int ii), (.ref r277)])) rfl rfl (hb hby at_171)
  have cp297 : ∀ target, own_S p e below T277 (mkF m 172 (own_loc17 p0 p1 p2 p3 cn ii jj b130 b179 r277) [(.ref r165), x1, (.ref r134), (.int ii), (.ref r277)]) target → own_S p e below s₁ (mkF m 0 (own_loc9 p0 p1 p2 p3) []) target := by
    intro target kt
    show own_S p e below s₁ (mkF m 0 (own_loc9 p0 p1 p2 p3) []) _
    refine cp276 _ ?_
    show own_S p e below T266 (mkF m 151 (own_loc16 p0 p1 p2 p3 cn ii jj b130 b179) [(.int cn)]) _
    refine st277 _ ?_
    show own_S p e below T277 (mkF m 154 (own_loc16 p0 p1 p2 p3 cn ii jj b130 b179) [(.ref r277)]) _
    refine XS.astore X277.here hx rfl (hb hby at_154) rfl rfl (l' := (own_loc17 p0 p1 p2 p3 cn ii jj b130 b179 r277)) rfl ?_
    show own_S p e below T277 (mkF m 156 (own_loc17 p0 p1 p2 p3 cn ii jj b130 b179 r277) []) _
    refine XS.aload X277.here hx rfl (hb hby at_156) rfl rfl ?_
    show own_S p e below T277 (mkF m 158 (own_loc17 p0 p1 p2 p3 cn ii jj b130 b179 r277) [(.ref r277)]) _
    refine XS.iload X277.here hx rfl (hb hby at_158) rfl ?_
    show own_S p e below T277 (mkF m 160 (own_loc17 p0 p1 p2 p3 cn ii jj b130 b179 r277) [(.int ii), (.ref r277)]) _
    refine XS.aload X277.here hx rfl (hb hby at_160) rfl rfl ?_
    show own_S p e below T277 (mkF m 162 (own_loc17 p0 p1 p2 p3 cn ii jj b130 b179 r277) [(.ref b130), (.int ii), (.ref r277)]) _
    refine XS.iconst X277.here hx rfl (hb hby at_162) ?_
    show own_S p e below T277 (mkF m 163 (own_loc17 p0 p1 p2 p3 cn ii jj b130 b179 r277) [.int 0, (.ref b130), (.int ii), (.ref r277)]) _
    refine ld294 _ ?_
    show own_S p e below T277 (mkF m 164 (own_loc17 p0 p1 p2 p3 cn ii jj b130 b179 r277) [(.ref r134), (.int ii), (.ref r277)]) _
    refine XS.aload X277.here hx rfl (hb hby at_164) rfl rfl ?_
    show own_S p e below T277 (mkF m 166 (own_loc17 p0 p1 p2 p3 cn ii jj b130 b179 r277) [(.ref b130), (.ref r134), (.int ii), (.ref r277)]) _
    refine XS.iconst X277.here hx rfl (hb hby at_166) ?_
    show own_S p e below T277 (mkF m 167 (own_loc17 p0 p1 p2 p3 cn ii jj b130 b179 r277) [.int 1, (.ref b130), (.ref r134), (.int ii), (.ref r277)]) _
    refine ld295 _ ?_
    show own_S p e below T277 (mkF m 168 (own_loc17 p0 p1 p2 p3 cn ii jj b130 b179 r277) [x1, (.ref r134), (.int ii), (.ref r277)]) _
    refine XS.aload X277.here hx rfl (hb hby at_168) rfl rfl ?_
    show own_S p e below T277 (mkF m 170 (own_loc17 p0 p1 p2 p3 cn ii jj b130 b179 r277) [(.ref b130), x1, (.ref r134), (.int ii), (.ref r277)]) _
    refine XS.iconst X277.here hx rfl (hb hby at_170) ?_
    show own_S p e below T277 (mkF m 171 (own_loc17 p0 p1 p2 p3 cn ii jj b130 b179 r277) [.int 2, (.ref b130), x1, (.ref r134), (.int ii), (.ref r277)]) _
    refine ld296 _ ?_
    exact kt
  obtain ⟨_, _, ⟨T298, L298, k298, n298⟩, -, X298, ⟨Lc298, hQ298, l298, y298, z298⟩, st298⟩ := Jvm.LawKit.callS X277 hx (y := (⟨"com/example/xml_signing/xmlsigning/c14n/TreeElement", "setNames", "([Ljava/lang/String;ILjava/lang/String;Ljava/lang/String;Ljava/lang/String;)V"⟩ : MethodName)) hown (mvT hZ (hw _ (List.mem_of_getElem? (i := 41) rfl))) (mvT hZ (hw _ (List.mem_of_getElem? (i := 42) rfl))) (mvT hZ (hw _ (List.mem_of_getElem? (i := 38) rfl))) (mvT hZ (hw _ (List.mem_of_getElem? (i := 43) rfl))) (by decide) (backOf (W := 0) (rm9 l Z ag hw [] r277 ii (.ref r134) x1 (.ref r165) kr277 ((3 : Int32) * cn) (List.replicate (((3 : Int32) * cn)).toNatClampNeg (.null : Value)) T277.heap n0 sz293 rfl rv_x1 rfl Vr277 Or277 ge_r277 (own_sv.of x285) x286 (own_sv.of x287) (own_b3 ii cn hc1 hc3 h0ii) (by rw [List.length_replicate])) hZ (hw _ (List.mem_of_getElem? (i := 43) rfl)) (hw _ (List.mem_of_getElem? (i := 38) rfl)) (by decide) (by decide)) (g := (mkF m 172 (own_loc17 p0 p1 p2 p3 cn ii jj b130 b179 r277) [(.ref r165), x1, (.ref r134), (.int ii), (.ref r277)])) rfl (by rw [hml]; rfl) (argsL := [(.ref r277), (.int ii), (.ref r134), x1, (.ref r165)]) (rest := []) (lenOf pd_9 rfl) rfl (by show 2 * 0 + _ ≤ _; exact Nat.le_of_eq rfl) (hb hby at_172) (fun _ _ => ⟨rfl, rfl, (by decide : 21 + 0 ≤ _), (by decide : 51 + 0 ≤ _)⟩)
  dsimp only [Pt.U, Pt.locs, Pt.cells, Pt.slots] at X298 l298 y298 z298 st298 hQ298
  subst l298 y298 z298
  obtain ⟨rfl, N298q, K298, Vr298⟩ := hQ298
  have N298 := Fr.app N277 N298q
  have x299 := x284.keep K298 (allS ge_r277 all0)
  have x300 := x285.keep K298
  have x301 := x286.keep K298
  have x302 := x287.keep K298
  have x303 := x288.keep K298 (ninS ne278 nin0)
  have x304 := x289.keep K298
  have x305 := x290.keep K298
  have x306 := x291.keep K298
  have x307 := x292.keep K298 (ninS ne281 nin0)
  have sz308 : n0 ≤ T298.heap.size := Nat.le_trans sz293 K298.1
  obtain ⟨cl309, Ar309, q309, S309, M309, H309, G309⟩ := id x307
  have hin309 : ¬ ((0 : Int32) < 0 ∨ cl309.slots.size ≤ ((0 : Int32)).toNatClampNeg) := inb_of S309 ⟨(by decide : ¬ (0 : Int32) < 0), (by decide : (0 : Int32) < (3 : Int32))⟩
  have hat309 : cl309.slots[((0 : Int32)).toNatClampNeg]? = some (.ref r190) := Has.at H309 hin309 rfl
  have ld309 := X298.aaload hx (j := (0 : Int32)) (v := (.ref r190)) Ar309.1 (State.isArrayOf_alike hZ.alike Ar309.2.1) rfl Ar309.2.2 hin309 hat309 (g := (mkF m 182 (own_loc17 p0 p1 p2 p3 cn ii jj b130 b179 r277) [.int 0, (.ref b179), (.int jj), (.ref r277)])) rfl rfl (hb hby at_182)
  obtain ⟨cl310, Ar310, q310, S310, M310, H310, G310⟩ := id x307
  have hin310 : ¬ ((1 : Int32) < 0 ∨ cl310.slots.size ≤ ((1 : Int32)).toNatClampNeg) := inb_of S310 ⟨(by decide : ¬ (1 : Int32) < 0), (by decide : (1 : Int32) < (3 : Int32))⟩
  have hat310 : cl310.slots[((1 : Int32)).toNatClampNeg]? = some y1 := Has.at H310 hin310 rfl
  have ld310 := X298.aaload hx (j := (1 : Int32)) (v := y1) Ar310.1 (State.isArrayOf_alike hZ.alike Ar310.2.1) rfl Ar310.2.2 hin310 hat310 (g := (mkF m 186 (own_loc17 p0 p1 p2 p3 cn ii jj b130 b179 r277) [.int 1, (.ref b179), (.ref r190), (.int jj), (.ref r277)])) rfl rfl (hb hby at_186)
  obtain ⟨cl311, Ar311, q311, S311, M311, H311, G311⟩ := id x307
  have hin311 : ¬ ((2 : Int32) < 0 ∨ cl311.slots.size ≤ ((2 : Int32)).toNatClampNeg) := inb_of S311 ⟨(by decide : ¬ (2 : Int32) < 0), (by decide : (2 : Int32) < (3 : Int32))⟩
  have hat311 : cl311.slots[((2 : Int32)).toNatClampNeg]? = some (.ref r251) := Has.at H311 hin311 rfl
  have ld311 := X298.aaload hx (j := (2 : Int32)) (v := (.ref r251)) Ar311.1 (State.isArrayOf_alike hZ.alike Ar311.2.1) rfl Ar311.2.2 hin311 hat311 (g := (mkF m 190 (own_loc17 p0 p1 p2 p3 cn ii jj b130 b179 r277) [.int 2, (.ref b179), y1, (.ref r190), (.int jj), (.ref r277)])) rfl rfl (hb hby at_190)
  have cp312 : ∀ target, own_S p e below T298 (mkF m 191 (own_loc17 p0 p1 p2 p3 cn ii jj b130 b179 r277) [(.ref r251), y1, (.ref r190), (.int jj), (.ref r277)]) target → own_S p e below s₁ (mkF m 0 (own_loc9 p0 p1 p2 p3) []) target := by
    intro target kt
    show own_S p e below s₁ (mkF m 0 (own_loc9 p0 p1 p2 p3) []) _
    refine cp297 _ ?_
    show own_S p e below T277 (mkF m 172 (own_loc17 p0 p1 p2 p3 cn ii jj b130 b179 r277) [(.ref r165), x1, (.ref r134), (.int ii), (.ref r277)]) _
    refine st298 _ ?_
    show own_S p e below T298 (mkF m 175 (own_loc17 p0 p1 p2 p3 cn ii jj b130 b179 r277) []) _
    refine XS.aload X298.here hx rfl (hb hby at_175) rfl rfl ?_
    show own_S p e below T298 (mkF m 177 (own_loc17 p0 p1 p2 p3 cn ii jj b130 b179 r277) [(.ref r277)]) _
    refine XS.iload X298.here hx rfl (hb hby at_177) rfl ?_
    show own_S p e below T298 (mkF m 179 (own_loc17 p0 p1 p2 p3 cn ii jj b130 b179 r277) [(.int jj), (.ref r277)]) _
    refine XS.aload X298.here hx rfl (hb hby at_179) rfl rfl ?_
    show own_S p e below T298 (mkF m 181 (own_loc17 p0 p1 p2 p3 cn ii jj b130 b179 r277) [(.ref b179), (.int jj), (.ref r277)]) _
    refine XS.iconst X298.here hx rfl (hb hby at_181) ?_
    show own_S p e below T298 (mkF m 182 (own_loc17 p0 p1 p2 p3 cn ii jj b130 b179 r277) [.int 0, (.ref b179), (.int jj), (.ref r277)]) _
    refine ld309 _ ?_
    show own_S p e below T298 (mkF m 183 (own_loc17 p0 p1 p2 p3 cn ii jj b130 b179 r277) [(.ref r190), (.int jj), (.ref r277)]) _
    refine XS.aload X298.here hx rfl (hb hby at_183) rfl rfl ?_
    show own_S p e below T298 (mkF m 185 (own_loc17 p0 p1 p2 p3 cn ii jj b130 b179 r277) [(.ref b179), (.ref r190), (.int jj), (.ref r277)]) _
    refine XS.iconst X298.here hx rfl (hb hby at_185) ?_
    show own_S p e below T298 (mkF m 186 (own_loc17 p0 p1 p2 p3 cn ii jj b130 b179 r277) [.int 1, (.ref b179), (.ref r190), (.int jj), (.ref r277)]) _
    refine ld310 _ ?_
    show own_S p e below T298 (mkF m 187 (own_loc17 p0 p1 p2 p3 cn ii jj b130 b179 r277) [y1, (.ref r190), (.int jj), (.ref r277)]) _
    refine XS.aload X298.here hx rfl (hb hby at_187) rfl rfl ?_
    show own_S p e below T298 (mkF m 189 (own_loc17 p0 p1 p2 p3 cn ii jj b130 b179 r277) [(.ref b179), y1, (.ref r190), (.int jj), (.ref r277)]) _
    refine XS.iconst X298.here hx rfl (hb hby at_189) ?_
    show own_S p e below T298 (mkF m 190 (own_loc17 p0 p1 p2 p3 cn ii jj b130 b179 r277) [.int 2, (.ref b179), y1, (.ref r190), (.int jj), (.ref r277)]) _
    refine ld311 _ ?_
    exact kt
  obtain ⟨_, _, ⟨T313, L313, k313, n313⟩, -, X313, ⟨Lc313, hQ313, l313, y313, z313⟩, st313⟩ := Jvm.LawKit.callS X298 hx (y := (⟨"com/example/xml_signing/xmlsigning/c14n/TreeElement", "setNames", "([Ljava/lang/String;ILjava/lang/String;Ljava/lang/String;Ljava/lang/String;)V"⟩ : MethodName)) hown (mvT hZ (hw _ (List.mem_of_getElem? (i := 41) rfl))) (mvT hZ (hw _ (List.mem_of_getElem? (i := 42) rfl))) (mvT hZ (hw _ (List.mem_of_getElem? (i := 38) rfl))) (mvT hZ (hw _ (List.mem_of_getElem? (i := 43) rfl))) (by decide) (backOf (W := 0) (rm9 l Z ag hw [] r277 jj (.ref r190) y1 (.ref r251) kr277 ((3 : Int32) * cn) (own_set (List.replicate (((3 : Int32) * cn)).toNatClampNeg (.null : Value)) ii (.ref r134) x1 (.ref r165)) T298.heap n0 sz308 rfl rv_y1 rfl Vr298 Or277 ge_r277 (own_sv.of x304) x305 (own_sv.of x306) (own_b3 jj cn hc1 hc3 h0jj) (by rw [own_set_len, List.length_replicate])) hZ (hw _ (List.mem_of_getElem? (i := 43) rfl)) (hw _ (List.mem_of_getElem? (i := 38) rfl)) (by decide) (by decide)) (g := (mkF m 191 (own_loc17 p0 p1 p2 p3 cn ii jj b130 b179 r277) [(.ref r251), y1, (.ref r190), (.int jj), (.ref r277)])) rfl (by rw [hml]; rfl) (argsL := [(.ref r277), (.int jj), (.ref r190), y1, (.ref r251)]) (rest := []) (lenOf pd_9 rfl) rfl (by show 2 * 0 + _ ≤ _; exact Nat.le_of_eq rfl) (hb hby at_191) (fun _ _ => ⟨rfl, rfl, (by decide : 21 + 0 ≤ _), (by decide : 51 + 0 ≤ _)⟩)
  dsimp only [Pt.U, Pt.locs, Pt.cells, Pt.slots] at X313 l313 y313 z313 st313 hQ313
  subst l313 y313 z313
  obtain ⟨rfl, N313q, K313, Vr313⟩ := hQ313
  have N313 := Fr.app N298 N313q
  have x314 := x299.keep K313 (allS ge_r277 all0)
  have x315 := x300.keep K313
  have x316 := x301.keep K313
  have x317 := x302.keep K313
  have x318 := x303.keep K313 (ninS ne278 nin0)
  have x319 := x304.keep K313
  have x320 := x305.keep K313
  have x321 := x306.keep K313
  have x322 := x307.keep K313 (ninS ne281 nin0)
  have sz323 : n0 ≤ T313.heap.size := Nat.le_trans sz308 K313.1
  obtain ⟨cl324, Ar324, -, S324, M324, -, -⟩ := id Vr313
  have ld324 := X313.arraylength hx Ar324.1 (State.isArrayOf_alike hZ.alike Ar324.2.1) (g := (mkF m 196 (own_loc17 p0 p1 p2 p3 cn ii jj b130 b179 r277) [(.ref r277)])) rfl rfl (hb hby at_196)
  have cp325 : ∀ target, own_S p e below T313 (mkF m 215 (own_loc17 p0 p1 p2 p3 cn ii jj b130 b179 r277) [(.ref b179), (.ref b130), (.int jj), (.int ii), .int 0, (.ref r277)]) target → own_S p e below s₁ (mkF m 0 (own_loc9 p0 p1 p2 p3) []) target := by
    intro target kt
    show own_S p e below s₁ (mkF m 0 (own_loc9 p0 p1 p2 p3) []) _
    refine cp312 _ ?_
    show own_S p e below T298 (mkF m 191 (own_loc17 p0 p1 p2 p3 cn ii jj b130 b179 r277) [(.ref r251), y1, (.ref r190), (.int jj), (.ref r277)]) _
    refine st313 _ ?_
    show own_S p e below T313 (mkF m 194 (own_loc17 p0 p1 p2 p3 cn ii jj b130 b179 r277) []) _
    refine XS.aload X313.here hx rfl (hb hby at_194) rfl rfl ?_
    show own_S p e below T313 (mkF m 196 (own_loc17 p0 p1 p2 p3 cn ii jj b130 b179 r277) [(.ref r277)]) _
    refine ld324 _ ?_
    rw [len_of S324 M324]
    show own_S p e below T313 (mkF m 197 (own_loc17 p0 p1 p2 p3 cn ii jj b130 b179 r277) [(.int ((3 : Int32) * cn))]) _
    refine XS.iconst X313.here hx rfl (hb hby at_197) ?_
    show own_S p e below T313 (mkF m 198 (own_loc17 p0 p1 p2 p3 cn ii jj b130 b179 r277) [.int 3, (.int ((3 : Int32) * cn))]) _
    refine XS.iload X313.here hx rfl (hb hby at_198) rfl ?_
    show own_S p e below T313 (mkF m 200 (own_loc17 p0 p1 p2 p3 cn ii jj b130 b179 r277) [(.int cn), .int 3, (.int ((3 : Int32) * cn))]) _
    refine XS.imul X313.here hx rfl (hb hby at_200) rfl ?_
    show own_S p e below T313 (mkF m 201 (own_loc17 p0 p1 p2 p3 cn ii jj b130 b179 r277) [(.int ((3 : Int32) * cn)), (.int ((3 : Int32) * cn))]) _
    refine XS.icmpNo X313.here hx rfl (hb hby at_201) rfl (teq (show ((3 : Int32) * cn) = ((3 : Int32) * cn) from rfl)).2 ?_
    show own_S p e below T313 (mkF m 204 (own_loc17 p0 p1 p2 p3 cn ii jj b130 b179 r277) []) _
    refine XS.aload X313.here hx rfl (hb hby at_204) rfl rfl ?_
    show own_S p e below T313 (mkF m 206 (own_loc17 p0 p1 p2 p3 cn ii jj b130 b179 r277) [(.ref r277)]) _
    refine XS.iconst X313.here hx rfl (hb hby at_206) ?_
    show own_S p e below T313 (mkF m 207 (own_loc17 p0 p1 p2 p3 cn ii jj b130 b179 r277) [.int 0, (.ref r277)]) _
    refine XS.iload X313.here hx rfl (hb hby at_207) rfl ?_
    show own_S p e below T313 (mkF m 209 (own_loc17 p0 p1 p2 p3 cn ii jj b130 b179 r277) [(.int ii), .int 0, (.ref r277)]) _
    refine XS.iload X313.here hx rfl (hb hby at_209) rfl ?_
    show own_S p e below T313 (mkF m 211 (own_loc17 p0 p1 p2 p3 cn ii jj b130 b179 r277) [(.int jj), (.int ii), .int 0, (.ref r277)]) _
    refine XS.aload X313.here hx rfl (hb hby at_211) rfl rfl ?_
    show own_S p e below T313 (mkF m 213 (own_loc17 p0 p1 p2 p3 cn ii jj b130 b179 r277) [(.ref b130), (.int jj), (.int ii), .int 0, (.ref r277)]) _
    refine XS.aload X313.here hx rfl (hb hby at_213) rfl rfl ?_
    exact kt
  obtain ⟨_, _, ⟨T326, L326, k326, n326⟩, -, X326, ⟨Lc326, hQ326, l326, y326, z326⟩, st326⟩ := Jvm.LawKit.callS X313 hx (y := (⟨"com/example/xml_signing/xmlsigning/c14n/TreeElementSetNamesPinLaw", "slot", "([Ljava/lang/String;III[Ljava/lang/String;[Ljava/lang/String;)Z"⟩ : MethodName)) hown (mvT hZ (hw _ (List.mem_of_getElem? (i := 44) rfl))) (mvT hZ (hw _ (List.mem_of_getElem? (i := 45) rfl))) (mvT hZ (hw _ (List.mem_of_getElem? (i := 5) rfl))) (mvT hZ (hw _ (List.mem_of_getElem? (i := 46) rfl))) (by decide) (backOf (W := 0) (rm10 l Z ag hw [] r277 (0 : Int32) ii jj b130 b179 kr277 ((3 : Int32) * cn) (own_set (own_set (List.replicate (((3 : Int32) * cn)).toNatClampNeg (.null : Value)) ii (.ref r134) x1 (.ref r165)) jj (.ref r190) y1 (.ref r251)) k130 [(.ref r134), x1, (.ref r165)] k179 [(.ref r190), y1, (.ref r251)] (own_x (0 : Int32) (own_set (own_set (List.replicate (((3 : Int32) * cn)).toNatClampNeg (.null : Value)) ii (.ref r134) x1 (.ref r165)) jj (.ref r190) y1 (.ref r251))) T313.heap n0 sz323 (own_xrv0 cn ii jj hc1 hc3 h0ii h0jj (f0 := (.ref r134)) (f1 := x1) (f2 := (.ref r165)) (f3 := (.ref r190)) (f4 := y1) (f5 := (.ref r251)) rfl rv_x1 rfl rfl rv_y1 rfl) Vr313 x318 x322 (own_sok0 cn ii jj hc1 hc3 h0ii h0jj (.ref r134) x1 (.ref r165) (.ref r190) y1 (.ref r251)) (by decide)) hZ (hw _ (List.mem_of_getElem? (i := 46) rfl)) (hw _ (List.mem_of_getElem? (i := 5) rfl)) (by decide) (by decide)) (g := (mkF m 215 (own_loc17 p0 p1 p2 p3 cn ii jj b130 b179 r277) [(.ref b179), (.ref b130), (.int jj), (.int ii), .int 0, (.ref r277)])) rfl (by rw [hml]; rfl) (argsL := [(.ref r277), (.int (0 : Int32)), (.int ii), (.int jj), (.ref b130), (.ref b179)]) (rest := []) (lenOf pd_8 rfl) rfl (by show 2 * 0 + _ ≤ _; exact Nat.le_of_eq rfl) (hb hby at_215) (fun _ _ => ⟨rfl, rfl, (by decide : 21 + 0 ≤ _), (by decide : 51 + 0 ≤ _)⟩)
  dsimp only [Pt.U, Pt.locs, Pt.cells, Pt.slots] at X326 l326 y326 z326 st326 hQ326
  subst l326 y326 z326
  obtain ⟨rfl, N326q, e326⟩ := hQ326
  have N326 := Fr.app N313 N326q
  obtain ⟨_, _, ⟨T327, L327, k327, n327⟩, -, X327, ⟨Lc327, hQ327, l327, y327, z327⟩, st327⟩ := Jvm.LawKit.callS X326 hx (y := (⟨"com/example/xml_signing/xmlsigning/c14n/TreeElementSetNamesPinLaw", "slot", "([Ljava/lang/String;III[Ljava/lang/String;[Ljava/lang/String;)Z"⟩ : MethodName)) hown (mvT hZ (hw _ (List.mem_of_getElem? (i := 44) rfl))) (mvT hZ (hw _ (List.mem_of_getElem? (i := 45) rfl))) (mvT hZ (hw _ (List.mem_of_getElem? (i := 5) rfl))) (mvT hZ (hw _ (List.mem_of_getElem? (i := 46) rfl))) (by decide) (backOf (W := 0) (rm10 l Z ag hw [] r277 (1 : Int32) ii jj b130 b179 kr277 ((3 : Int32) * cn) (own_set (own_set (List.replicate (((3 : Int32) * cn)).toNatClampNeg (.null : Value)) ii (.ref r134) x1 (.ref r165)) jj (.ref r190) y1 (.ref r251)) k130 [(.ref r134), x1, (.ref r165)] k179 [(.ref r190), y1, (.ref r251)] (own_x (1 : Int32) (own_set (own_set (List.replicate (((3 : Int32) * cn)).toNatClampNeg (.null : Value)) ii (.ref r134) x1 (.ref r165)) jj (.ref r190) y1 (.ref r251))) T313.heap n0 sz323 (own_xrv1 cn ii jj hc1 hc3 h0ii h0jj (f0 := (.ref r134)) (f1 := x1) (f2 := (.ref r165)) (f3 := (.ref r190)) (f4 := y1) (f5 := (.ref r251)) rfl rv_x1 rfl rfl rv_y1 rfl) Vr313 x318 x322 (own_sok1 cn ii jj hc1 hc3 h0ii h0jj (.ref r134) x1 (.ref r165) (.ref r190) y1 (.ref r251)) (by decide)) hZ (hw _ (List.mem_of_getElem? (i := 46) rfl)) (hw _ (List.mem_of_getElem? (i := 5) rfl)) (by decide) (by decide)) (g := (mkF m 232 (own_loc17 p0 p1 p2 p3 cn ii jj b130 b179 r277) [(.ref b179), (.ref b130), (.int jj), (.int ii), .int 1, (.ref r277)])) rfl (by rw [hml]; rfl) (argsL := [(.ref r277), (.int (1 : Int32)), (.int ii), (.int jj), (.ref b130), (.ref b179)]) (rest := []) (lenOf pd_8 rfl) rfl (by show 2 * 0 + _ ≤ _; exact Nat.le_of_eq rfl) (hb hby at_232) (fun _ _ => ⟨rfl, e326, (by decide : 21 + 0 ≤ _), (by decide : 51 + 0 ≤ _)⟩)
  dsimp only [Pt.U, Pt.locs, Pt.cells, Pt.slots] at X327 l327 y327 z327 st327 hQ327
  subst l327 y327 z327
  obtain ⟨rfl, N327q, e327⟩ := hQ327
  have N327 := Fr.app N326 N327q
  have cp328 : ∀ target, own_S p e below T327 (mkF m 249 (own_loc17 p0 p1 p2 p3 cn ii jj b130 b179 r277) [(.ref b179), (.ref b130), (.int jj), (.int ii), .int 2, (.ref r277)]) target → own_S p e below s₁ (mkF m 0 (own_loc9 p0 p1 p2 p3) []) target := by
    intro target kt
    show own_S p e below s₁ (mkF m 0 (own_loc9 p0 p1 p2 p3) []) _
    refine cp325 _ ?_
    show own_S p e below T313 (mkF m 215 (own_loc17 p0 p1 p2 p3 cn ii jj b130 b179 r277) [(.ref b179), (.ref b130), (.int jj), (.int ii), .int 0, (.ref r277)]) _
    refine st326 _ ?_
    show own_S p e below T326 (mkF m 218 (own_loc17 p0 p1 p2 p3 cn ii jj b130 b179 r277) [.int 1]) _
    refine XS.ifNo X326.here hx rfl (hb hby at_218) rfl ((if0 _ _).trans (feq (show ¬ ((1 : Int32) = (0 : Int32)) from (by decide))).1) ?_
    show own_S p e below T326 (mkF m 221 (own_loc17 p0 p1 p2 p3 cn ii jj b130 b179 r277) []) _
    refine XS.aload X326.here hx rfl (hb hby at_221) rfl rfl ?_
    show own_S p e below T326 (mkF m 223 (own_loc17 p0 p1 p2 p3 cn ii jj b130 b179 r277) [(.ref r277)]) _
    refine XS.iconst X326.here hx rfl (hb hby at_223) ?_
    show own_S p e below T326 (mkF m 224 (own_loc17 p0 p1 p2 p3 cn ii jj b130 b179 r277) [.int 1, (.ref r277)]) _
    refine XS.iload X326.here hx rfl (hb hby at_224) rfl ?_
    show own_S p e below T326 (mkF m 226 (own_loc17 p0 p1 p2 p3 cn ii jj b130 b179 r277) [(.int ii), .int 1, (.ref r277)]) _
    refine XS.iload X326.here hx rfl (hb hby at_226) rfl ?_
    show own_S p e below T326 (mkF m 228 (own_loc17 p0 p1 p2 p3 cn ii jj b130 b179 r277) [(.int jj), (.int ii), .int 1, (.ref r277)]) _
    refine XS.aload X326.here hx rfl (hb hby at_228) rfl rfl ?_
    show own_S p e below T326 (mkF m 230 (own_loc17 p0 p1 p2 p3 cn ii jj b130 b179 r277) [(.ref b130), (.int jj), (.int ii), .int 1, (.ref r277)]) _
    refine XS.aload X326.here hx rfl (hb hby at_230) rfl rfl ?_
    show own_S p e below T326 (mkF m 232 (own_loc17 p0 p1 p2 p3 cn ii jj b130 b179 r277) [(.ref b179), (.ref b130), (.int jj), (.int ii), .int 1, (.ref r277)]) _
    refine st327 _ ?_
    show own_S p e below T327 (mkF m 235 (own_loc17 p0 p1 p2 p3 cn ii jj b130 b179 r277) [.int 1]) _
    refine XS.ifNo X327.here hx rfl (hb hby at_235) rfl ((if0 _ _).trans (feq (show ¬ ((1 : Int32) = (0 : Int32)) from (by decide))).1) ?_
    show own_S p e below T327 (mkF m 238 (own_loc17 p0 p1 p2 p3 cn ii jj b130 b179 r277) []) _
    refine XS.aload X327.here hx rfl (hb hby at_238) rfl rfl ?_
    show own_S p e below T327 (mkF m 240 (own_loc17 p0 p1 p2 p3 cn ii jj b130 b179 r277) [(.ref r277)]) _
    refine XS.iconst X327.here hx rfl (hb hby at_240) ?_
    show own_S p e below T327 (mkF m 241 (own_loc17 p0 p1 p2 p3 cn ii jj b130 b179 r277) [.int 2, (.ref r277)]) _
    refine XS.iload X327.here hx rfl (hb hby at_241) rfl ?_
    show own_S p e below T327 (mkF m 243 (own_loc17 p0 p1 p2 p3 cn ii jj b130 b179 r277) [(.int ii), .int 2, (.ref r277)]) _
    refine XS.iload X327.here hx rfl (hb hby at_243) rfl ?_
    show own_S p e below T327 (mkF m 245 (own_loc17 p0 p1 p2 p3 cn ii jj b130 b179 r277) [(.int jj), (.int ii), .int 2, (.ref r277)]) _
    refine XS.aload X327.here hx rfl (hb hby at_245) rfl rfl ?_
    show own_S p e below T327 (mkF m 247 (own_loc17 p0 p1 p2 p3 cn ii jj b130 b179 r277) [(.ref b130), (.int jj), (.int ii), .int 2, (.ref r277)]) _
    refine XS.aload X327.here hx rfl (hb hby at_247) rfl rfl ?_
    exact kt
  obtain ⟨_, _, ⟨T329, L329, k329, n329⟩, -, X329, ⟨Lc329, hQ329, l329, y329, z329⟩, st329⟩ := Jvm.LawKit.callS X327 hx (y := (⟨"com/example/xml_signing/xmlsigning/c14n/TreeElementSetNamesPinLaw", "slot", "([Ljava/lang/String;III[Ljava/lang/String;[Ljava/lang/String;)Z"⟩ : MethodName)) hown (mvT hZ (hw _ (List.mem_of_getElem? (i := 44) rfl))) (mvT hZ (hw _ (List.mem_of_getElem? (i := 45) rfl))) (mvT hZ (hw _ (List.mem_of_getElem? (i := 5) rfl))) (mvT hZ (hw _ (List.mem_of_getElem? (i := 46) rfl))) (by decide) (backOf (W := 0) (rm10 l Z ag hw [] r277 (2 : Int32) ii jj b130 b179 kr277 ((3 : Int32) * cn) (own_set (own_set (List.replicate (((3 : Int32) * cn)).toNatClampNeg (.null : Value)) ii (.ref r134) x1 (.ref r165)) jj (.ref r190) y1 (.ref r251)) k130 [(.ref r134), x1, (.ref r165)] k179 [(.ref r190), y1, (.ref r251)] (own_x (2 : Int32) (own_set (own_set (List.replicate (((3 : Int32) * cn)).toNatClampNeg (.null : Value)) ii (.ref r134) x1 (.ref r165)) jj (.ref r190) y1 (.ref r251))) T313.heap n0 sz323 (own_xrv2 cn ii jj hc1 hc3 h0ii h0jj (f0 := (.ref r134)) (f1 := x1) (f2 := (.ref r165)) (f3 := (.ref r190)) (f4 := y1) (f5 := (.ref r251)) rfl rv_x1 rfl rfl rv_y1 rfl) Vr313 x318 x322 (own_sok2 cn ii jj hc1 hc3 h0ii h0jj (.ref r134) x1 (.ref r165) (.ref r190) y1 (.ref r251)) (by decide)) hZ (hw _ (List.mem_of_getElem? (i := 46) rfl)) (hw _ (List.mem_of_getElem? (i := 5) rfl)) (by decide) (by decide)) (g := (mkF m 249 (own_loc17 p0 p1 p2 p3 cn ii jj b130 b179 r277) [(.ref b179), (.ref b130), (.int jj), (.int ii), .int 2, (.ref r277)])) rfl (by rw [hml]; rfl) (argsL := [(.ref r277), (.int (2 : Int32)), (.int ii), (.int jj), (.ref b130), (.ref b179)]) (rest := []) (lenOf pd_8 rfl) rfl (by show 2 * 0 + _ ≤ _; exact Nat.le_of_eq rfl) (hb hby at_249) (fun _ _ => ⟨rfl, e327, (by decide : 21 + 0 ≤ _), (by decide : 51 + 0 ≤ _)⟩)
  dsimp only [Pt.U, Pt.locs, Pt.cells, Pt.slots] at X329 l329 y329 z329 st329 hQ329
  subst l329 y329 z329
  obtain ⟨rfl, N329q, e329⟩ := hQ329
  have N329 := Fr.app N327 N329q
  obtain ⟨_, _, ⟨T330, L330, k330, n330⟩, -, X330, ⟨Lc330, hQ330, l330, y330, z330⟩, st330⟩ := Jvm.LawKit.callS X329 hx (y := (⟨"com/example/xml_signing/xmlsigning/c14n/TreeElementSetNamesPinLaw", "slot", "([Ljava/lang/String;III[Ljava/lang/String;[Ljava/lang/String;)Z"⟩ : MethodName)) hown (mvT hZ (hw _ (List.mem_of_getElem? (i := 44) rfl))) (mvT hZ (hw _ (List.mem_of_getElem? (i := 45) rfl))) (mvT hZ (hw _ (List.mem_of_getElem? (i := 5) rfl))) (mvT hZ (hw _ (List.mem_of_getElem? (i := 46) rfl))) (by decide) (backOf (W := 0) (rm10 l Z ag hw [] r277 (3 : Int32) ii jj b130 b179 kr277 ((3 : Int32) * cn) (own_set (own_set (List.replicate (((3 : Int32) * cn)).toNatClampNeg (.null : Value)) ii (.ref r134) x1 (.ref r165)) jj (.ref r190) y1 (.ref r251)) k130 [(.ref r134), x1, (.ref r165)] k179 [(.ref r190), y1, (.ref r251)] (own_x (3 : Int32) (own_set (own_set (List.replicate (((3 : Int32) * cn)).toNatClampNeg (.null : Value)) ii (.ref r134) x1 (.ref r165)) jj (.ref r190) y1 (.ref r251))) T313.heap n0 sz323 (own_xrv3 cn ii jj hc1 hc3 h0ii h0jj (f0 := (.ref r134)) (f1 := x1) (f2 := (.ref r165)) (f3 := (.ref r190)) (f4 := y1) (f5 := (.ref r251)) rfl rv_x1 rfl rfl rv_y1 rfl) Vr313 x318 x322 (own_sok3 cn ii jj hc1 hc3 h0ii h0jj (.ref r134) x1 (.ref r165) (.ref r190) y1 (.ref r251)) (by decide)) hZ (hw _ (List.mem_of_getElem? (i := 46) rfl)) (hw _ (List.mem_of_getElem? (i := 5) rfl)) (by decide) (by decide)) (g := (mkF m 266 (own_loc17 p0 p1 p2 p3 cn ii jj b130 b179 r277) [(.ref b179), (.ref b130), (.int jj), (.int ii), .int 3, (.ref r277)])) rfl (by rw [hml]; rfl) (argsL := [(.ref r277), (.int (3 : Int32)), (.int ii), (.int jj), (.ref b130), (.ref b179)]) (rest := []) (lenOf pd_8 rfl) rfl (by show 2 * 0 + _ ≤ _; exact Nat.le_of_eq rfl) (hb hby at_266) (fun _ _ => ⟨rfl, e329, (by decide : 21 + 0 ≤ _), (by decide : 51 + 0 ≤ _)⟩)
  dsimp only [Pt.U, Pt.locs, Pt.cells, Pt.slots] at X330 l330 y330 z330 st330 hQ330
  subst l330 y330 z330
  obtain ⟨rfl, N330q, e330⟩ := hQ330
  have N330 := Fr.app N329 N330q
  have cp331 : ∀ target, own_S p e below T330 (mkF m 283 (own_loc17 p0 p1 p2 p3 cn ii jj b130 b179 r277) [(.ref b179), (.ref b130), (.int jj), (.int ii), .int 4, (.ref r277)]) target → own_S p e below s₁ (mkF m 0 (own_loc9 p0 p1 p2 p3) []) target := by
    intro target kt
    show own_S p e below s₁ (mkF m 0 (own_loc9 p0 p1 p2 p3) []) _
    refine cp328 _ ?_
    show own_S p e below T327 (mkF m 249 (own_loc17 p0 p1 p2 p3 cn ii jj b130 b179 r277) [(.ref b179), (.ref b130), (.int jj), (.int ii), .int 2, (.ref r277)]) _
    refine st329 _ ?_
    show own_S p e below T329 (mkF m 252 (own_loc17 p0 p1 p2 p3 cn ii jj b130 b179 r277) [.int 1]) _
    refine XS.ifNo X329.here hx rfl (hb hby at_252) rfl ((if0 _ _).trans (feq (show ¬ ((1 : Int32) = (0 : Int32)) from (by decide))).1) ?_
    show own_S p e below T329 (mkF m 255 (own_loc17 p0 p1 p2 p3 cn ii jj b130 b179 r277) []) _
    refine XS.aload X329.here hx rfl (hb hby at_255) rfl rfl ?_
    show own_S p e below T329 (mkF m 257 (own_loc17 p0 p1 p2 p3 cn ii jj b130 b179 r277) [(.ref r277)]) _
    refine XS.iconst X329.here hx rfl (hb hby at_257) ?_
    show own_S p e below T329 (mkF m 258 (own_loc17 p0 p1 p2 p3 cn ii jj b130 b179 r277) [.int 3, (.ref r277)]) _
    refine XS.iload X329.here hx rfl (hb hby at_258) rfl ?_
    show own_S p e below T329 (mkF m 260 (own_loc17 p0 p1 p2 p3 cn ii jj b130 b179 r277) [(.int ii), .int 3, (.ref r277)]) _
    refine XS.iload X329.here hx rfl (hb hby at_260) rfl ?_
    show own_S p e below T329 (mkF m 262 (own_loc17 p0 p1 p2 p3 cn ii jj b130 b179 r277) [(.int jj), (.int ii), .int 3, (.ref r277)]) _
    refine XS.aload X329.here hx rfl (hb hby at_262) rfl rfl ?_
    show own_S p e below T329 (mkF m 264 (own_loc17 p0 p1 p2 p3 cn ii jj b130 b179 r277) [(.ref b130), (.int jj), (.int ii), .int 3, (.ref r277)]) _
    refine XS.aload X329.here hx rfl (hb hby at_264) rfl rfl ?_
    show own_S p e below T329 (mkF m 266 (own_loc17 p0 p1 p2 p3 cn ii jj b130 b179 r277) [(.ref b179), (.ref b130), (.int jj), (.int ii), .int 3, (.ref r277)]) _
    refine st330 _ ?_
    show own_S p e below T330 (mkF m 269 (own_loc17 p0 p1 p2 p3 cn ii jj b130 b179 r277) [.int 1]) _
    refine XS.ifNo X330.here hx rfl (hb hby at_269) rfl ((if0 _ _).trans (feq (show ¬ ((1 : Int32) = (0 : Int32)) from (by decide))).1) ?_
    show own_S p e below T330 (mkF m 272 (own_loc17 p0 p1 p2 p3 cn ii jj b130 b179 r277) []) _
    refine XS.aload X330.here hx rfl (hb hby at_272) rfl rfl ?_
    show own_S p e below T330 (mkF m 274 (own_loc17 p0 p1 p2 p3 cn ii jj b130 b179 r277) [(.ref r277)]) _
    refine XS.iconst X330.here hx rfl (hb hby at_274) ?_
    show own_S p e below T330 (mkF m 275 (own_loc17 p0 p1 p2 p3 cn ii jj b130 b179 r277) [.int 4, (.ref r277)]) _
    refine XS.iload X330.here hx rfl (hb hby at_275) rfl ?_
    show own_S p e below T330 (mkF m 277 (own_loc17 p0 p1 p2 p3 cn ii jj b130 b179 r277) [(.int ii), .int 4, (.ref r277)]) _
    refine XS.iload X330.here hx rfl (hb hby at_277) rfl ?_
    show own_S p e below T330 (mkF m 279 (own_loc17 p0 p1 p2 p3 cn ii jj b130 b179 r277) [(.int jj), (.int ii), .int 4, (.ref r277)]) _
    refine XS.aload X330.here hx rfl (hb hby at_279) rfl rfl ?_
    show own_S p e below T330 (mkF m 281 (own_loc17 p0 p1 p2 p3 cn ii jj b130 b179 r277) [(.ref b130), (.int jj), (.int ii), .int 4, (.ref r277)]) _
    refine XS.aload X330.here hx rfl (hb hby at_281) rfl rfl ?_
    exact kt
  obtain ⟨_, _, ⟨T332, L332, k332, n332⟩, -, X332, ⟨Lc332, hQ332, l332, y332, z332⟩, st332⟩ := Jvm.LawKit.callS X330 hx (y := (⟨"com/example/xml_signing/xmlsigning/c14n/TreeElementSetNamesPinLaw", "slot", "([Ljava/lang/String;III[Ljava/lang/String;[Ljava/lang/String;)Z"⟩ : MethodName)) hown (mvT hZ (hw _ (List.mem_of_getElem? (i := 44) rfl))) (mvT hZ (hw _ (List.mem_of_getElem? (i := 45) rfl))) (mvT hZ (hw _ (List.mem_of_getElem? (i := 5) rfl))) (mvT hZ (hw _ (List.mem_of_getElem? (i := 46) rfl))) (by decide) (backOf (W := 0) (rm10 l Z ag hw [] r277 (4 : Int32) ii jj b130 b179 kr277 ((3 : Int32) * cn) (own_set (own_set (List.replicate (((3 : Int32) * cn)).toNatClampNeg (.null : Value)) ii (.ref r134) x1 (.ref r165)) jj (.ref r190) y1 (.ref r251)) k130 [(.ref r134), x1, (.ref r165)] k179 [(.ref r190), y1, (.ref r251)] (own_x (4 : Int32) (own_set (own_set (List.replicate (((3 : Int32) * cn)).toNatClampNeg (.null : Value)) ii (.ref r134) x1 (.ref r165)) jj (.ref r190) y1 (.ref r251))) T313.heap n0 sz323 (own_xrv4 cn ii jj hc1 hc3 h0ii h0jj (f0 := (.ref r134)) (f1 := x1) (f2 := (.ref r165)) (f3 := (.ref r190)) (f4 := y1) (f5 := (.ref r251)) rfl rv_x1 rfl rfl rv_y1 rfl) Vr313 x318 x322 (own_sok4 cn ii jj hc1 hc3 h0ii h0jj (.ref r134) x1 (.ref r165) (.ref r190) y1 (.ref r251)) (by decide)) hZ (hw _ (List.mem_of_getElem? (i := 46) rfl)) (hw _ (List.mem_of_getElem? (i := 5) rfl)) (by decide) (by decide)) (g := (mkF m 283 (own_loc17 p0 p1 p2 p3 cn ii jj b130 b179 r277) [(.ref b179), (.ref b130), (.int jj), (.int ii), .int 4, (.ref r277)])) rfl (by rw [hml]; rfl) (argsL := [(.ref r277), (.int (4 : Int32)), (.int ii), (.int jj), (.ref b130), (.ref b179)]) (rest := []) (lenOf pd_8 rfl) rfl (by show 2 * 0 + _ ≤ _; exact Nat.le_of_eq rfl) (hb hby at_283) (fun _ _ => ⟨rfl, e330, (by decide : 21 + 0 ≤ _), (by decide : 51 + 0 ≤ _)⟩)
  dsimp only [Pt.U, Pt.locs, Pt.cells, Pt.slots] at X332 l332 y332 z332 st332 hQ332
  subst l332 y332 z332
  obtain ⟨rfl, N332q, e332⟩ := hQ332
  have N332 := Fr.app N330 N332q
  obtain ⟨_, _, ⟨T333, L333, k333, n333⟩, -, X333, ⟨Lc333, hQ333, l333, y333, z333⟩, st333⟩ := Jvm.LawKit.callS X332 hx (y := (⟨"com/example/xml_signing/xmlsigning/c14n/TreeElementSetNamesPinLaw", "slot", "([Ljava/lang/String;III[Ljava/lang/String;[Ljava/lang/String;)Z"⟩ : MethodName)) hown (mvT hZ (hw _ (List.mem_of_getElem? (i := 44) rfl))) (mvT hZ (hw _ (List.mem_of_getElem? (i := 45) rfl))) (mvT hZ (hw _ (List.mem_of_getElem? (i := 5) rfl))) (mvT hZ (hw _ (List.mem_of_getElem? (i := 46) rfl))) (by decide) (backOf (W := 0) (rm10 l Z ag hw [] r277 (5 : Int32) ii jj b130 b179 kr277 ((3 : Int32) * cn) (own_set (own_set (List.replicate (((3 : Int32) * cn)).toNatClampNeg (.null : Value)) ii (.ref r134) x1 (.ref r165)) jj (.ref r190) y1 (.ref r251)) k130 [(.ref r134), x1, (.ref r165)] k179 [(.ref r190), y1, (.ref r251)] (own_x (5 : Int32) (own_set (own_set (List.replicate (((3 : Int32) * cn)).toNatClampNeg (.null : Value)) ii (.ref r134) x1 (.ref r165)) jj (.ref r190) y1 (.ref r251))) T313.heap n0 sz323 (own_xrv5 cn ii jj hc1 hc3 h0ii h0jj (f0 := (.ref r134)) (f1 := x1) (f2 := (.ref r165)) (f3 := (.ref r190)) (f4 := y1) (f5 := (.ref r251)) rfl rv_x1 rfl rfl rv_y1 rfl) Vr313 x318 x322 (own_sok5 cn ii jj hc1 hc3 h0ii h0jj (.ref r134) x1 (.ref r165) (.ref r190) y1 (.ref r251)) (by decide)) hZ (hw _ (List.mem_of_getElem? (i := 46) rfl)) (hw _ (List.mem_of_getElem? (i := 5) rfl)) (by decide) (by decide)) (g := (mkF m 300 (own_loc17 p0 p1 p2 p3 cn ii jj b130 b179 r277) [(.ref b179), (.ref b130), (.int jj), (.int ii), .int 5, (.ref r277)])) rfl (by rw [hml]; rfl) (argsL := [(.ref r277), (.int (5 : Int32)), (.int ii), (.int jj), (.ref b130), (.ref b179)]) (rest := []) (lenOf pd_8 rfl) rfl (by show 2 * 0 + _ ≤ _; exact Nat.le_of_eq rfl) (hb hby at_300) (fun _ _ => ⟨rfl, e332, (by decide : 21 + 0 ≤ _), (by decide : 51 + 0 ≤ _)⟩)
  dsimp only [Pt.U, Pt.locs, Pt.cells, Pt.slots] at X333 l333 y333 z333 st333 hQ333
  subst l333 y333 z333
  obtain ⟨rfl, N333q, e333⟩ := hQ333
  have N333 := Fr.app N332 N333q
  have cp334 : ∀ target, own_S p e below T333 (mkF m 318 (own_loc17 p0 p1 p2 p3 cn ii jj b130 b179 r277) [(.ref b179), (.ref b130), (.int jj), (.int ii), .int 6, (.ref r277)]) target → own_S p e below s₁ (mkF m 0 (own_loc9 p0 p1 p2 p3) []) target := by
    intro target kt
    show own_S p e below s₁ (mkF m 0 (own_loc9 p0 p1 p2 p3) []) _
    refine cp331 _ ?_
    show own_S p e below T330 (mkF m 283 (own_loc17 p0 p1 p2 p3 cn ii jj b130 b179 r277) [(.ref b179), (.ref b130), (.int jj), (.int ii), .int 4, (.ref r277)]) _
    refine st332 _ ?_
    show own_S p e below T332 (mkF m 286 (own_loc17 p0 p1 p2 p3 cn ii jj b130 b179 r277) [.int 1]) _
    refine XS.ifNo X332.here hx rfl (hb hby at_286) rfl ((if0 _ _).trans (feq (show ¬ ((1 : Int32) = (0 : Int32)) from (by decide))).1) ?_
    show own_S p e below T332 (mkF m 289 (own_loc17 p0 p1 p2 p3 cn ii jj b130 b179 r277) []) _
    refine XS.aload X332.here hx rfl (hb hby at_289) rfl rfl ?_
    show own_S p e below T332 (mkF m 291 (own_loc17 p0 p1 p2 p3 cn ii jj b130 b179 r277) [(.ref r277)]) _
    refine XS.iconst X332.here hx rfl (hb hby at_291) ?_
    show own_S p e below T332 (mkF m 292 (own_loc17 p0 p1 p2 p3 cn ii jj b130 b179 r277) [.int 5, (.ref r277)]) _
    refine XS.iload X332.here hx rfl (hb hby at_292) rfl ?_
    show own_S p e below T332 (mkF m 294 (own_loc17 p0 p1 p2 p3 cn ii jj b130 b179 r277) [(.int ii), .int 5, (.ref r277)]) _
    refine XS.iload X332.here hx rfl (hb hby at_294) rfl ?_
    show own_S p e below T332 (mkF m 296 (own_loc17 p0 p1 p2 p3 cn ii jj b130 b179 r277) [(.int jj), (.int ii), .int 5, (.ref r277)]) _
    refine XS.aload X332.here hx rfl (hb hby at_296) rfl rfl ?_
    show own_S p e below T332 (mkF m 298 (own_loc17 p0 p1 p2 p3 cn ii jj b130 b179 r277) [(.ref b130), (.int jj), (.int ii), .int 5, (.ref r277)]) _
    refine XS.aload X332.here hx rfl (hb hby at_298) rfl rfl ?_
    show own_S p e below T332 (mkF m 300 (own_loc17 p0 p1 p2 p3 cn ii jj b130 b179 r277) [(.ref b179), (.ref b130), (.int jj), (.int ii), .int 5, (.ref r277)]) _
    refine st333 _ ?_
    show own_S p e below T333 (mkF m 303 (own_loc17 p0 p1 p2 p3 cn ii jj b130 b179 r277) [.int 1]) _
    refine XS.ifNo X333.here hx rfl (hb hby at_303) rfl ((if0 _ _).trans (feq (show ¬ ((1 : Int32) = (0 : Int32)) from (by decide))).1) ?_
    show own_S p e below T333 (mkF m 306 (own_loc17 p0 p1 p2 p3 cn ii jj b130 b179 r277) []) _
    refine XS.aload X333.here hx rfl (hb hby at_306) rfl rfl ?_
    show own_S p e below T333 (mkF m 308 (own_loc17 p0 p1 p2 p3 cn ii jj b130 b179 r277) [(.ref r277)]) _
    refine XS.bipush X333.here hx rfl (hb hby at_308) ?_
    show own_S p e below T333 (mkF m 310 (own_loc17 p0 p1 p2 p3 cn ii jj b130 b179 r277) [.int 6, (.ref r277)]) _
    refine XS.iload X333.here hx rfl (hb hby at_310) rfl ?_
    show own_S p e below T333 (mkF m 312 (own_loc17 p0 p1 p2 p3 cn ii jj b130 b179 r277) [(.int ii), .int 6, (.ref r277)]) _
    refine XS.iload X333.here hx rfl (hb hby at_312) rfl ?_
    show own_S p e below T333 (mkF m 314 (own_loc17 p0 p1 p2 p3 cn ii jj b130 b179 r277) [(.int jj), (.int ii), .int 6, (.ref r277)]) _
    refine XS.aload X333.here hx rfl (hb hby at_314) rfl rfl ?_
    show own_S p e below T333 (mkF m 316 (own_loc17 p0 p1 p2 p3 cn ii jj b130 b179 r277) [(.ref b130), (.int jj), (.int ii), .int 6, (.ref r277)]) _
    refine XS.aload X333.here hx rfl (hb hby at_316) rfl rfl ?_
    exact kt
  obtain ⟨_, _, ⟨T335, L335, k335, n335⟩, -, X335, ⟨Lc335, hQ335, l335, y335, z335⟩, st335⟩ := Jvm.LawKit.callS X333 hx (y := (⟨"com/example/xml_signing/xmlsigning/c14n/TreeElementSetNamesPinLaw", "slot", "([Ljava/lang/String;III[Ljava/lang/String;[Ljava/lang/String;)Z"⟩ : MethodName)) hown (mvT hZ (hw _ (List.mem_of_getElem? (i := 44) rfl))) (mvT hZ (hw _ (List.mem_of_getElem? (i := 45) rfl))) (mvT hZ (hw _ (List.mem_of_getElem? (i := 5) rfl))) (mvT hZ (hw _ (List.mem_of_getElem? (i := 46) rfl))) (by decide) (backOf (W := 0) (rm10 l Z ag hw [] r277 (6 : Int32) ii jj b130 b179 kr277 ((3 : Int32) * cn) (own_set (own_set (List.replicate (((3 : Int32) * cn)).toNatClampNeg (.null : Value)) ii (.ref r134) x1 (.ref r165)) jj (.ref r190) y1 (.ref r251)) k130 [(.ref r134), x1, (.ref r165)] k179 [(.ref r190), y1, (.ref r251)] (own_x (6 : Int32) (own_set (own_set (List.replicate (((3 : Int32) * cn)).toNatClampNeg (.null : Value)) ii (.ref r134) x1 (.ref r165)) jj (.ref r190) y1 (.ref r251))) T313.heap n0 sz323 (own_xrv6 cn ii jj hc1 hc3 h0ii h0jj (f0 := (.ref r134)) (f1 := x1) (f2 := (.ref r165)) (f3 := (.ref r190)) (f4 := y1) (f5 := (.ref r251)) rfl rv_x1 rfl rfl rv_y1 rfl) Vr313 x318 x322 (own_sok6 cn ii jj hc1 hc3 h0ii h0jj (.ref r134) x1 (.ref r165) (.ref r190) y1 (.ref r251)) (by decide)) hZ (hw _ (List.mem_of_getElem? (i := 46) rfl)) (hw _ (List.mem_of_getElem? (i := 5) rfl)) (by decide) (by decide)) (g := (mkF m 318 (own_loc17 p0 p1 p2 p3 cn ii jj b130 b179 r277) [(.ref b179), (.ref b130), (.int jj), (.int ii), .int 6, (.ref r277)])) rfl (by rw [hml]; rfl) (argsL := [(.ref r277), (.int (6 : Int32)), (.int ii), (.int jj), (.ref b130), (.ref b179)]) (rest := []) (lenOf pd_8 rfl) rfl (by show 2 * 0 + _ ≤ _; exact Nat.le_of_eq rfl) (hb hby at_318) (fun _ _ => ⟨rfl, e333, (by decide : 21 + 0 ≤ _), (by decide : 51 + 0 ≤ _)⟩)
  dsimp only [Pt.U, Pt.locs, Pt.cells, Pt.slots] at X335 l335 y335 z335 st335 hQ335
  subst l335 y335 z335
  obtain ⟨rfl, N335q, e335⟩ := hQ335
  have N335 := Fr.app N333 N335q
  obtain ⟨_, _, ⟨T336, L336, k336, n336⟩, -, X336, ⟨Lc336, hQ336, l336, y336, z336⟩, st336⟩ := Jvm.LawKit.callS X335 hx (y := (⟨"com/example/xml_signing/xmlsigning/c14n/TreeElementSetNamesPinLaw", "slot", "([Ljava/lang/String;III[Ljava/lang/String;[Ljava/lang/String;)Z"⟩ : MethodName)) hown (mvT hZ (hw _ (List.mem_of_getElem? (i := 44) rfl))) (mvT hZ (hw _ (List.mem_of_getElem? (i := 45) rfl))) (mvT hZ (hw _ (List.mem_of_getElem? (i := 5) rfl))) (mvT hZ (hw _ (List.mem_of_getElem? (i := 46) rfl))) (by decide) (backOf (W := 0) (rm10 l Z ag hw [] r277 (7 : Int32) ii jj b130 b179 kr277 ((3 : Int32) * cn) (own_set (own_set (List.replicate (((3 : Int32) * cn)).toNatClampNeg (.null : Value)) ii (.ref r134) x1 (.ref r165)) jj (.ref r190) y1 (.ref r251)) k130 [(.ref r134), x1, (.ref r165)] k179 [(.ref r190), y1, (.ref r251)] (own_x (7 : Int32) (own_set (own_set (List.replicate (((3 : Int32) * cn)).toNatClampNeg (.null : Value)) ii (.ref r134) x1 (.ref r165)) jj (.ref r190) y1 (.ref r251))) T313.heap n0 sz323 (own_xrv7 cn ii jj hc1 hc3 h0ii h0jj (f0 := (.ref r134)) (f1 := x1) (f2 := (.ref r165)) (f3 := (.ref r190)) (f4 := y1) (f5 := (.ref r251)) rfl rv_x1 rfl rfl rv_y1 rfl) Vr313 x318 x322 (own_sok7 cn ii jj hc1 hc3 h0ii h0jj (.ref r134) x1 (.ref r165) (.ref r190) y1 (.ref r251)) (by decide)) hZ (hw _ (List.mem_of_getElem? (i := 46) rfl)) (hw _ (List.mem_of_getElem? (i := 5) rfl)) (by decide) (by decide)) (g := (mkF m 336 (own_loc17 p0 p1 p2 p3 cn ii jj b130 b179 r277) [(.ref b179), (.ref b130), (.int jj), (.int ii), .int 7, (.ref r277)])) rfl (by rw [hml]; rfl) (argsL := [(.ref r277), (.int (7 : Int32)), (.int ii), (.int jj), (.ref b130), (.ref b179)]) (rest := []) (lenOf pd_8 rfl) rfl (by show 2 * 0 + _ ≤ _; exact Nat.le_of_eq rfl) (hb hby at_336) (fun _ _ => ⟨rfl, e335, (by decide : 21 + 0 ≤ _), (by decide : 51 + 0 ≤ _)⟩)
  dsimp only [Pt.U, Pt.locs, Pt.cells, Pt.slots] at X336 l336 y336 z336 st336 hQ336
  subst l336 y336 z336
  obtain ⟨rfl, N336q, e336⟩ := hQ336
  have N336 := Fr.app N335 N336q
  have cp337 : ∀ target, own_S p e below T336 (mkF m 354 (own_loc17 p0 p1 p2 p3 cn ii jj b130 b179 r277) [(.ref b179), (.ref b130), (.int jj), (.int ii), .int 8, (.ref r277)]) target → own_S p e below s₁ (mkF m 0 (own_loc9 p0 p1 p2 p3) []) target := by
    intro target kt
    show own_S p e below s₁ (mkF m 0 (own_loc9 p0 p1 p2 p3) []) _
    refine cp334 _ ?_
    show own_S p e below T333 (mkF m 318 (own_loc17 p0 p1 p2 p3 cn ii jj b130 b179 r277) [(.ref b179), (.ref b130), (.int jj), (.int ii), .int 6, (.ref r277)]) _
    refine st335 _ ?_
    show own_S p e below T335 (mkF m 321 (own_loc17 p0 p1 p2 p3 cn ii jj b130 b179 r277) [.int 1]) _
    refine XS.ifNo X335.here hx rfl (hb hby at_321) rfl ((if0 _ _).trans (feq (show ¬ ((1 : Int32) = (0 : Int32)) from (by decide))).1) ?_
    show own_S p e below T335 (mkF m 324 (own_loc17 p0 p1 p2 p3 cn ii jj b130 b179 r277) []) _
    refine XS.aload X335.here hx rfl (hb hby at_324) rfl rfl ?_
    show own_S p e below T335 (mkF m 326 (own_loc17 p0 p1 p2 p3 cn ii jj b130 b179 r277) [(.ref r277)]) _
    refine XS.bipush X335.here hx rfl (hb hby at_326) ?_
    show own_S p e below T335 (mkF m 328 (own_loc17 p0 p1 p2 p3 cn ii jj b130 b179 r277) [.int 7, (.ref r277)]) _
    refine XS.iload X335.here hx rfl (hb hby at_328) rfl ?_
    show own_S p e below T335 (mkF m 330 (own_loc17 p0 p1 p2 p3 cn ii jj b130 b179 r277) [(.int ii), .int 7, (.ref r277)]) _
    refine XS.iload X335.here hx rfl (hb hby at_330) rfl ?_
    show own_S p e below T335 (mkF m 332 (own_loc17 p0 p1 p2 p3 cn ii jj b130 b179 r277) [(.int jj), (.int ii), .int 7, (.ref r277)]) _
    refine XS.aload X335.here hx rfl (hb hby at_332) rfl rfl ?_
    show own_S p e below T335 (mkF m 334 (own_loc17 p0 p1 p2 p3 cn ii jj b130 b179 r277) [(.ref b130), (.int jj), (.int ii), .int 7, (.ref r277)]) _
    refine XS.aload X335.here hx rfl (hb hby at_334) rfl rfl ?_
    show own_S p e below T335 (mkF m 336 (own_loc17 p0 p1 p2 p3 cn ii jj b130 b179 r277) [(.ref b179), (.ref b130), (.int jj), (.int ii), .int 7, (.ref r277)]) _
    refine st336 _ ?_
    show own_S p e below T336 (mkF m 339 (own_loc17 p0 p1 p2 p3 cn ii jj b130 b179 r277) [.int 1]) _
    refine XS.ifNo X336.here hx rfl (hb hby at_339) rfl ((if0 _ _).trans (feq (show ¬ ((1 : Int32) = (0 : Int32)) from (by decide))).1) ?_
    show own_S p e below T336 (mkF m 342 (own_loc17 p0 p1 p2 p3 cn ii jj b130 b179 r277) []) _
    refine XS.aload X336.here hx rfl (hb hby at_342) rfl rfl ?_
    show own_S p e below T336 (mkF m 344 (own_loc17 p0 p1 p2 p3 cn ii jj b130 b179 r277) [(.ref r277)]) _
    refine XS.bipush X336.here hx rfl (hb hby at_344) ?_
    show own_S p e below T336 (mkF m 346 (own_loc17 p0 p1 p2 p3 cn ii jj b130 b179 r277) [.int 8, (.ref r277)]) _
    refine XS.iload X336.here hx rfl (hb hby at_346) rfl ?_
    show own_S p e below T336 (mkF m 348 (own_loc17 p0 p1 p2 p3 cn ii jj b130 b179 r277) [(.int ii), .int 8, (.ref r277)]) _
    refine XS.iload X336.here hx rfl (hb hby at_348) rfl ?_
    show own_S p e below T336 (mkF m 350 (own_loc17 p0 p1 p2 p3 cn ii jj b130 b179 r277) [(.int jj), (.int ii), .int 8, (.ref r277)]) _
    refine XS.aload X336.here hx rfl (hb hby at_350) rfl rfl ?_
    show own_S p e below T336 (mkF m 352 (own_loc17 p0 p1 p2 p3 cn ii jj b130 b179 r277) [(.ref b130), (.int jj), (.int ii), .int 8, (.ref r277)]) _
    refine XS.aload X336.here hx rfl (hb hby at_352) rfl rfl ?_
    exact kt
  obtain ⟨_, _, ⟨T338, L338, k338, n338⟩, -, X338, ⟨Lc338, hQ338, l338, y338, z338⟩, st338⟩ := Jvm.LawKit.callS X336 hx (y := (⟨"com/example/xml_signing/xmlsigning/c14n/TreeElementSetNamesPinLaw", "slot", "([Ljava/lang/String;III[Ljava/lang/String;[Ljava/lang/String;)Z"⟩ : MethodName)) hown (mvT hZ (hw _ (List.mem_of_getElem? (i := 44) rfl))) (mvT hZ (hw _ (List.mem_of_getElem? (i := 45) rfl))) (mvT hZ (hw _ (List.mem_of_getElem? (i := 5) rfl))) (mvT hZ (hw _ (List.mem_of_getElem? (i := 46) rfl))) (by decide) (backOf (W := 0) (rm10 l Z ag hw [] r277 (8 : Int32) ii jj b130 b179 kr277 ((3 : Int32) * cn) (own_set (own_set (List.replicate (((3 : Int32) * cn)).toNatClampNeg (.null : Value)) ii (.ref r134) x1 (.ref r165)) jj (.ref r190) y1 (.ref r251)) k130 [(.ref r134), x1, (.ref r165)] k179 [(.ref r190), y1, (.ref r251)] (own_x (8 : Int32) (own_set (own_set (List.replicate (((3 : Int32) * cn)).toNatClampNeg (.null : Value)) ii (.ref r134) x1 (.ref r165)) jj (.ref r190) y1 (.ref r251))) T313.heap n0 sz323 (own_xrv8 cn ii jj hc1 hc3 h0ii h0jj (f0 := (.ref r134)) (f1 := x1) (f2 := (.ref r165)) (f3 := (.ref r190)) (f4 := y1) (f5 := (.ref r251)) rfl rv_x1 rfl rfl rv_y1 rfl) Vr313 x318 x322 (own_sok8 cn ii jj hc1 hc3 h0ii h0jj (.ref r134) x1 (.ref r165) (.ref r190) y1 (.ref r251)) (by decide)) hZ (hw _ (List.mem_of_getElem? (i := 46) rfl)) (hw _ (List.mem_of_getElem? (i := 5) rfl)) (by decide) (by decide)) (g := (mkF m 354 (own_loc17 p0 p1 p2 p3 cn ii jj b130 b179 r277) [(.ref b179), (.ref b130), (.int jj), (.int ii), .int 8, (.ref r277)])) rfl (by rw [hml]; rfl) (argsL := [(.ref r277), (.int (8 : Int32)), (.int ii), (.int jj), (.ref b130), (.ref b179)]) (rest := []) (lenOf pd_8 rfl) rfl (by show 2 * 0 + _ ≤ _; exact Nat.le_of_eq rfl) (hb hby at_354) (fun _ _ => ⟨rfl, e336, (by decide : 21 + 0 ≤ _), (by decide : 51 + 0 ≤ _)⟩)
  dsimp only [Pt.U, Pt.locs, Pt.cells, Pt.slots] at X338 l338 y338 z338 st338 hQ338
  subst l338 y338 z338
  obtain ⟨rfl, N338q, e338⟩ := hQ338
  have N338 := Fr.app N336 N338q
  obtain ⟨fs, hr, hrun, hended, hW, hsame⟩ := X338.leave (v := some (.int (1 : Int32))) (fun h => by rw [Bd.returns] at h; cases h)
  refine ⟨_, _, pre0 _ ?_, hrun, hended, _, _, rfl, ?_, ⟨_, rfl⟩, hW, hsame.mono (by decide) (by decide)⟩
  · show own_S p e below s₁ (mkF m 0 (own_loc9 p0 p1 p2 p3) []) _
    refine cp337 _ ?_
    show own_S p e below T336 (mkF m 354 (own_loc17 p0 p1 p2 p3 cn ii jj b130 b179 r277) [(.ref b179), (.ref b130), (.int jj), (.int ii), .int 8, (.ref r277)]) _
    refine st338 _ ?_
    show own_S p e below T338 (mkF m 357 (own_loc17 p0 p1 p2 p3 cn ii jj b130 b179 r277) [.int 1]) _
    refine XS.ifNo X338.here hx rfl (hb hby at_357) rfl ((if0 _ _).trans (feq (show ¬ ((1 : Int32) = (0 : Int32)) from (by decide))).1) ?_
    show own_S p e below T338 (mkF m 360 (own_loc17 p0 p1 p2 p3 cn ii jj b130 b179 r277) []) _
    refine XS.iconst X338.here hx rfl (hb hby at_360) ?_
    show own_S p e below T338 (mkF m 361 (own_loc17 p0 p1 p2 p3 cn ii jj b130 b179 r277) [.int 1]) _
    refine XS.goto X338.here hx rfl (pc0 := 361) (pc' := 365) rfl (hb hby at_361) (by decide) (by decide) ?_
    show own_S p e below T338 (mkF m 365 (own_loc17 p0 p1 p2 p3 cn ii jj b130 b179 r277) [.int 1]) _
    exact retN X338 hx (t := .boolean) Bd.returns (by simp) (hb hby at_365) hr
  · exact ⟨rfl, N338⟩
set_option maxRecDepth 65536 in
set_option maxHeartbeats 40000000 in
theorem comes_1 {Post : Tables → Env → Array Value → State → Outcome → State → Prop} (hpost : ∀ tb e args s v u, (limb_1_1.after args s (.returned v) u = true ∧ limb_1_2.after args s (.returned v) u = true ∧ True) → FrameEnd s (.returned v) u (Jvm.fieldLocs frame_1_writes args s ++ Jvm.arrayLocs frame_1_arrays args s ++ Jvm.staticLocs frame_1_statics s) 56 192 → Post tb e args s (.returned v) u) :
    ArmFor flags0 classFile x code maxLocals ret World_1 tables_1 room_1 Calls_1 rest_1 Pre_1 Post := by
  intro l hfl _ _ p e ha hc hk s m args below hf hA hF happ hP
  obtain ⟨hcalls, hrest, hpre⟩ := hP
  obtain ⟨-, -, -, hnamed, -, -, -, hat⟩ := (Spec.applies_iff hf).mp happ
  obtain ⟨hg, hn⟩ := and_e (Cond.before_iff.mp (show (Jvm.Cond.and given_1 narrow_1).before args s = true from hpre))
  obtain ⟨g339, g340⟩ := and_e hg
  obtain ⟨g341, g342⟩ := and_e g340
  obtain ⟨g343, g344⟩ := and_e g342
  obtain ⟨g345, g346⟩ := and_e g344
  obtain ⟨w0, w1, w2, w3, rfl⟩ : ∃ w0 w1 w2 w3 : Value, args = #[w0, w1, w2, w3] := by
    have hs : args.size = 4 := by simpa [Cond.value, given_1] using g339
    obtain ⟨L⟩ := args
    match L, hs with
    | [w0, w1, w2, w3], _ => exact ⟨w0, w1, w2, w3, rfl⟩
  have hw := fun d (hd : d ∈ tables_1) => atoms_spec (ws := Jvm.Cond.code x code maxLocals ret :: tables_1) hat d (List.mem_cons_of_mem _ hd)
  have hfit : Fit s := fun {y c} hc i hi => by
    obtain ⟨ha, rfl⟩ := Array.getElem?_eq_some_iff.mp hc
    have q := List.all_eq_true.mp ((Array.all_eq_true_iff_forall_mem.mp hF) _ (Array.getElem_mem ha)) i (List.mem_range.mpr hi)
    simpa [Array.getElem?_eq_getElem hi] using q
  obtain ⟨hsets, hown0⟩ := atoms_of _ (rest_1_c_eq ▸ (show rest_1_c.before _ s = true from hrest))
  have hr0 := Cond.before_iff.mp hown0
  obtain ⟨i0, ei0⟩ := is_v g341
  obtain rfl : w0 = (.int i0) := Option.some.inj ei0
  obtain ⟨i1, ei1⟩ := is_v g343
  obtain rfl : w1 = (.int i1) := Option.some.inj ei1
  obtain ⟨i2, ei2⟩ := is_v g345
  obtain rfl : w2 = (.int i2) := Option.some.inj ei2
  obtain ⟨i3, ei3⟩ := is_v g346
  obtain rfl : w3 = (.int i3) := Option.some.inj ei3
  obtain ⟨cs, ecs⟩ := is_v (Cond.before_iff.mp (hsets _ (List.mem_of_getElem? (i := 1) rfl)))
  have S_cs : Sta s s.heap "java/lang/String" "COMPACT_STRINGS" "Z" (.int cs) := Sta.start ecs (Or.inl (hsets _ (List.mem_of_getElem? (i := 0) rfl)))
  have hcs : ¬ (cs = (0 : Int32)) := gotF (Cond.eq_ints ecs (Term.int_eval (0))) (not_v (Cond.before_iff.mp (hsets _ (List.mem_of_getElem? (i := 2) rfl))))
  obtain ⟨n, o, h1, h2, h3, _, L, rfl, ⟨rfl, N⟩, hq⟩ := rm0 l s _ hw tables_1 i0 i1 i2 i3 cs s.heap s.heap.size (Nat.le_refl _) (Old.start s) S_cs hcs p e ha hc hk s m _ below hf ((Spec.applies_iff_loose hf).mp happ).1 ⟨rfl, State.Warmed39.refl s, rfl⟩ trivial
  refine ⟨n, _, h1, h2, h3, hpost _ _ _ _ _ _ ⟨Cond.after_iff.mpr rfl, Cond.after_iff.mpr (eq_i res_at (Term.int_eval (1)) rfl), trivial⟩ ⟨hq.1, hq.2.1, (hq.2.2.sift fun y hy => Or.inr (N y hy)).mono (by decide) (by decide)⟩⟩
theorem main_1_1 : Claimed_1_1 := comes_1 fun _ _ _ _ _ _ h hF => ⟨h.1, hF⟩
theorem main_1_2 : Claimed_1_2 := comes_1 fun _ _ _ _ _ _ h hF => ⟨h.2.1, hF⟩
end Jvm.Pilot.@@N@@
namespace Jvm.Pilot.@@N@@
open Jvm Jvm.ClassFile Sem Op Lib Jvm.Free Jvm.Stand Jvm.Pilot.@@N@@.Jvm.D
/-! MADE BY PROGRAM (witnessworld.py) out of the Statement's table words and the real class files: 25 classes; the members and pool entries that the words name. The judged class is class 1, her method 1. -/
namespace start1
open Jvm.ClassFile
def u (s : String) : CpInfo := .utf8 (stringToUtf16 s)
/-- a pool by its gaps: so many unusable entries, then the entry; so many at the end -/
def gap : Nat → List CpInfo → List CpInfo
  | 0, r => r
  | n + 1, r => .unusable :: gap n r
def poolList (es : List (Nat × CpInfo)) (last : Nat) : List CpInfo := es.foldr (fun e r => gap e.1 (e.2 :: r)) (gap last [])
def pool (es : List (Nat × CpInfo)) (last : Nat) : Array CpInfo := ⟨poolList es last⟩
def fileOf (pool : Array CpInfo) (this : Nat) (attrs : Array Attribute := #[]) (ms : Array MethodInfo := #[]) (fl : Nat := 33) (sup : Nat := 0) (ifs : Array Nat := #[]) (fds : Array FieldInfo := #[]) : ClassFile where
  minorVersion := 0
  majorVersion := 65
  constantPool := pool
  accessFlags := fl
  thisClass := this
  superClass := sup
  interfaces := ifs
  fields := fds
  methods := ms
  attributes := attrs
def plain (name : String) (sup : Option ClassId) : Class where
  name := name
  kind := .ordinary
  loader := none
  accessFlags := 33
  super := sup
  interfaces := #[]
  cf := none
  fields := #[]
  methods := #[]
  instanceTypes := #[]
  staticTypes := #[]
  resolved := #[]
  callSites := []
  init := .initialized
  statics := none
  mirror := none

def pool0 : Array CpInfo := pool [(5, u "<init>"), (0, u "()V"), (1, .class_ 10), (1, u "java/lang/Object")] 113

def k0c0 : Code := { maxStack := 0, maxLocals := 1, code := object_method_1_code, exceptionTable := #[], attributes := #[] }
def k0m0 : Method := { name := "<init>", desc := "()V", sig := { parameters := [], returnType := none }, accessFlags := 1, code := some k0c0 }
/-- java/lang/Object -/
def k0 : Class := { plain "java/lang/Object" none with
  accessFlags := 33
  interfaces := #[]
  cf := some (fileOf pool0 8 #[] #[{ accessFlags := 1, nameIndex := 5, descriptorIndex := 6, attributes := #[] }] 33 0 #[] #[])
  fields := #[]
  methods := #[k0m0]
  instanceTypes := #[]
  staticTypes := #[]
  resolved := Array.replicate 124 none
  statics := none }

def pool1 : Array CpInfo := pool [(2, .class_ 4), (1, u "java/lang/Object"), (0, u "<init>"), (0, u "()V"), (0, .integer 2147483647), (0, .class_ 9), (0, u "java/lang/String"), (0, .methodref 11 12), (0, .class_ 13), (0, .nameAndType 14 15), (0, u "com/example/xml_signing/xmlsigning/c14n/TreeElementSetNamesPinLaw"), (0, u "str"), (0, u "(I)Ljava/lang/String;"), (0, .methodref 17 18), (0, .class_ 19), (0, .nameAndType 20 21), (0, u "com/example/xml_signing/xmlsigning/c14n/TreeElement"), (0, u "nameRows"), (0, u "(I)[Ljava/lang/String;"), (0, .methodref 17 23), (0, .nameAndType 24 25), (0, u "setNames"), (0, u "([Ljava/lang/String;ILjava/lang/String;Ljava/lang/String;Ljava/lang/String;)V"), (0, .methodref 11 27), (0, .nameAndType 28 29), (0, u "slot"), (0, u "([Ljava/lang/String;III[Ljava/lang/String;[Ljava/lang/String;)Z"), (0, .methodref 8 31), (0, .nameAndType 5 32), (0, u "([C)V"), (2, u "law"), (0, u "(IIII)Z")] 5

def k1m0 : Method := { name := "<init>", desc := "()V", sig := { parameters := [], returnType := none }, accessFlags := 1, code := none }
def k1c1 : Code := { maxStack := 6, maxLocals := 12, code := code, exceptionTable := #[], attributes := #[] }
def k1m1 : Method := { name := "law", desc := "(IIII)Z", sig := { parameters := [.int, .int, .int, .int], returnType := some .boolean }, accessFlags := 9, code := some k1c1 }
def k1c2 : Code := { maxStack := 4, maxLocals := 2, code := method_3_code, exceptionTable := #[], attributes := #[] }
def k1m2 : Method := { name := "str", desc := "(I)Ljava/lang/String;", sig := { parameters := [.int], returnType := some (.object "java/lang/String") }, accessFlags := 10, code := some k1c2 }
def k1c3 : Code := { maxStack := 3, maxLocals := 7, code := method_4_code, exceptionTable := #[], attributes := #[] }
def k1m3 : Method := { name := "slot", desc := "([Ljava/lang/String;III[Ljava/lang/String;[Ljava/lang/String;)Z", sig := { parameters := [(.array (.object "java/lang/String")), .int, .int, .int, (.array (.object "java/lang/String")), (.array (.object "java/lang/String"))], returnType := some .boolean }, accessFlags := 10, code := some k1c3 }
/-- com/example/xml_signing/xmlsigning/c14n/TreeElementSetNamesPinLaw -/
def k1 : Class := { plain "com/example/xml_signing/xmlsigning/c14n/TreeElementSetNamesPinLaw" (some 0) with
  accessFlags := 49
  interfaces := #[]
  cf := some (fileOf pool1 11 #[] #[{ accessFlags := 1, nameIndex := 5, descriptorIndex := 6, attributes := #[] }, { accessFlags := 9, nameIndex := 35, descriptorIndex := 36, attributes := #[] }, { accessFlags := 10, nameIndex := 14, descriptorIndex := 15, attributes := #[] }, { accessFlags := 10, nameIndex := 28, descriptorIndex := 29, attributes := #[] }] 49 2 #[] #[])
  fields := #[]
  methods := #[k1m0, k1m1, k1m2, k1m3]
  instanceTypes := #[]
  staticTypes := #[]
  resolved := Array.replicate 42 none
  statics := none }

def pool2 : Array CpInfo := pool [(1, .class_ 2), (0, u "java/io/Serializable"), (0, .class_ 4), (0, u "java/lang/Object")] 2

/-- java/io/Serializable -/
def k2 : Class := { plain "java/io/Serializable" (some 0) with
  accessFlags := 1537
  interfaces := #[]
  cf := some (fileOf pool2 1 #[] #[] 1537 3 #[] #[])
  fields := #[]
  methods := #[]
  instanceTypes := #[]
  staticTypes := #[]
  resolved := Array.replicate 7 none
  statics := none }

def pool3 : Array CpInfo := pool [(1, .class_ 2), (0, u "java/lang/Comparable"), (0, .class_ 4), (0, u "java/lang/Object")] 7

/-- java/lang/Comparable -/
def k3 : Class := { plain "java/lang/Comparable" (some 0) with
  accessFlags := 1537
  interfaces := #[]
  cf := some (fileOf pool3 1 #[] #[] 1537 3 #[] #[])
  fields := #[]
  methods := #[]
  instanceTypes := #[]
  staticTypes := #[]
  resolved := Array.replicate 12 none
  statics := none }

def pool4 : Array CpInfo := pool [(2, .class_ 4), (1, u "java/lang/CharSequence"), (42, .class_ 48), (0, u "java/lang/CharSequence$1CodePointIterator"), (10, .class_ 60), (0, u "java/lang/CharSequence$1CharIterator"), (5, .class_ 67), (0, u "java/lang/Object")] 63

/-- java/lang/CharSequence -/
def k4 : Class := { plain "java/lang/CharSequence" (some 0) with
  accessFlags := 1537
  interfaces := #[]
  cf := some (fileOf pool4 2 #[.nestMembers #[47, 59]] #[] 1537 66 #[] #[])
  fields := #[]
  methods := #[]
  instanceTypes := #[]
  staticTypes := #[]
  resolved := Array.replicate 131 none
  statics := none }

def pool5 : Array CpInfo := pool [(1, .class_ 2), (0, u "java/lang/constant/Constable"), (0, .class_ 4), (0, u "java/lang/Object")] 6

/-- java/lang/constant/Constable -/
def k5 : Class := { plain "java/lang/constant/Constable" (some 0) with
  accessFlags := 1537
  interfaces := #[]
  cf := some (fileOf pool5 1 #[] #[] 1537 3 #[] #[])
  fields := #[]
  methods := #[]
  instanceTypes := #[]
  staticTypes := #[]
  resolved := Array.replicate 11 none
  statics := none }

def pool6 : Array CpInfo := pool [(1, .class_ 2), (0, u "java/lang/constant/ConstantDesc"), (0, .class_ 4), (0, u "java/lang/Object")] 32

/-- java/lang/constant/ConstantDesc -/
def k6 : Class := { plain "java/lang/constant/ConstantDesc" (some 0) with
  accessFlags := 1537
  interfaces := #[]
  cf := some (fileOf pool6 1 #[] #[] 1537 3 #[] #[])
  fields := #[]
  methods := #[]
  instanceTypes := #[]
  staticTypes := #[]
  resolved := Array.replicate 37 none
  statics := none }

def pool7 : Array CpInfo := pool [(1, .methodref 2 3), (0, .class_ 4), (0, .nameAndType 5 6), (0, u "java/lang/Object"), (0, u "<init>"), (0, u "()V"), (2, .fieldref 10 11), (0, .class_ 12), (0, .nameAndType 13 14), (0, u "java/lang/String"), (0, u "value"), (0, u "[B"), (0, .fieldref 10 16), (0, .nameAndType 17 18), (0, u "coder"), (0, u "B"), (2, u "hash"), (0, u "I"), (2, u "hashIsZero"), (0, u "Z"), (0, .methodref 10 28), (0, .nameAndType 5 29), (0, u "([CIILjava/lang/Void;)V"), (8, .fieldref 10 39), (0, .nameAndType 40 26), (0, u "COMPACT_STRINGS"), (1, .class_ 44), (1, u "java/lang/StringUTF16"), (0, u "compress"), (1, .methodref 42 48), (0, .nameAndType 49 50), (0, u "coderFromArrayLen"), (0, u "([BI)B"), (126, .methodref 42 178), (0, .nameAndType 45 179), (0, u "([CII)[B"), (395, .class_ 576), (0, u "java/lang/CharSequence"), (22, u "CASE_INSENSITIVE_ORDER"), (0, u "Ljava/util/Comparator;"), (409, u "([C)V"), (90, u "serialPersistentFields"), (0, u "[Ljava/io/ObjectStreamField;"), (0, .class_ 1104), (0, u "java/lang/String$CaseInsensitiveComparator"), (1, .class_ 1107), (0, u "java/io/Serializable"), (0, .class_ 1109), (0, u "java/lang/Comparable"), (0, .class_ 1111), (0, u "java/lang/constant/Constable"), (0, .class_ 1113), (0, u "java/lang/constant/ConstantDesc"), (2, u "serialVersionUID"), (0, u "J"), (3, u "REPL"), (0, u "C"), (2, u "LATIN1"), (1, u "UTF16")] 323

def k7m0 : Method := { name := "<init>", desc := "()V", sig := { parameters := [], returnType := none }, accessFlags := 1, code := none }
def k7c1 : Code := { maxStack := 5, maxLocals := 2, code := jdk_42_method_3_code, exceptionTable := #[], attributes := #[] }
def k7m1 : Method := { name := "<init>", desc := "([C)V", sig := { parameters := [(.array .char)], returnType := none }, accessFlags := 1, code := some k7c1 }
def k7c2 : Code := { maxStack := 4, maxLocals := 6, code := jdk_42_method_149_code, exceptionTable := #[], attributes := #[] }
def k7m2 : Method := { name := "<init>", desc := "([CIILjava/lang/Void;)V", sig := { parameters := [(.array .char), .int, .int, (.object "java/lang/Void")], returnType := none }, accessFlags := 2, code := some k7c2 }
/-- java/lang/String -/
def k7 : Class := { plain "java/lang/String" (some 0) with
  accessFlags := 49
  interfaces := #[2, 3, 4, 5, 6]
  cf := some (fileOf pool7 10 #[.nestMembers #[1103]] #[{ accessFlags := 1, nameIndex := 5, descriptorIndex := 6, attributes := #[] }, { accessFlags := 1, nameIndex := 5, descriptorIndex := 1010, attributes := #[] }, { accessFlags := 2, nameIndex := 5, descriptorIndex := 29, attributes := #[] }] 49 2 #[1106, 1108, 575, 1110, 1112] #[{ accessFlags := 18, nameIndex := 13, descriptorIndex := 14, attributes := #[] }, { accessFlags := 18, nameIndex := 17, descriptorIndex := 18, attributes := #[] }, { accessFlags := 2, nameIndex := 21, descriptorIndex := 22, attributes := #[] }, { accessFlags := 2, nameIndex := 25, descriptorIndex := 26, attributes := #[] }, { accessFlags := 26, nameIndex := 1116, descriptorIndex := 1117, attributes := #[] }, { accessFlags := 24, nameIndex := 40, descriptorIndex := 26, attributes := #[] }, { accessFlags := 26, nameIndex := 1101, descriptorIndex := 1102, attributes := #[] }, { accessFlags := 26, nameIndex := 1121, descriptorIndex := 1122, attributes := #[] }, { accessFlags := 25, nameIndex := 599, descriptorIndex := 600, attributes := #[] }, { accessFlags := 24, nameIndex := 1125, descriptorIndex := 18, attributes := #[] }, { accessFlags := 24, nameIndex := 1127, descriptorIndex := 18, attributes := #[] }])
  fields := #[{ name := "value", type := (.array .byte), accessFlags := 18, slot := 0, constantValue := 0 }, { name := "coder", type := .byte, accessFlags := 18, slot := 1, constantValue := 0 }, { name := "hash", type := .int, accessFlags := 2, slot := 2, constantValue := 0 }, { name := "hashIsZero", type := .boolean, accessFlags := 2, slot := 3, constantValue := 0 }, { name := "serialVersionUID", type := .long, accessFlags := 26, slot := 0, constantValue := 0 }, { name := "COMPACT_STRINGS", type := .boolean, accessFlags := 24, slot := 1, constantValue := 0 }, { name := "serialPersistentFields", type := (.array (.object "java/io/ObjectStreamField")), accessFlags := 26, slot := 2, constantValue := 0 }, { name := "REPL", type := .char, accessFlags := 26, slot := 3, constantValue := 0 }, { name := "CASE_INSENSITIVE_ORDER", type := (.object "java/util/Comparator"), accessFlags := 25, slot := 4, constantValue := 0 }, { name := "LATIN1", type := .byte, accessFlags := 24, slot := 5, constantValue := 0 }, { name := "UTF16", type := .byte, accessFlags := 24, slot := 6, constantValue := 0 }]
  methods := #[k7m0, k7m1, k7m2]
  instanceTypes := #[(.array .byte), .byte, .int, .boolean]
  staticTypes := #[.long, .boolean, (.array (.object "java/io/ObjectStreamField")), .char, (.object "java/util/Comparator"), .byte, .byte]
  resolved := Array.replicate 1451 none
  statics := some 0 }

def pool8 : Array CpInfo := pool [(6, .class_ 8), (1, u "java/lang/Object"), (0, u "<init>"), (0, u "()V"), (1, .class_ 14), (1, u "java/lang/StringUTF16"), (31, u "$assertionsDisabled"), (0, u "Z"), (13, u "HI_BYTE_SHIFT"), (0, u "I"), (2, u "LO_BYTE_SHIFT"), (49, .methodref 12 116), (0, .nameAndType 117 118), (0, u "compress"), (0, u "([CI[BII)I"), (3, u "([CII)[B"), (138, u "coderFromArrayLen"), (0, u "([BI)B"), (106, .class_ 371), (1, u "java/lang/StringUTF16$LinesSpliterator"), (58, u "MAX_LENGTH"), (196, .class_ 628), (0, u "java/lang/StringUTF16$CodePointsSpliterator"), (0, .class_ 630), (0, u "java/lang/StringUTF16$CharsSpliterator")] 4

def k8m0 : Method := { name := "<init>", desc := "()V", sig := { parameters := [], returnType := none }, accessFlags := 0, code := none }
def k8c1 : Code := { maxStack := 2, maxLocals := 2, code := jdk_52_method_15_code, exceptionTable := #[], attributes := #[] }
def k8m1 : Method := { name := "coderFromArrayLen", desc := "([BI)B", sig := { parameters := [(.array .byte), .int], returnType := some .byte }, accessFlags := 8, code := some k8c1 }
def k8c2 : Code := { maxStack := 5, maxLocals := 6, code := jdk_52_method_16_code, exceptionTable := #[], attributes := #[] }
def k8m2 : Method := { name := "compress", desc := "([CII)[B", sig := { parameters := [(.array .char), .int, .int], returnType := some (.array .byte) }, accessFlags := 9, code := some k8c2 }
def k8c3 : Code := { maxStack := 3, maxLocals := 7, code := jdk_52_method_21_code, exceptionTable := #[], attributes := #[] }
def k8m3 : Method := { name := "compress", desc := "([CI[BII)I", sig := { parameters := [(.array .char), .int, (.array .byte), .int, .int], returnType := some .int }, accessFlags := 9, code := some k8c3 }
/-- java/lang/StringUTF16 -/
def k8 : Class := { plain "java/lang/StringUTF16" (some 0) with
  accessFlags := 48
  interfaces := #[]
  cf := some (fileOf pool8 12 #[.nestMembers #[627, 629, 369]] #[{ accessFlags := 0, nameIndex := 9, descriptorIndex := 10, attributes := #[] }, { accessFlags := 8, nameIndex := 261, descriptorIndex := 262, attributes := #[] }, { accessFlags := 9, nameIndex := 117, descriptorIndex := 122, attributes := #[] }, { accessFlags := 9, nameIndex := 117, descriptorIndex := 118, attributes := #[] }] 48 6 #[] #[{ accessFlags := 26, nameIndex := 61, descriptorIndex := 62, attributes := #[] }, { accessFlags := 26, nameIndex := 65, descriptorIndex := 62, attributes := #[] }, { accessFlags := 24, nameIndex := 430, descriptorIndex := 62, attributes := #[] }, { accessFlags := 4120, nameIndex := 46, descriptorIndex := 47, attributes := #[] }])
  fields := #[{ name := "HI_BYTE_SHIFT", type := .int, accessFlags := 26, slot := 0, constantValue := 0 }, { name := "LO_BYTE_SHIFT", type := .int, accessFlags := 26, slot := 1, constantValue := 0 }, { name := "MAX_LENGTH", type := .int, accessFlags := 24, slot := 2, constantValue := 0 }, { name := "$assertionsDisabled", type := .boolean, accessFlags := 4120, slot := 3, constantValue := 0 }]
  methods := #[k8m0, k8m1, k8m2, k8m3]
  instanceTypes := #[]
  staticTypes := #[.int, .int, .int, .boolean]
  resolved := Array.replicate 635 none
  statics := none }

def pool9 : Array CpInfo := pool [(1, u "org/w3c/dom/Node"), (0, .class_ 1), (0, u "java/lang/Object"), (0, .class_ 3)] 3

/-- org/w3c/dom/Node -/
def k9 : Class := { plain "org/w3c/dom/Node" (some 0) with
  accessFlags := 1537
  interfaces := #[]
  cf := some (fileOf pool9 2 #[] #[] 1537 4 #[] #[])
  fields := #[]
  methods := #[]
  instanceTypes := #[]
  staticTypes := #[]
  resolved := Array.replicate 8 none
  statics := none }

def pool10 : Array CpInfo := pool [(2, .class_ 4), (1, u "java/lang/Object"), (3, .class_ 10), (1, u "com/example/xml_signing/xmlsigning/c14n/TreeNode"), (0, u "document"), (0, u "Lcom/example/xml_signing/xmlsigning/c14n/TreeDocument;"), (13, u "parent"), (0, u "Lcom/example/xml_signing/xmlsigning/c14n/TreeParent;"), (10, u "previous"), (0, u "Lcom/example/xml_signing/xmlsigning/c14n/TreeNode;"), (2, u "next"), (76, .class_ 120), (0, u "org/w3c/dom/Node"), (144, u "READ_ONLY"), (0, u "Ljava/lang/String;")] 56

/-- com/example/xml_signing/xmlsigning/c14n/TreeNode -/
def k10 : Class := { plain "com/example/xml_signing/xmlsigning/c14n/TreeNode" (some 0) with
  accessFlags := 1056
  interfaces := #[9]
  cf := some (fileOf pool10 8 #[] #[] 1056 2 #[119] #[{ accessFlags := 26, nameIndex := 265, descriptorIndex := 266, attributes := #[] }, { accessFlags := 16, nameIndex := 11, descriptorIndex := 12, attributes := #[] }, { accessFlags := 0, nameIndex := 26, descriptorIndex := 27, attributes := #[] }, { accessFlags := 0, nameIndex := 38, descriptorIndex := 39, attributes := #[] }, { accessFlags := 0, nameIndex := 42, descriptorIndex := 39, attributes := #[] }])
  fields := #[{ name := "READ_ONLY", type := (.object "java/lang/String"), accessFlags := 26, slot := 0, constantValue := 0 }, { name := "document", type := (.object "com/example/xml_signing/xmlsigning/c14n/TreeDocument"), accessFlags := 16, slot := 0, constantValue := 0 }, { name := "parent", type := (.object "com/example/xml_signing/xmlsigning/c14n/TreeParent"), accessFlags := 0, slot := 1, constantValue := 0 }, { name := "previous", type := (.object "com/example/xml_signing/xmlsigning/c14n/TreeNode"), accessFlags := 0, slot := 2, constantValue := 0 }, { name := "next", type := (.object "com/example/xml_signing/xmlsigning/c14n/TreeNode"), accessFlags := 0, slot := 3, constantValue := 0 }]
  methods := #[]
  instanceTypes := #[(.object "com/example/xml_signing/xmlsigning/c14n/TreeDocument"), (.object "com/example/xml_signing/xmlsigning/c14n/TreeParent"), (.object "com/example/xml_signing/xmlsigning/c14n/TreeNode"), (.object "com/example/xml_signing/xmlsigning/c14n/TreeNode")]
  staticTypes := #[(.object "java/lang/String")]
  resolved := Array.replicate 323 none
  statics := none }

def pool11 : Array CpInfo := pool [(2, .class_ 4), (1, u "com/example/xml_signing/xmlsigning/c14n/TreeNode"), (7, .class_ 14), (1, u "com/example/xml_signing/xmlsigning/c14n/TreeParent"), (0, u "last"), (0, u "Lcom/example/xml_signing/xmlsigning/c14n/TreeNode;"), (5, u "first")] 109

/-- com/example/xml_signing/xmlsigning/c14n/TreeParent -/
def k11 : Class := { plain "com/example/xml_signing/xmlsigning/c14n/TreeParent" (some 10) with
  accessFlags := 1056
  interfaces := #[]
  cf := some (fileOf pool11 12 #[] #[] 1056 2 #[] #[{ accessFlags := 0, nameIndex := 22, descriptorIndex := 16, attributes := #[] }, { accessFlags := 0, nameIndex := 15, descriptorIndex := 16, attributes := #[] }])
  fields := #[{ name := "first", type := (.object "com/example/xml_signing/xmlsigning/c14n/TreeNode"), accessFlags := 0, slot := 4, constantValue := 0 }, { name := "last", type := (.object "com/example/xml_signing/xmlsigning/c14n/TreeNode"), accessFlags := 0, slot := 5, constantValue := 0 }]
  methods := #[]
  instanceTypes := #[(.object "com/example/xml_signing/xmlsigning/c14n/TreeDocument"), (.object "com/example/xml_signing/xmlsigning/c14n/TreeParent"), (.object "com/example/xml_signing/xmlsigning/c14n/TreeNode"), (.object "com/example/xml_signing/xmlsigning/c14n/TreeNode"), (.object "com/example/xml_signing/xmlsigning/c14n/TreeNode"), (.object "com/example/xml_signing/xmlsigning/c14n/TreeNode")]
  staticTypes := #[]
  resolved := Array.replicate 132 none
  statics := none }

def pool12 : Array CpInfo := pool [(1, u "org/w3c/dom/Element"), (0, .class_ 1), (0, u "java/lang/Object"), (0, .class_ 3)] 3

/-- org/w3c/dom/Element -/
def k12 : Class := { plain "org/w3c/dom/Element" (some 0) with
  accessFlags := 1537
  interfaces := #[]
  cf := some (fileOf pool12 2 #[] #[] 1537 4 #[] #[])
  fields := #[]
  methods := #[]
  instanceTypes := #[]
  staticTypes := #[]
  resolved := Array.replicate 8 none
  statics := none }

def pool13 : Array CpInfo := pool [(4, .class_ 6), (1, u "com/example/xml_signing/xmlsigning/c14n/TreeParent"), (3, .class_ 12), (1, u "com/example/xml_signing/xmlsigning/c14n/TreeElement"), (0, u "namespaceURI"), (0, u "Ljava/lang/String;"), (2, u "name"), (2, u "localName"), (2, u "names"), (0, u "[Ljava/lang/String;"), (2, u "values"), (0, u "[C"), (2, u "valuesAt"), (0, u "I"), (2, u "identifiers"), (0, u "[Z"), (2, u "NONE"), (0, .class_ 41), (0, u "java/lang/String"), (38, u "attributeNodes"), (0, u "[Lcom/example/xml_signing/xmlsigning/c14n/TreeAttr;"), (67, .class_ 150), (0, u "org/w3c/dom/Element"), (0, u "XMLNS"), (3, u "FIELDS"), (1, u "NAME"), (1, u "NAMESPACE"), (1, u "LOCAL_NAME"), (4, u "nameRows"), (0, u "(I)[Ljava/lang/String;"), (2, u "setNames"), (0, u "([Ljava/lang/String;ILjava/lang/String;Ljava/lang/String;Ljava/lang/String;)V")] 62

def k13c0 : Code := { maxStack := 2, maxLocals := 1, code := prog_72_method_2_code, exceptionTable := #[], attributes := #[] }
def k13m0 : Method := { name := "nameRows", desc := "(I)[Ljava/lang/String;", sig := { parameters := [.int], returnType := some (.array (.object "java/lang/String")) }, accessFlags := 8, code := some k13c0 }
def k13c1 : Code := { maxStack := 3, maxLocals := 5, code := prog_72_method_3_code, exceptionTable := #[], attributes := #[] }
def k13m1 : Method := { name := "setNames", desc := "([Ljava/lang/String;ILjava/lang/String;Ljava/lang/String;Ljava/lang/String;)V", sig := { parameters := [(.array (.object "java/lang/String")), .int, (.object "java/lang/String"), (.object "java/lang/String"), (.object "java/lang/String")], returnType := none }, accessFlags := 8, code := some k13c1 }
/-- com/example/xml_signing/xmlsigning/c14n/TreeElement -/
def k13 : Class := { plain "com/example/xml_signing/xmlsigning/c14n/TreeElement" (some 11) with
  accessFlags := 48
  interfaces := #[12]
  cf := some (fileOf pool13 10 #[] #[{ accessFlags := 8, nameIndex := 166, descriptorIndex := 167, attributes := #[] }, { accessFlags := 8, nameIndex := 170, descriptorIndex := 171, attributes := #[] }] 48 4 #[149] #[{ accessFlags := 24, nameIndex := 151, descriptorIndex := 14, attributes := #[] }, { accessFlags := 26, nameIndex := 155, descriptorIndex := 32, attributes := #[] }, { accessFlags := 26, nameIndex := 157, descriptorIndex := 32, attributes := #[] }, { accessFlags := 26, nameIndex := 159, descriptorIndex := 32, attributes := #[] }, { accessFlags := 26, nameIndex := 161, descriptorIndex := 32, attributes := #[] }, { accessFlags := 26, nameIndex := 39, descriptorIndex := 24, attributes := #[] }, { accessFlags := 18, nameIndex := 17, descriptorIndex := 14, attributes := #[] }, { accessFlags := 18, nameIndex := 13, descriptorIndex := 14, attributes := #[] }, { accessFlags := 18, nameIndex := 20, descriptorIndex := 14, attributes := #[] }, { accessFlags := 18, nameIndex := 23, descriptorIndex := 24, attributes := #[] }, { accessFlags := 18, nameIndex := 27, descriptorIndex := 28, attributes := #[] }, { accessFlags := 18, nameIndex := 31, descriptorIndex := 32, attributes := #[] }, { accessFlags := 18, nameIndex := 35, descriptorIndex := 36, attributes := #[] }, { accessFlags := 2, nameIndex := 80, descriptorIndex := 81, attributes := #[] }])
  fields := #[{ name := "XMLNS", type := (.object "java/lang/String"), accessFlags := 24, slot := 0, constantValue := 0 }, { name := "FIELDS", type := .int, accessFlags := 26, slot := 1, constantValue := 0 }, { name := "NAME", type := .int, accessFlags := 26, slot := 2, constantValue := 0 }, { name := "NAMESPACE", type := .int, accessFlags := 26, slot := 3, constantValue := 0 }, { name := "LOCAL_NAME", type := .int, accessFlags := 26, slot := 4, constantValue := 0 }, { name := "NONE", type := (.array (.object "java/lang/String")), accessFlags := 26, slot := 5, constantValue := 0 }, { name := "name", type := (.object "java/lang/String"), accessFlags := 18, slot := 6, constantValue := 0 }, { name := "namespaceURI", type := (.object "java/lang/String"), accessFlags := 18, slot := 7, constantValue := 0 }, { name := "localName", type := (.object "java/lang/String"), accessFlags := 18, slot := 8, constantValue := 0 }, { name := "names", type := (.array (.object "java/lang/String")), accessFlags := 18, slot := 9, constantValue := 0 }, { name := "values", type := (.array .char), accessFlags := 18, slot := 10, constantValue := 0 }, { name := "valuesAt", type := .int, accessFlags := 18, slot := 11, constantValue := 0 }, { name := "identifiers", type := (.array .boolean), accessFlags := 18, slot := 12, constantValue := 0 }, { name := "attributeNodes", type := (.array (.object "com/example/xml_signing/xmlsigning/c14n/TreeAttr")), accessFlags := 2, slot := 13, constantValue := 0 }]
  methods := #[k13m0, k13m1]
  instanceTypes := #[(.object "com/example/xml_signing/xmlsigning/c14n/TreeDocument"), (.object "com/example/xml_signing/xmlsigning/c14n/TreeParent"), (.object "com/example/xml_signing/xmlsigning/c14n/TreeNode"), (.object "com/example/xml_signing/xmlsigning/c14n/TreeNode"), (.object "com/example/xml_signing/xmlsigning/c14n/TreeNode"), (.object "com/example/xml_signing/xmlsigning/c14n/TreeNode"), (.object "java/lang/String"), (.object "java/lang/String"), (.object "java/lang/String"), (.array (.object "java/lang/String")), (.array .char), .int, (.array .boolean), (.array (.object "com/example/xml_signing/xmlsigning/c14n/TreeAttr"))]
  staticTypes := #[(.object "java/lang/String"), .int, .int, .int, .int, (.array (.object "java/lang/String"))]
  resolved := Array.replicate 234 none
  statics := none }

def pool14 : Array CpInfo := pool [(4, .class_ 6), (1, u "java/lang/Object"), (0, u "<init>"), (0, u "()V"), (5, .class_ 16), (1, u "java/lang/StringLatin1"), (104, u "$assertionsDisabled"), (0, u "Z"), (98, .class_ 223), (1, u "java/lang/StringLatin1$LinesSpliterator"), (166, .class_ 391), (0, u "java/lang/StringLatin1$CharsSpliterator")] 3

def k14m0 : Method := { name := "<init>", desc := "()V", sig := { parameters := [], returnType := none }, accessFlags := 0, code := none }
/-- java/lang/StringLatin1 -/
def k14 : Class := { plain "java/lang/StringLatin1" (some 0) with
  accessFlags := 48
  interfaces := #[]
  cf := some (fileOf pool14 14 #[.nestMembers #[390, 221]] #[{ accessFlags := 0, nameIndex := 7, descriptorIndex := 8, attributes := #[] }] 48 4 #[] #[{ accessFlags := 4120, nameIndex := 121, descriptorIndex := 122, attributes := #[] }])
  fields := #[{ name := "$assertionsDisabled", type := .boolean, accessFlags := 4120, slot := 0, constantValue := 0 }]
  methods := #[k14m0]
  instanceTypes := #[]
  staticTypes := #[.boolean]
  resolved := Array.replicate 395 none
  statics := none }

def pool15 : Array CpInfo := pool [(2, .class_ 4), (1, u "java/lang/Object"), (0, u "<init>"), (0, u "()V"), (17, .class_ 26), (1, u "jdk/internal/util/Preconditions"), (28, .class_ 56), (0, u "jdk/internal/util/Preconditions$4"), (57, .class_ 115), (0, u "jdk/internal/util/Preconditions$1"), (7, u "SIOOBE_FORMATTER"), (0, u "Ljava/util/function/BiFunction;"), (0, .class_ 126), (0, u "jdk/internal/util/Preconditions$2"), (3, u "AIOOBE_FORMATTER"), (0, .class_ 132), (0, u "jdk/internal/util/Preconditions$3"), (3, u "IOOBE_FORMATTER")] 57

def k15m0 : Method := { name := "<init>", desc := "()V", sig := { parameters := [], returnType := none }, accessFlags := 1, code := none }
/-- jdk/internal/util/Preconditions -/
def k15 : Class := { plain "jdk/internal/util/Preconditions" (some 0) with
  accessFlags := 33
  interfaces := #[]
  cf := some (fileOf pool15 24 #[.nestMembers #[55, 131, 125, 114]] #[{ accessFlags := 1, nameIndex := 5, descriptorIndex := 6, attributes := #[] }] 33 2 #[] #[{ accessFlags := 25, nameIndex := 123, descriptorIndex := 124, attributes := #[] }, { accessFlags := 25, nameIndex := 130, descriptorIndex := 124, attributes := #[] }, { accessFlags := 25, nameIndex := 136, descriptorIndex := 124, attributes := #[] }])
  fields := #[{ name := "SIOOBE_FORMATTER", type := (.object "java/util/function/BiFunction"), accessFlags := 25, slot := 0, constantValue := 0 }, { name := "AIOOBE_FORMATTER", type := (.object "java/util/function/BiFunction"), accessFlags := 25, slot := 1, constantValue := 0 }, { name := "IOOBE_FORMATTER", type := (.object "java/util/function/BiFunction"), accessFlags := 25, slot := 2, constantValue := 0 }]
  methods := #[k15m0]
  instanceTypes := #[]
  staticTypes := #[(.object "java/util/function/BiFunction"), (.object "java/util/function/BiFunction"), (.object "java/util/function/BiFunction")]
  resolved := Array.replicate 194 none
  statics := some 1 }

def pool16 : Array CpInfo := pool [(9, u "<init>"), (6, .class_ 18), (1, u "java/lang/Object"), (0, u "()V"), (1, .class_ 23), (1, u "jdk/internal/util/ArraysSupport"), (0, u "LOG2_ARRAY_LONG_INDEX_SCALE"), (0, u "I"), (2, u "U"), (0, u "Ljdk/internal/misc/Unsafe;"), (8, u "BIG_ENDIAN"), (0, u "Z"), (8, u "LOG2_BYTE_BIT_SIZE"), (4, u "LOG2_ARRAY_INT_INDEX_SCALE"), (54, u "JLA"), (0, u "Ljdk/internal/access/JavaLangAccess;"), (11, u "LOG2_ARRAY_BOOLEAN_INDEX_SCALE"), (9, u "LOG2_ARRAY_BYTE_INDEX_SCALE"), (5, u "LOG2_ARRAY_CHAR_INDEX_SCALE"), (5, u "LOG2_ARRAY_SHORT_INDEX_SCALE"), (18, u "LOG2_ARRAY_FLOAT_INDEX_SCALE"), (24, u "LOG2_ARRAY_DOUBLE_INDEX_SCALE"), (89, u "T_BOOLEAN"), (2, u "T_CHAR"), (1, u "T_FLOAT"), (1, u "T_DOUBLE"), (1, u "T_BYTE"), (1, u "T_SHORT"), (1, u "T_INT"), (1, u "T_LONG"), (1, u "SOFT_MAX_ARRAY_LENGTH")] 83

def k16m0 : Method := { name := "<init>", desc := "()V", sig := { parameters := [], returnType := none }, accessFlags := 2, code := none }
/-- jdk/internal/util/ArraysSupport -/
def k16 : Class := { plain "jdk/internal/util/ArraysSupport" (some 0) with
  accessFlags := 33
  interfaces := #[]
  cf := some (fileOf pool16 21 #[] #[{ accessFlags := 2, nameIndex := 9, descriptorIndex := 19, attributes := #[] }] 33 16 #[] #[{ accessFlags := 24, nameIndex := 28, descriptorIndex := 29, attributes := #[] }, { accessFlags := 26, nameIndex := 38, descriptorIndex := 39, attributes := #[] }, { accessFlags := 25, nameIndex := 121, descriptorIndex := 25, attributes := #[] }, { accessFlags := 25, nameIndex := 131, descriptorIndex := 25, attributes := #[] }, { accessFlags := 25, nameIndex := 137, descriptorIndex := 25, attributes := #[] }, { accessFlags := 25, nameIndex := 143, descriptorIndex := 25, attributes := #[] }, { accessFlags := 25, nameIndex := 53, descriptorIndex := 25, attributes := #[] }, { accessFlags := 25, nameIndex := 24, descriptorIndex := 25, attributes := #[] }, { accessFlags := 25, nameIndex := 162, descriptorIndex := 25, attributes := #[] }, { accessFlags := 25, nameIndex := 187, descriptorIndex := 25, attributes := #[] }, { accessFlags := 26, nameIndex := 48, descriptorIndex := 25, attributes := #[] }, { accessFlags := 25, nameIndex := 277, descriptorIndex := 25, attributes := #[] }, { accessFlags := 25, nameIndex := 280, descriptorIndex := 25, attributes := #[] }, { accessFlags := 25, nameIndex := 282, descriptorIndex := 25, attributes := #[] }, { accessFlags := 25, nameIndex := 284, descriptorIndex := 25, attributes := #[] }, { accessFlags := 25, nameIndex := 286, descriptorIndex := 25, attributes := #[] }, { accessFlags := 25, nameIndex := 288, descriptorIndex := 25, attributes := #[] }, { accessFlags := 25, nameIndex := 290, descriptorIndex := 25, attributes := #[] }, { accessFlags := 25, nameIndex := 292, descriptorIndex := 25, attributes := #[] }, { accessFlags := 26, nameIndex := 108, descriptorIndex := 109, attributes := #[] }, { accessFlags := 25, nameIndex := 294, descriptorIndex := 25, attributes := #[] }])
  fields := #[{ name := "U", type := (.object "jdk/internal/misc/Unsafe"), accessFlags := 24, slot := 0, constantValue := 0 }, { name := "BIG_ENDIAN", type := .boolean, accessFlags := 26, slot := 1, constantValue := 0 }, { name := "LOG2_ARRAY_BOOLEAN_INDEX_SCALE", type := .int, accessFlags := 25, slot := 2, constantValue := 0 }, { name := "LOG2_ARRAY_BYTE_INDEX_SCALE", type := .int, accessFlags := 25, slot := 3, constantValue := 0 }, { name := "LOG2_ARRAY_CHAR_INDEX_SCALE", type := .int, accessFlags := 25, slot := 4, constantValue := 0 }, { name := "LOG2_ARRAY_SHORT_INDEX_SCALE", type := .int, accessFlags := 25, slot := 5, constantValue := 0 }, { name := "LOG2_ARRAY_INT_INDEX_SCALE", type := .int, accessFlags := 25, slot := 6, constantValue := 0 }, { name := "LOG2_ARRAY_LONG_INDEX_SCALE", type := .int, accessFlags := 25, slot := 7, constantValue := 0 }, { name := "LOG2_ARRAY_FLOAT_INDEX_SCALE", type := .int, accessFlags := 25, slot := 8, constantValue := 0 }, { name := "LOG2_ARRAY_DOUBLE_INDEX_SCALE", type := .int, accessFlags := 25, slot := 9, constantValue := 0 }, { name := "LOG2_BYTE_BIT_SIZE", type := .int, accessFlags := 26, slot := 10, constantValue := 0 }, { name := "T_BOOLEAN", type := .int, accessFlags := 25, slot := 11, constantValue := 0 }, { name := "T_CHAR", type := .int, accessFlags := 25, slot := 12, constantValue := 0 }, { name := "T_FLOAT", type := .int, accessFlags := 25, slot := 13, constantValue := 0 }, { name := "T_DOUBLE", type := .int, accessFlags := 25, slot := 14, constantValue := 0 }, { name := "T_BYTE", type := .int, accessFlags := 25, slot := 15, constantValue := 0 }, { name := "T_SHORT", type := .int, accessFlags := 25, slot := 16, constantValue := 0 }, { name := "T_INT", type := .int, accessFlags := 25, slot := 17, constantValue := 0 }, { name := "T_LONG", type := .int, accessFlags := 25, slot := 18, constantValue := 0 }, { name := "JLA", type := (.object "jdk/internal/access/JavaLangAccess"), accessFlags := 26, slot := 19, constantValue := 0 }, { name := "SOFT_MAX_ARRAY_LENGTH", type := .int, accessFlags := 25, slot := 20, constantValue := 0 }]
  methods := #[k16m0]
  instanceTypes := #[]
  staticTypes := #[(.object "jdk/internal/misc/Unsafe"), .boolean, .int, .int, .int, .int, .int, .int, .int, .int, .int, .int, .int, .int, .int, .int, .int, .int, .int, (.object "jdk/internal/access/JavaLangAccess"), .int]
  resolved := Array.replicate 378 none
  statics := none }

def pool17 : Array CpInfo := pool [(1, u "java/lang/Cloneable"), (0, .class_ 1), (0, u "java/lang/Object"), (0, .class_ 3)] 3

/-- java/lang/Cloneable -/
def k17 : Class := { plain "java/lang/Cloneable" (some 0) with
  accessFlags := 1537
  interfaces := #[]
  cf := some (fileOf pool17 2 #[] #[] 1537 4 #[] #[])
  fields := #[]
  methods := #[]
  instanceTypes := #[]
  staticTypes := #[]
  resolved := Array.replicate 8 none
  statics := none }

/-- the primitive byte -/
def k18 : Class := { plain "byte" none with kind := .primitive 'B', accessFlags := 0x411 }
/-- [B -/
def k19 : Class := { plain "[B" (some 0) with kind := .array 18 .byte, interfaces := #[17, 2], accessFlags := 1041 }

/-- the primitive char -/
def k20 : Class := { plain "char" none with kind := .primitive 'C', accessFlags := 0x411 }
/-- [C -/
def k21 : Class := { plain "[C" (some 0) with kind := .array 20 .char, interfaces := #[17, 2], accessFlags := 1041 }

/-- the primitive int -/
def k22 : Class := { plain "int" none with kind := .primitive 'I', accessFlags := 0x411 }
/-- [I -/
def k23 : Class := { plain "[I" (some 0) with kind := .array 22 .int, interfaces := #[17, 2], accessFlags := 1041 }

/-- [Ljava/lang/String; -/
def k24 : Class := { plain "[Ljava/lang/String;" (some 0) with kind := .array 7 (.object "java/lang/String"), interfaces := #[17, 2], accessFlags := 1041 }

def heap : Heap := #[{ cls := 7, slots := #[.long 0, .int 1, .null, .int 0, .null, .int 0, .int 0], vm := .statics 7 },
  { cls := 15, slots := #[.null, .null, .null], vm := .statics 15 }]
def classes : Array Class := #[k0, k1, k2, k3, k4, k5, k6, k7, k8, k9, k10, k11, k12, k13, k14, k15, k16, k17, k18, k19, k20, k21, k22, k23, k24]
def interned : List (Array UInt16 × Addr) := []
def slotsUsed : Nat := 10
def theMethod : MethodId := ⟨1, 1⟩
def args0 : Array Value := #[.int 5, .int 3, .int 1, .int 2]
def aboutOver (below : List Frame) : State where
  vm := { classes := classes, interned := interned.toArray }
  heap := heap
  slotsUsed := slotsUsed
  threads := #[{ frames := .invoking theMethod args0 :: below }]
def below0 : List Frame := [.native { method := ⟨0, 0⟩, args := #[] }]
def about1 : State := aboutOver below0
def p0 : Program := .bare "" "" ""
def e0 : Env := launch0.env 0 0 0
theorem w_frames : about1.frames = Frame.invoking theMethod args0 :: below0 := rfl
set_option maxRecDepth 65536 in
theorem w_args : argsFit about1.vm theMethod args0 = true := by decide +kernel
set_option maxRecDepth 65536 in
theorem w_heap : heapFits about1 = true := by decide +kernel
set_option maxRecDepth 65536 in
theorem w_runnable : about1.curStatus? = some .runnable := by decide +kernel
set_option maxRecDepth 65536 in
theorem w_alone : about1.alone = true := by decide +kernel
set_option maxRecDepth 65536 in
theorem w_named : about1.methodNamed? x = some theMethod := by decide +kernel
set_option maxRecDepth 65536 in
theorem w_hears : about1.hears theMethod below0 = true := by decide +kernel
set_option maxRecDepth 65536 in
theorem w_ripe : about1.ripe theMethod args0 below0 = true := by decide +kernel
theorem w_running : about1.status = .running := rfl
set_option maxRecDepth 65536 in
theorem w_room : about1.hasRoom e0.platform room_1 = true :=
  launch0.hasRoom_least _ room_1 (by decide +kernel) (by decide +kernel) (by decide +kernel) (by decide +kernel) (by decide +kernel) (by decide +kernel)
theorem allAtoms_all (ts : List Jvm.Cond) (a : Array Jvm.Value) (st : Jvm.State) : (allAtoms ts).before a st = ts.all (fun c => c.before a st) := by
  induction ts with
  | nil => rfl
  | cons c t ih =>
    show (Jvm.Cond.and c (allAtoms t)).before a st = _
    rw [Jvm.Cond.before_and, ih, List.all_cons]
def words1 : List Jvm.Cond := Jvm.Cond.code x code maxLocals ret :: tables_1
/-- a 'code' word, met by the world's own term for the bytes: nothing is compared byte by byte -/
theorem code_word {y : MethodName} {bytes : ByteArray} {mx : Nat} {rt : Option FieldType} {a : Array Value} {s : State} {m : MethodId} {meth : Method} {c : Code} (h1 : s.methodNamed? y = some m) (h2 : s.vm.method? m = some meth) (h3 : meth.code = some c) (h4 : c.code = bytes)
    (h5 : (c.maxLocals == mx && c.exceptionTable.isEmpty && decide (c.maxStack ≤ mostOperands) && decide (meth.sig.returnType = rt) && !meth.locks && decide (parseMethodDescriptor y.desc = some meth.sig)) = true) : (Jvm.Cond.code y bytes mx rt).before a s = true := by
  simp only [Bool.and_eq_true, beq_iff_eq, Bool.not_eq_true', decide_eq_true_eq] at h5
  obtain ⟨⟨⟨⟨⟨g1, g2⟩, g3⟩, g4⟩, g5⟩, g6⟩ := h5
  simp [Cond.before, Cond.holds, Cond.value, h1, h2, h3, h4, g1, g2, g3, g4, g5, g6]
def isCode : Jvm.Cond → Bool
  | .code _ _ _ _ => true
  | _ => false
theorem all_split {L : List Jvm.Cond} {P : Jvm.Cond → Bool} (h1 : L.all (fun c => isCode c || P c) = true) (h2 : ∀ c ∈ L.filter isCode, P c = true) : L.all P = true := by
  refine List.all_eq_true.mpr fun c hc => ?_
  have h := List.all_eq_true.mp h1 c hc
  rcases Bool.eq_false_or_eq_true (isCode c) with hi | hi
  · exact h2 c (List.mem_filter.mpr ⟨hc, hi⟩)
  · simpa [hi] using h
set_option maxRecDepth 65536 in
theorem w_c0 : (Jvm.Cond.code x code maxLocals ret).before args0 about1 = true := code_word (m := ⟨1, 1⟩) (meth := k1m1) (c := k1c1) (by decide +kernel) rfl rfl rfl (by decide +kernel)
set_option maxRecDepth 65536 in
theorem w_c1 : (Jvm.Cond.code ({ cls := "com/example/xml_signing/xmlsigning/c14n/TreeElementSetNamesPinLaw", name := "str", desc := "(I)Ljava/lang/String;" } : Jvm.MethodName) method_3_code (2 : Nat) (Option.some (Jvm.ClassFile.FieldType.object "java/lang/String"))).before args0 about1 = true := code_word (m := ⟨1, 2⟩) (meth := k1m2) (c := k1c2) (by decide +kernel) rfl rfl rfl (by decide +kernel)
set_option maxRecDepth 65536 in
theorem w_c2 : (Jvm.Cond.code ({ cls := "java/lang/String", name := "<init>", desc := "([C)V" } : Jvm.MethodName) jdk_42_method_3_code (2 : Nat) (Option.none : Option Jvm.ClassFile.FieldType)).before args0 about1 = true := code_word (m := ⟨7, 1⟩) (meth := k7m1) (c := k7c1) (by decide +kernel) rfl rfl rfl (by decide +kernel)
set_option maxRecDepth 65536 in
theorem w_c3 : (Jvm.Cond.code ({ cls := "java/lang/String", name := "<init>", desc := "([CIILjava/lang/Void;)V" } : Jvm.MethodName) jdk_42_method_149_code (6 : Nat) (Option.none : Option Jvm.ClassFile.FieldType)).before args0 about1 = true := code_word (m := ⟨7, 2⟩) (meth := k7m2) (c := k7c2) (by decide +kernel) rfl rfl rfl (by decide +kernel)
set_option maxRecDepth 65536 in
theorem w_c4 : (Jvm.Cond.code ({ cls := "java/lang/Object", name := "<init>", desc := "()V" } : Jvm.MethodName) object_method_1_code (1 : Nat) (Option.none : Option Jvm.ClassFile.FieldType)).before args0 about1 = true := code_word (m := ⟨0, 0⟩) (meth := k0m0) (c := k0c0) (by decide +kernel) rfl rfl rfl (by decide +kernel)
set_option maxRecDepth 65536 in
theorem w_c5 : (Jvm.Cond.code ({ cls := "java/lang/StringUTF16", name := "compress", desc := "([CII)[B" } : Jvm.MethodName) jdk_52_method_16_code (6 : Nat) (Option.some (Jvm.ClassFile.FieldType.array Jvm.ClassFile.FieldType.byte))).before args0 about1 = true := code_word (m := ⟨8, 2⟩) (meth := k8m2) (c := k8c2) (by decide +kernel) rfl rfl rfl (by decide +kernel)
set_option maxRecDepth 65536 in
theorem w_c6 : (Jvm.Cond.code ({ cls := "java/lang/StringUTF16", name := "compress", desc := "([CI[BII)I" } : Jvm.MethodName) jdk_52_method_21_code (7 : Nat) (Option.some Jvm.ClassFile.FieldType.int)).before args0 about1 = true := code_word (m := ⟨8, 3⟩) (meth := k8m3) (c := k8c3) (by decide +kernel) rfl rfl rfl (by decide +kernel)
set_option maxRecDepth 65536 in
theorem w_c7 : (Jvm.Cond.code ({ cls := "java/lang/StringUTF16", name := "coderFromArrayLen", desc := "([BI)B" } : Jvm.MethodName) jdk_52_method_15_code (2 : Nat) (Option.some Jvm.ClassFile.FieldType.byte)).before args0 about1 = true := code_word (m := ⟨8, 1⟩) (meth := k8m1) (c := k8c1) (by decide +kernel) rfl rfl rfl (by decide +kernel)
set_option maxRecDepth 65536 in
theorem w_c8 : (Jvm.Cond.code ({ cls := "com/example/xml_signing/xmlsigning/c14n/TreeElement", name := "nameRows", desc := "(I)[Ljava/lang/String;" } : Jvm.MethodName) prog_72_method_2_code (1 : Nat) (Option.some (Jvm.ClassFile.FieldType.array (Jvm.ClassFile.FieldType.object "java/lang/String")))).before args0 about1 = true := code_word (m := ⟨13, 0⟩) (meth := k13m0) (c := k13c0) (by decide +kernel) rfl rfl rfl (by decide +kernel)
set_option maxRecDepth 65536 in
theorem w_c9 : (Jvm.Cond.code ({ cls := "com/example/xml_signing/xmlsigning/c14n/TreeElement", name := "setNames", desc := "([Ljava/lang/String;ILjava/lang/String;Ljava/lang/String;Ljava/lang/String;)V" } : Jvm.MethodName) prog_72_method_3_code (5 : Nat) (Option.none : Option Jvm.ClassFile.FieldType)).before args0 about1 = true := code_word (m := ⟨13, 1⟩) (meth := k13m1) (c := k13c1) (by decide +kernel) rfl rfl rfl (by decide +kernel)
set_option maxRecDepth 65536 in
theorem w_c10 : (Jvm.Cond.code ({ cls := "com/example/xml_signing/xmlsigning/c14n/TreeElementSetNamesPinLaw", name := "slot", desc := "([Ljava/lang/String;III[Ljava/lang/String;[Ljava/lang/String;)Z" } : Jvm.MethodName) method_4_code (7 : Nat) (Option.some Jvm.ClassFile.FieldType.boolean)).before args0 about1 = true := code_word (m := ⟨1, 3⟩) (meth := k1m3) (c := k1c3) (by decide +kernel) rfl rfl rfl (by decide +kernel)
def codes1 : List Jvm.Cond := [Jvm.Cond.code x code maxLocals ret, Jvm.Cond.code ({ cls := "com/example/xml_signing/xmlsigning/c14n/TreeElementSetNamesPinLaw", name := "str", desc := "(I)Ljava/lang/String;" } : Jvm.MethodName) method_3_code (2 : Nat) (Option.some (Jvm.ClassFile.FieldType.object "java/lang/String")), Jvm.Cond.code ({ cls := "java/lang/String", name := "<init>", desc := "([C)V" } : Jvm.MethodName) jdk_42_method_3_code (2 : Nat) (Option.none : Option Jvm.ClassFile.FieldType), Jvm.Cond.code ({ cls := "java/lang/String", name := "<init>", desc := "([CIILjava/lang/Void;)V" } : Jvm.MethodName) jdk_42_method_149_code (6 : Nat) (Option.none : Option Jvm.ClassFile.FieldType), Jvm.Cond.code ({ cls := "java/lang/Object", name := "<init>", desc := "()V" } : Jvm.MethodName) object_method_1_code (1 : Nat) (Option.none : Option Jvm.ClassFile.FieldType), Jvm.Cond.code ({ cls := "java/lang/StringUTF16", name := "compress", desc := "([CII)[B" } : Jvm.MethodName) jdk_52_method_16_code (6 : Nat) (Option.some (Jvm.ClassFile.FieldType.array Jvm.ClassFile.FieldType.byte)), Jvm.Cond.code ({ cls := "java/lang/StringUTF16", name := "compress", desc := "([CI[BII)I" } : Jvm.MethodName) jdk_52_method_21_code (7 : Nat) (Option.some Jvm.ClassFile.FieldType.int), Jvm.Cond.code ({ cls := "java/lang/StringUTF16", name := "coderFromArrayLen", desc := "([BI)B" } : Jvm.MethodName) jdk_52_method_15_code (2 : Nat) (Option.some Jvm.ClassFile.FieldType.byte), Jvm.Cond.code ({ cls := "com/example/xml_signing/xmlsigning/c14n/TreeElement", name := "nameRows", desc := "(I)[Ljava/lang/String;" } : Jvm.MethodName) prog_72_method_2_code (1 : Nat) (Option.some (Jvm.ClassFile.FieldType.array (Jvm.ClassFile.FieldType.object "java/lang/String"))), Jvm.Cond.code ({ cls := "com/example/xml_signing/xmlsigning/c14n/TreeElement", name := "setNames", desc := "([Ljava/lang/String;ILjava/lang/String;Ljava/lang/String;Ljava/lang/String;)V" } : Jvm.MethodName) prog_72_method_3_code (5 : Nat) (Option.none : Option Jvm.ClassFile.FieldType), Jvm.Cond.code ({ cls := "com/example/xml_signing/xmlsigning/c14n/TreeElementSetNamesPinLaw", name := "slot", desc := "([Ljava/lang/String;III[Ljava/lang/String;[Ljava/lang/String;)Z" } : Jvm.MethodName) method_4_code (7 : Nat) (Option.some Jvm.ClassFile.FieldType.boolean)]
set_option maxRecDepth 65536 in
theorem codes_eq : words1.filter isCode = codes1 := rfl
theorem w_codes : ∀ c ∈ words1.filter isCode, c.before args0 about1 = true := by
  rw [codes_eq]
  intro c hc
  simp only [codes1, List.mem_cons, List.not_mem_nil, or_false] at hc
  rcases hc with rfl | rfl | rfl | rfl | rfl | rfl | rfl | rfl | rfl | rfl | rfl
  · exact w_c0
  · exact w_c1
  · exact w_c2
  · exact w_c3
  · exact w_c4
  · exact w_c5
  · exact w_c6
  · exact w_c7
  · exact w_c8
  · exact w_c9
  · exact w_c10
set_option maxRecDepth 65536 in
theorem w_t1 : (words1.take 24).all (fun c => isCode c || c.before args0 about1) = true := by decide +kernel
set_option maxRecDepth 65536 in
theorem w_t2 : (words1.drop 24).all (fun c => isCode c || c.before args0 about1) = true := by decide +kernel
theorem w_tables : (allAtoms (Jvm.Cond.code x code maxLocals ret :: tables_1)).before args0 about1 = true := by
  rw [allAtoms_all]
  show words1.all (fun c => c.before args0 about1) = true
  refine all_split ?_ w_codes
  rw [← List.take_append_drop 24 words1, List.all_append, w_t1, w_t2]
  rfl
set_option maxRecDepth 65536 in
theorem w_rest : rest_1_c.before args0 about1 = true := by decide +kernel
set_option maxRecDepth 65536 in
theorem w_case : (Jvm.Cond.and given_1 narrow_1).before args0 about1 = true := by decide +kernel
theorem w_applies : (headSpec (Jvm.Cond.code x code maxLocals ret :: tables_1) room_1).applies x e0.platform about1 = true :=
  (Spec.applies_iff w_frames).mpr ⟨w_running, w_runnable, w_alone, w_named, w_hears, w_ripe, w_room, w_tables⟩
theorem atStart : AtStart classFile x code maxLocals ret World_1 tables_1 room_1 Calls_1 rest_1 Pre_1 launch0 p0 e0 about1 theMethod args0 below0 :=
  ⟨lists_1, trivial, launch0.admits_env _ _ _, launch0.least_env, fairChoices_fair.cas, fairChoices_fair.clock, w_frames, w_args, w_heap, w_applies, trivial, w_rest, w_case⟩
end start1
theorem witness_1 : WitnessClaimed_1 := ⟨start1.p0, start1.e0, start1.about1, start1.theMethod, start1.args0, start1.below0, start1.atStart⟩
end Jvm.Pilot.@@N@@
