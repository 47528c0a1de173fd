import JvmDerived
import JvmDerived.Pilot.@@N@@Statement
import JvmDerived.Pilot.@@N@@Code
set_option linter.unusedVariables false
set_option linter.unusedSimpArgs false
namespace Jvm.RoadKit
open Sem ClassFile Op Lib Jvm.Stand Jvm.Free Jvm.LawKit
section New
variable {p : Program} {l : Launch} {e : Env} {R : Room} {s : State} {m : MethodId} {args : Array Value} {below : List Frame} {meth : Method} {c : Code} {T : State} {locs : List Loc} {cells slots : Nat}
theorem retI (X : Stand p l e R s m args below meth c T locs cells slots) (hx : p.tables.exec = Jvm.exec) {pc : Nat} {Ls : Array Slot} {z : Int32} {rest : List Value} (hret : meth.sig.returnType = some .int) (hd : decode c.code pc = .ok (.ireturn, 1)) {fs : List Frame}
    (hl : ∀ (f : JFrame) (acts : List Action), f.method = m → f.locked = none → f.entered = [] → (doReturn e (T.setTop f) acts (some (.int z))).1 = T.setFrames fs) : Steps p.tables e below (T.setTop (mkF m pc Ls (.int z :: rest))) (T.setFrames fs) := by
  have hm' : T.vm.method? m = some meth := X.method'
  have hn : narrow .int (.int z) = .int z := rfl
  show Steps p.tables e below (T.setTop { method := m, pc := pc, locals := Ls, stack := _ :: rest, locked := none }) _
  jvm_step X.here [X.here.top, hx, hd, hm', hret, hn]
  first | (intro acts; rw [hl _ acts rfl rfl rfl]) | rw [hl _ _ rfl rfl rfl]
  exact Steps.refl _
end New
end Jvm.RoadKit
namespace Jvm.Pilot.@@N@@
open Jvm Jvm.ClassFile Sem Op Lib Jvm.Free Jvm.Stand Jvm.LawKit Jvm.RoadKit Bundle Jvm.Pilot.@@N@@.Jvm.D
abbrev own_S (p : Program) (e : Env) (below : List Frame) (T : State) (f : JFrame) (t : State) : Prop := Steps p.tables e below (T.setTop f) t
abbrev own_ushr (x y : Int32) : Int32 := (x.toUInt32 >>> (y &&& 31).toUInt32).toInt32
abbrev own_ushrL (x : Int64) (y : Int32) : Int64 := (x.toUInt64 >>> (y &&& 63).toInt64.toUInt64).toInt64
def own_Qi (z : Int32) (h0 : Heap) (n0 : Nat) (v : Option Value) (h : Heap) (L : List Loc) : Prop := v = some (.int z) ∧ Fr n0 L ∧ h = h0
theorem own_wk {Z : State} {ag : Array Value} {d : Jvm.Cond} (hw : ∀ d ∈ tables_1, d.before ag Z = true) (i : Nat) (h : tables_1[i]? = some d) : d.before ag Z = true := hw d (List.mem_of_getElem? h)
theorem own_cast {α : Sort _} {P : α → Prop} {a b : α} (h : a = b) (k : P a) : P b := h ▸ k
theorem own_dig_and (h b k d : Nat) (hb : b < 256) (hd : d < 256) : (256 * h + b) &&& (256 * k + d) = 256 * (h &&& k) + (b &&& d) := by
  apply Nat.eq_of_testBit_eq; intro i
  have e : (256 : Nat) = 2 ^ 8 := rfl
  rw [Nat.testBit_and, e, Nat.testBit_two_pow_mul_add h (by omega), Nat.testBit_two_pow_mul_add k (by omega), Nat.testBit_two_pow_mul_add _ (Nat.lt_of_le_of_lt Nat.and_le_left (by omega))]
  split <;> simp
theorem own_dig_or (h b k d : Nat) (hb : b < 256) (hd : d < 256) : (256 * h + b) ||| (256 * k + d) = 256 * (h ||| k) + (b ||| d) := by
  apply Nat.eq_of_testBit_eq; intro i
  have e : (256 : Nat) = 2 ^ 8 := rfl
  rw [Nat.testBit_or, e, Nat.testBit_two_pow_mul_add h (by omega), Nat.testBit_two_pow_mul_add k (by omega), Nat.testBit_two_pow_mul_add _ (Nat.or_lt_two_pow (by omega) (by omega))]
  split <;> simp
theorem own_dig_xor (h b k d : Nat) (hb : b < 256) (hd : d < 256) : (256 * h + b) ^^^ (256 * k + d) = 256 * (h ^^^ k) + (b ^^^ d) := by
  apply Nat.eq_of_testBit_eq; intro i
  have e : (256 : Nat) = 2 ^ 8 := rfl
  rw [Nat.testBit_xor, e, Nat.testBit_two_pow_mul_add h (by omega), Nat.testBit_two_pow_mul_add k (by omega), Nat.testBit_two_pow_mul_add _ (Nat.xor_lt_two_pow (by omega) (by omega))]
  split <;> simp
theorem own_byte : ∀ b < 256, ∀ a < 128, ((255 ^^^ (((b &&& 127) + (127 - a)) ||| b)) &&& 128) = if b ≤ a then 128 else 0 := by decide +kernel

def own_n8 (b0 b1 b2 b3 b4 b5 b6 b7 : Nat) : Nat := 256 * (256 * (256 * (256 * (256 * (256 * (256 * b7 + b6) + b5) + b4) + b3) + b2) + b1) + b0
theorem own_n8_and {a0 a1 a2 a3 a4 a5 a6 a7 b0 b1 b2 b3 b4 b5 b6 b7 : Nat} (ha : a0 < 256 ∧ a1 < 256 ∧ a2 < 256 ∧ a3 < 256 ∧ a4 < 256 ∧ a5 < 256 ∧ a6 < 256 ∧ a7 < 256) (hb : b0 < 256 ∧ b1 < 256 ∧ b2 < 256 ∧ b3 < 256 ∧ b4 < 256 ∧ b5 < 256 ∧ b6 < 256 ∧ b7 < 256) :
    own_n8 a0 a1 a2 a3 a4 a5 a6 a7 &&& own_n8 b0 b1 b2 b3 b4 b5 b6 b7 = own_n8 (a0 &&& b0) (a1 &&& b1) (a2 &&& b2) (a3 &&& b3) (a4 &&& b4) (a5 &&& b5) (a6 &&& b6) (a7 &&& b7) := by
  obtain ⟨h0, h1, h2, h3, h4, h5, h6, h7⟩ := ha; obtain ⟨k0, k1, k2, k3, k4, k5, k6, k7⟩ := hb
  unfold own_n8
  rw [own_dig_and _ _ _ _ h0 k0, own_dig_and _ _ _ _ h1 k1, own_dig_and _ _ _ _ h2 k2, own_dig_and _ _ _ _ h3 k3, own_dig_and _ _ _ _ h4 k4, own_dig_and _ _ _ _ h5 k5, own_dig_and _ _ _ _ h6 k6]
theorem own_n8_or {a0 a1 a2 a3 a4 a5 a6 a7 b0 b1 b2 b3 b4 b5 b6 b7 : Nat} (ha : a0 < 256 ∧ a1 < 256 ∧ a2 < 256 ∧ a3 < 256 ∧ a4 < 256 ∧ a5 < 256 ∧ a6 < 256 ∧ a7 < 256) (hb : b0 < 256 ∧ b1 < 256 ∧ b2 < 256 ∧ b3 < 256 ∧ b4 < 256 ∧ b5 < 256 ∧ b6 < 256 ∧ b7 < 256) :
    own_n8 a0 a1 a2 a3 a4 a5 a6 a7 ||| own_n8 b0 b1 b2 b3 b4 b5 b6 b7 = own_n8 (a0 ||| b0) (a1 ||| b1) (a2 ||| b2) (a3 ||| b3) (a4 ||| b4) (a5 ||| b5) (a6 ||| b6) (a7 ||| b7) := by
  obtain ⟨h0, h1, h2, h3, h4, h5, h6, h7⟩ := ha; obtain ⟨k0, k1, k2, k3, k4, k5, k6, k7⟩ := hb
  unfold own_n8
  rw [own_dig_or _ _ _ _ h0 k0, own_dig_or _ _ _ _ h1 k1, own_dig_or _ _ _ _ h2 k2, own_dig_or _ _ _ _ h3 k3, own_dig_or _ _ _ _ h4 k4, own_dig_or _ _ _ _ h5 k5, own_dig_or _ _ _ _ h6 k6]
theorem own_n8_xor {a0 a1 a2 a3 a4 a5 a6 a7 b0 b1 b2 b3 b4 b5 b6 b7 : Nat} (ha : a0 < 256 ∧ a1 < 256 ∧ a2 < 256 ∧ a3 < 256 ∧ a4 < 256 ∧ a5 < 256 ∧ a6 < 256 ∧ a7 < 256) (hb : b0 < 256 ∧ b1 < 256 ∧ b2 < 256 ∧ b3 < 256 ∧ b4 < 256 ∧ b5 < 256 ∧ b6 < 256 ∧ b7 < 256) :
    own_n8 a0 a1 a2 a3 a4 a5 a6 a7 ^^^ own_n8 b0 b1 b2 b3 b4 b5 b6 b7 = own_n8 (a0 ^^^ b0) (a1 ^^^ b1) (a2 ^^^ b2) (a3 ^^^ b3) (a4 ^^^ b4) (a5 ^^^ b5) (a6 ^^^ b6) (a7 ^^^ b7) := by
  obtain ⟨h0, h1, h2, h3, h4, h5, h6, h7⟩ := ha; obtain ⟨k0, k1, k2, k3, k4, k5, k6, k7⟩ := hb
  unfold own_n8
  rw [own_dig_xor _ _ _ _ h0 k0, own_dig_xor _ _ _ _ h1 k1, own_dig_xor _ _ _ _ h2 k2, own_dig_xor _ _ _ _ h3 k3, own_dig_xor _ _ _ _ h4 k4, own_dig_xor _ _ _ _ h5 k5, own_dig_xor _ _ _ _ h6 k6]
/-- the byte s / 8 of the word -/
theorem own_sh (q : Int64) (y : Int32) (s : Nat) (hs : s < 64) (hy : (y &&& 63).toInt64.toUInt64.toNat = s) : ((own_ushrL q y) &&& (255 : Int64)).toInt32.toInt = ((q.toBitVec.toNat / 2 ^ s % 256 : Nat) : Int) := by
  have e1 : ((own_ushrL q y) &&& (255 : Int64)).toInt32.toBitVec.toNat = q.toBitVec.toNat / 2 ^ s % 256 := by
    unfold own_ushrL
    rw [Int64.toBitVec_toInt32, BitVec.signExtend_eq_setWidth_of_le _ (by decide), BitVec.toNat_setWidth, Int64.toBitVec_and, BitVec.toNat_and]
    have e2 : ((q.toUInt64 >>> (y &&& 63).toInt64.toUInt64).toInt64).toBitVec.toNat = q.toBitVec.toNat / 2 ^ s := by
      show (q.toUInt64 >>> (y &&& 63).toInt64.toUInt64).toNat = _
      rw [UInt64.toNat_shiftRight, hy, Nat.mod_eq_of_lt hs, Nat.shiftRight_eq_div_pow]; rfl
    rw [e2]
    have e3 : (255 : Int64).toBitVec.toNat = 2 ^ 8 - 1 := by decide
    rw [e3, Nat.and_two_pow_sub_one_eq_mod]
    have : q.toBitVec.toNat / 2 ^ s % 2 ^ 8 < 2 ^ 8 := Nat.mod_lt _ (by decide)
    omega
  show ((own_ushrL q y) &&& (255 : Int64)).toInt32.toBitVec.toInt = _
  rw [BitVec.toInt_eq_toNat_of_lt (by rw [e1]; omega), e1]

theorem own_n8_of (W : Nat) (h : W < 2 ^ 64) : W = own_n8 (W % 256) (W / 2 ^ 8 % 256) (W / 2 ^ 16 % 256) (W / 2 ^ 24 % 256) (W / 2 ^ 32 % 256) (W / 2 ^ 40 % 256) (W / 2 ^ 48 % 256) (W / 2 ^ 56 % 256) := by
  unfold own_n8; omega
theorem own_and_lt {a b : Nat} (h : a < 256) : a &&& b < 256 := Nat.lt_of_le_of_lt Nat.and_le_left h
theorem own_or_lt {a b : Nat} (h : a < 256) (h' : b < 256) : a ||| b < 256 := Nat.or_lt_two_pow (n := 8) h h'
theorem own_xor_lt {a b : Nat} (h : a < 256) (h' : b < 256) : a ^^^ b < 256 := Nat.xor_lt_two_pow (n := 8) h h'
/-- a word whose byte k is set to 128 where the byte of the word is at most a -/
theorem own_atmost (W a : Nat) (h : W < 2 ^ 64) (ha : a < 128) :
    ((((((W &&& 9187201950435737471) + (127 - a) * 72340172838076673) ||| W) ^^^ 18446744073709551615) &&& 9259542123273814144)) =
    own_n8 (if W % 256 ≤ a then 128 else 0) (if W / 2 ^ 8 % 256 ≤ a then 128 else 0) (if W / 2 ^ 16 % 256 ≤ a then 128 else 0) (if W / 2 ^ 24 % 256 ≤ a then 128 else 0) (if W / 2 ^ 32 % 256 ≤ a then 128 else 0) (if W / 2 ^ 40 % 256 ≤ a then 128 else 0) (if W / 2 ^ 48 % 256 ≤ a then 128 else 0) (if W / 2 ^ 56 % 256 ≤ a then 128 else 0) := by
  have e := own_n8_of W h
  have m0 : W % 256 < 256 := Nat.mod_lt _ (by decide)
  have m1 : W / 2 ^ 8 % 256 < 256 := Nat.mod_lt _ (by decide)
  have m2 : W / 2 ^ 16 % 256 < 256 := Nat.mod_lt _ (by decide)
  have m3 : W / 2 ^ 24 % 256 < 256 := Nat.mod_lt _ (by decide)
  have m4 : W / 2 ^ 32 % 256 < 256 := Nat.mod_lt _ (by decide)
  have m5 : W / 2 ^ 40 % 256 < 256 := Nat.mod_lt _ (by decide)
  have m6 : W / 2 ^ 48 % 256 < 256 := Nat.mod_lt _ (by decide)
  have m7 : W / 2 ^ 56 % 256 < 256 := Nat.mod_lt _ (by decide)
  generalize W % 256 = b0 at *
  generalize W / 2 ^ 8 % 256 = b1 at *
  generalize W / 2 ^ 16 % 256 = b2 at *
  generalize W / 2 ^ 24 % 256 = b3 at *
  generalize W / 2 ^ 32 % 256 = b4 at *
  generalize W / 2 ^ 40 % 256 = b5 at *
  generalize W / 2 ^ 48 % 256 = b6 at *
  generalize W / 2 ^ 56 % 256 = b7 at *
  have c1 : (9187201950435737471 : Nat) = own_n8 127 127 127 127 127 127 127 127 := by decide
  have c2 : (18446744073709551615 : Nat) = own_n8 255 255 255 255 255 255 255 255 := by decide
  have c3 : (9259542123273814144 : Nat) = own_n8 128 128 128 128 128 128 128 128 := by decide
  have l7 : ∀ b : Nat, b &&& 127 < 128 := fun b => Nat.lt_of_le_of_lt Nat.and_le_right (by decide)
  have s1 : own_n8 (b0 &&& 127) (b1 &&& 127) (b2 &&& 127) (b3 &&& 127) (b4 &&& 127) (b5 &&& 127) (b6 &&& 127) (b7 &&& 127) + (127 - a) * 72340172838076673 = own_n8 ((b0 &&& 127) + (127 - a)) ((b1 &&& 127) + (127 - a)) ((b2 &&& 127) + (127 - a)) ((b3 &&& 127) + (127 - a)) ((b4 &&& 127) + (127 - a)) ((b5 &&& 127) + (127 - a)) ((b6 &&& 127) + (127 - a)) ((b7 &&& 127) + (127 - a)) := by
    unfold own_n8; omega
  have sl : ∀ b : Nat, (b &&& 127) + (127 - a) < 256 := fun b => by have := l7 b; omega
  rw [e, c1, own_n8_and ⟨m0, m1, m2, m3, m4, m5, m6, m7⟩ ⟨by decide, by decide, by decide, by decide, by decide, by decide, by decide, by decide⟩, s1,
    own_n8_or ⟨sl _, sl _, sl _, sl _, sl _, sl _, sl _, sl _⟩ ⟨m0, m1, m2, m3, m4, m5, m6, m7⟩, c2,
    own_n8_xor ⟨own_or_lt (sl _) m0, own_or_lt (sl _) m1, own_or_lt (sl _) m2, own_or_lt (sl _) m3, own_or_lt (sl _) m4, own_or_lt (sl _) m5, own_or_lt (sl _) m6, own_or_lt (sl _) m7⟩ ⟨by decide, by decide, by decide, by decide, by decide, by decide, by decide, by decide⟩, c3,
    own_n8_and ⟨own_xor_lt (own_or_lt (sl _) m0) (by decide), own_xor_lt (own_or_lt (sl _) m1) (by decide), own_xor_lt (own_or_lt (sl _) m2) (by decide), own_xor_lt (own_or_lt (sl _) m3) (by decide), own_xor_lt (own_or_lt (sl _) m4) (by decide), own_xor_lt (own_or_lt (sl _) m5) (by decide), own_xor_lt (own_or_lt (sl _) m6) (by decide), own_xor_lt (own_or_lt (sl _) m7) (by decide)⟩ ⟨by decide, by decide, by decide, by decide, by decide, by decide, by decide, by decide⟩]
  have k : ∀ b, b < 256 → (((b &&& 127) + (127 - a) ||| b) ^^^ 255) &&& 128 = if b ≤ a then 128 else 0 := fun b hb => by rw [Nat.xor_comm]; exact own_byte b hb a ha
  rw [k b0 m0, k b1 m1, k b2 m2, k b3 m3, k b4 m4, k b5 m5, k b6 m6, k b7 m7]
theorem pn_1 : plainName "com/example/rank60/rank60/files/WordsAtMostPinLaw" = true := by first | (simp [plainName, overriddenIn]; done) | decide +kernel
theorem ef_1 (m : MethodId) (q0 : Int64) (p1 : Int32) (p2 : Int32) : entryFrame m #[(.long q0), (.int p1), (.int p2)] 5 = mkF m 0 #[.val (.long q0), .second, .val (.int p1), .val (.int p2), .unset] [] := by first | (simp [entryFrame, mkF, argsToLocals, Value.category]; done) | rfl
theorem d1_0 : decode method_2_code 0 = .ok (.lload_n 0, 1) := by decide +kernel
theorem d1_1 : decode method_2_code 1 = .ok (.bipush 8, 2) := by decide +kernel
theorem d1_3 : decode method_2_code 3 = .ok (.iload_n 3, 1) := by decide +kernel
theorem d1_4 : decode method_2_code 4 = .ok (.imul, 1) := by decide +kernel
theorem d1_5 : decode method_2_code 5 = .ok (.lushr, 1) := by decide +kernel
theorem d1_6 : decode method_2_code 6 = .ok (.ldc2_w 7, 3) := by decide +kernel
theorem d1_9 : decode method_2_code 9 = .ok (.land, 1) := by decide +kernel
theorem d1_10 : decode method_2_code 10 = .ok (.l2i, 1) := by decide +kernel
theorem d1_11 : decode method_2_code 11 = .ok (.istore 4, 2) := by decide +kernel
abbrev own_loc1 (q0 : Int64) (p1 : Int32) (p2 : Int32) : Array Slot := #[.val (.long q0), .second, .val (.int p1), .val (.int p2), .val (.int (((own_ushrL q0 ((8 : Int32) * p2)) &&& (255 : Int64)).toInt32))]
theorem d1_13 : decode method_2_code 13 = .ok (.iload 4, 2) := by decide +kernel
theorem d1_15 : decode method_2_code 15 = .ok (.iload_n 2, 1) := by decide +kernel
theorem d1_16 : decode method_2_code 16 = .ok (.if_icmp .gt 12, 3) := by decide +kernel
theorem d1_28 : decode method_2_code 28 = .ok (.lconst 0, 1) := by decide +kernel
theorem d1_19 : decode method_2_code 19 = .ok (.ldc2_w 9, 3) := by decide +kernel
theorem d1_22 : decode method_2_code 22 = .ok (.bipush 8, 2) := by decide +kernel
theorem d1_24 : decode method_2_code 24 = .ok (.iload_n 3, 1) := by decide +kernel
theorem d1_25 : decode method_2_code 25 = .ok (.imul, 1) := by decide +kernel
theorem d1_26 : decode method_2_code 26 = .ok (.lshl, 1) := by decide +kernel
def own_f1 (q0 : Int64) (p1 : Int32) (p2 : Int32) : Int64 := (if p1 < (((own_ushrL q0 ((8 : Int32) * p2)) &&& (255 : Int64)).toInt32) then (0 : Int64) else ((128 : Int64) <<< (((8 : Int32) * p2) &&& 63).toInt64))
def Q1 (Z : State) (q0 : Int64) (p1 : Int32) (p2 : Int32) (h0 : Heap) (n0 : Nat) (v : Option Value) (h : Heap) (L : List Loc) : Prop := v = some (.long (own_f1 q0 p1 p2)) ∧ Fr n0 L ∧ h = h0
theorem d1_29 : decode method_2_code 29 = .ok (.lreturn, 1) := by decide +kernel
theorem d1_27 : decode method_2_code 27 = .ok (.lreturn, 1) := by decide +kernel
set_option maxRecDepth 65536 in
set_option maxHeartbeats 40000000 in
theorem rm1 (l : Launch) (Z : State) (ag : Array Value) (hw : ∀ d ∈ tables_1, d.before ag Z = true) (ws : List Jvm.Cond) (q0 : Int64) (p1 : Int32) (p2 : Int32) (h0 : Heap) (n0 : Nat) (Z0 : n0 ≤ h0.size) :
    MetFree l (⟨"com/example/rank60/rank60/files/WordsAtMostPinLaw", "expectedByte", "(JII)J"⟩ : MethodName) (head1 (Jvm.Cond.code (⟨"com/example/rank60/rank60/files/WordsAtMostPinLaw", "expectedByte", "(JII)J"⟩ : MethodName) method_2_code 5 (some .long) :: ws) ({ frames := 0, cells := 0, slots := 0, locals := 0 } : Room)) (fun a U => a = #[(.long q0), (.int p1), (.int p2)] ∧ Z.Warmed39 U.vm ∧ U.heap = h0) (fun _ _ _ _ _ => True) (fun _ U o U' => ∃ v L, o = .returned v ∧ Q1 Z q0 p1 p2 h0 n0 v U'.heap L ∧ FrameEnd U o U' L ({ frames := 0, cells := 0, slots := 0, locals := 0 } : Room).cells ({ frames := 0, cells := 0, slots := 0, locals := 0 } : Room).slots) := by
  refine MetFree.of_bodySF (plainFor_of_name pn_1) hisR ?_
  intro p e s m args below meth c s₁ Bd hml0 hP hK
  obtain ⟨rfl, hZ, hh⟩ := hP
  have hx := Bd.exec
  have hby := Bd.bytes
  have hml : c.maxLocals = 5 := hml0
  have hown : s.vm.findClass "com/example/rank60/rank60/files/WordsAtMostPinLaw" = some m.cls := findClass_of_methodNamed Bd.named
  have hnm := (name_of_methodNamed Bd.named Bd.method).1
  have X0 : Stand p l e ({ frames := 0, cells := 0, slots := 0, locals := 0 } : Room) s m #[(.long q0), (.int p1), (.int p2)] below meth c s₁ [] 0 0 := Stand.of_body Bd
  have e0 : s₁.heap = h0 := by rw [← hh, Bd.state]; rfl
  have N0 := Fr.nil n0
  have pre0 : ∀ t, Steps p.tables e below (s₁.setTop (mkF m 0 #[.val (.long q0), .second, .val (.int p1), .val (.int p2), .unset] [])) t → Steps p.tables e below (s₁.setTop (entryFrame m #[(.long q0), (.int p1), (.int p2)] 5)) t := fun t k => castTop (ef_1 m q0 p1 p2) k
  obtain ⟨fs, hr, hrun, hended, hW, hsame⟩ := X0.leave (v := some (.long (own_f1 q0 p1 p2))) (fun h => by rw [Bd.returns] at h; cases h)
  refine ⟨_, _, pre0 _ ?_, hrun, hended, _, _, rfl, ?_, ⟨_, rfl⟩, hW, hsame.mono (by decide) (by decide)⟩
  · show own_S p e below s₁ (mkF m 0 #[.val (.long q0), .second, .val (.int p1), .val (.int p2), .unset] []) _
    refine XS.lloadN X0.here hx rfl (hb hby d1_0) rfl ?_
    show own_S p e below s₁ (mkF m 1 #[.val (.long q0), .second, .val (.int p1), .val (.int p2), .unset] [(.long q0)]) _
    refine XS.bipush X0.here hx rfl (hb hby d1_1) ?_
    show own_S p e below s₁ (mkF m 3 #[.val (.long q0), .second, .val (.int p1), .val (.int p2), .unset] [.int 8, (.long q0)]) _
    refine XS.iloadN X0.here hx rfl (hb hby d1_3) rfl ?_
    show own_S p e below s₁ (mkF m 4 #[.val (.long q0), .second, .val (.int p1), .val (.int p2), .unset] [(.int p2), .int 8, (.long q0)]) _
    refine XS.imul X0.here hx rfl (hb hby d1_4) rfl ?_
    show own_S p e below s₁ (mkF m 5 #[.val (.long q0), .second, .val (.int p1), .val (.int p2), .unset] [(.int ((8 : Int32) * p2)), (.long q0)]) _
    refine XS.lushr X0.here hx rfl (hb hby d1_5) rfl ?_
    show own_S p e below s₁ (mkF m 6 #[.val (.long q0), .second, .val (.int p1), .val (.int p2), .unset] [(.long (own_ushrL q0 ((8 : Int32) * p2)))]) _
    refine X0.ldc2Long hx hown (mvT hZ (hw _ (List.mem_of_getElem? (i := 4) rfl))) (g := (mkF m 6 #[.val (.long q0), .second, .val (.int p1), .val (.int p2), .unset] [(.long (own_ushrL q0 ((8 : Int32) * p2)))])) rfl (hb hby d1_6) _ ?_
    show own_S p e below s₁ (mkF m 9 #[.val (.long q0), .second, .val (.int p1), .val (.int p2), .unset] [.long 255, (.long (own_ushrL q0 ((8 : Int32) * p2)))]) _
    refine XS.land X0.here hx rfl (hb hby d1_9) rfl ?_
    show own_S p e below s₁ (mkF m 10 #[.val (.long q0), .second, .val (.int p1), .val (.int p2), .unset] [(.long ((own_ushrL q0 ((8 : Int32) * p2)) &&& (255 : Int64)))]) _
    refine XS.l2i X0.here hx rfl (hb hby d1_10) rfl ?_
    show own_S p e below s₁ (mkF m 11 #[.val (.long q0), .second, .val (.int p1), .val (.int p2), .unset] [(.int (((own_ushrL q0 ((8 : Int32) * p2)) &&& (255 : Int64)).toInt32))]) _
    refine XS.istore X0.here hx rfl (hb hby d1_11) rfl (l' := (own_loc1 q0 p1 p2)) rfl ?_
    show own_S p e below s₁ (mkF m 13 (own_loc1 q0 p1 p2) []) _
    refine XS.iload X0.here hx rfl (hb hby d1_13) rfl ?_
    show own_S p e below s₁ (mkF m 15 (own_loc1 q0 p1 p2) [(.int (((own_ushrL q0 ((8 : Int32) * p2)) &&& (255 : Int64)).toInt32))]) _
    refine XS.iloadN X0.here hx rfl (hb hby d1_15) rfl ?_
    by_cases hc1 : p1 < (((own_ushrL q0 ((8 : Int32) * p2)) &&& (255 : Int64)).toInt32)
    · show own_S p e below s₁ (mkF m 16 (own_loc1 q0 p1 p2) [(.int p1), (.int (((own_ushrL q0 ((8 : Int32) * p2)) &&& (255 : Int64)).toInt32))]) _
      refine XS.icmpYes X0.here hx rfl (pc0 := 16) (pc' := 28) rfl (hb hby d1_16) rfl (tlt hc1).2.2.1 (by decide) (by decide) ?_
      show own_S p e below s₁ (mkF m 28 (own_loc1 q0 p1 p2) []) _
      refine XS.lconst X0.here hx rfl (hb hby d1_28) ?_
      show own_S p e below s₁ (mkF m 29 (own_loc1 q0 p1 p2) [.long 0]) _
      have q : (own_f1 q0 p1 p2) = (0 : Int64) := by unfold own_f1; rw [if_pos hc1]
      have hr := own_cast (P := fun z => ∀ (f : JFrame) (acts : List Action), f.method = m → f.locked = none → f.entered = [] → (doReturn e (s₁.setTop f) acts (some (.long z))).1 = s₁.setFrames fs) q hr
      exact Jvm.RoadKit.retOut X0 hx Bd.returns rfl (Or.inr (Or.inl ⟨rfl, rfl, _, rfl⟩)) (hb hby d1_29) hr
    · show own_S p e below s₁ (mkF m 16 (own_loc1 q0 p1 p2) [(.int p1), (.int (((own_ushrL q0 ((8 : Int32) * p2)) &&& (255 : Int64)).toInt32))]) _
      refine XS.icmpNo X0.here hx rfl (hb hby d1_16) rfl (flt hc1).2.2.1 ?_
      show own_S p e below s₁ (mkF m 19 (own_loc1 q0 p1 p2) []) _
      refine X0.ldc2Long hx hown (mvT hZ (hw _ (List.mem_of_getElem? (i := 5) rfl))) (g := (mkF m 19 (own_loc1 q0 p1 p2) [])) rfl (hb hby d1_19) _ ?_
      show own_S p e below s₁ (mkF m 22 (own_loc1 q0 p1 p2) [.long 128]) _
      refine XS.bipush X0.here hx rfl (hb hby d1_22) ?_
      show own_S p e below s₁ (mkF m 24 (own_loc1 q0 p1 p2) [.int 8, .long 128]) _
      refine XS.iloadN X0.here hx rfl (hb hby d1_24) rfl ?_
      show own_S p e below s₁ (mkF m 25 (own_loc1 q0 p1 p2) [(.int p2), .int 8, .long 128]) _
      refine XS.imul X0.here hx rfl (hb hby d1_25) rfl ?_
      show own_S p e below s₁ (mkF m 26 (own_loc1 q0 p1 p2) [(.int ((8 : Int32) * p2)), .long 128]) _
      refine XS.lshl X0.here hx rfl (hb hby d1_26) rfl ?_
      show own_S p e below s₁ (mkF m 27 (own_loc1 q0 p1 p2) [(.long ((128 : Int64) <<< (((8 : Int32) * p2) &&& 63).toInt64))]) _
      have q : (own_f1 q0 p1 p2) = ((128 : Int64) <<< (((8 : Int32) * p2) &&& 63).toInt64) := by unfold own_f1; rw [if_neg hc1]
      have hr := own_cast (P := fun z => ∀ (f : JFrame) (acts : List Action), f.method = m → f.locked = none → f.entered = [] → (doReturn e (s₁.setTop f) acts (some (.long z))).1 = s₁.setFrames fs) q hr
      exact Jvm.RoadKit.retOut X0 hx Bd.returns rfl (Or.inr (Or.inl ⟨rfl, rfl, _, rfl⟩)) (hb hby d1_27) hr
  · show Q1 Z q0 p1 p2 h0 n0 _ s₁.heap _
    rw [e0]
    exact ⟨rfl, N0, rfl⟩
theorem pn_0 : plainName "com/example/rank60/rank60/files/Words" = true := by first | (simp [plainName, overriddenIn]; done) | decide +kernel
theorem ef_2 (m : MethodId) (q0 : Int64) (p1 : Int32) : entryFrame m #[(.long q0), (.int p1)] 5 = mkF m 0 #[.val (.long q0), .second, .val (.int p1), .unset, .unset] [] := by first | (simp [entryFrame, mkF, argsToLocals, Value.category]; done) | rfl
theorem d2_0 : decode prog_85_method_6_code 0 = .ok (.lload_n 0, 1) := by decide +kernel
theorem d2_1 : decode prog_85_method_6_code 1 = .ok (.ldc2_w 30, 3) := by decide +kernel
theorem d2_4 : decode prog_85_method_6_code 4 = .ok (.land, 1) := by decide +kernel
theorem d2_5 : decode prog_85_method_6_code 5 = .ok (.bipush 127, 2) := by decide +kernel
theorem d2_7 : decode prog_85_method_6_code 7 = .ok (.iload_n 2, 1) := by decide +kernel
theorem d2_8 : decode prog_85_method_6_code 8 = .ok (.isub, 1) := by decide +kernel
theorem d2_9 : decode prog_85_method_6_code 9 = .ok (.i2l, 1) := by decide +kernel
theorem d2_10 : decode prog_85_method_6_code 10 = .ok (.ldc2_w 24, 3) := by decide +kernel
theorem d2_13 : decode prog_85_method_6_code 13 = .ok (.lmul, 1) := by decide +kernel
theorem d2_14 : decode prog_85_method_6_code 14 = .ok (.ladd, 1) := by decide +kernel
theorem d2_15 : decode prog_85_method_6_code 15 = .ok (.lload_n 0, 1) := by decide +kernel
theorem d2_16 : decode prog_85_method_6_code 16 = .ok (.lor, 1) := by decide +kernel
theorem d2_17 : decode prog_85_method_6_code 17 = .ok (.lstore_n 3, 1) := by decide +kernel
abbrev own_loc2 (q0 : Int64) (p1 : Int32) : Array Slot := #[.val (.long q0), .second, .val (.int p1), .val (.long (((q0 &&& (9187201950435737471 : Int64)) + ((((127 : Int32) - p1).toInt64) * (72340172838076673 : Int64))) ||| q0)), .second]
theorem d2_18 : decode prog_85_method_6_code 18 = .ok (.lload_n 3, 1) := by decide +kernel
theorem d2_19 : decode prog_85_method_6_code 19 = .ok (.ldc2_w 32, 3) := by decide +kernel
theorem d2_22 : decode prog_85_method_6_code 22 = .ok (.lxor, 1) := by decide +kernel
theorem d2_23 : decode prog_85_method_6_code 23 = .ok (.ldc2_w 34, 3) := by decide +kernel
theorem d2_26 : decode prog_85_method_6_code 26 = .ok (.land, 1) := by decide +kernel
def own_f2 (q0 : Int64) (p1 : Int32) : Int64 := (((((q0 &&& (9187201950435737471 : Int64)) + ((((127 : Int32) - p1).toInt64) * (72340172838076673 : Int64))) ||| q0) ^^^ (-1 : Int64)) &&& (-9187201950435737472 : Int64))
def Q2 (Z : State) (q0 : Int64) (p1 : Int32) (h0 : Heap) (n0 : Nat) (v : Option Value) (h : Heap) (L : List Loc) : Prop := v = some (.long (own_f2 q0 p1)) ∧ Fr n0 L ∧ h = h0
theorem d2_27 : decode prog_85_method_6_code 27 = .ok (.lreturn, 1) := by decide +kernel
set_option maxRecDepth 65536 in
set_option maxHeartbeats 40000000 in
theorem rm2 (l : Launch) (Z : State) (ag : Array Value) (hw : ∀ d ∈ tables_1, d.before ag Z = true) (ws : List Jvm.Cond) (q0 : Int64) (p1 : Int32) (h0 : Heap) (n0 : Nat) (Z0 : n0 ≤ h0.size) :
    MetFree l (⟨"com/example/rank60/rank60/files/Words", "atMost", "(JC)J"⟩ : MethodName) (head1 (Jvm.Cond.code (⟨"com/example/rank60/rank60/files/Words", "atMost", "(JC)J"⟩ : MethodName) prog_85_method_6_code 5 (some .long) :: ws) ({ frames := 0, cells := 0, slots := 0, locals := 0 } : Room)) (fun a U => a = #[(.long q0), (.int p1)] ∧ Z.Warmed39 U.vm ∧ U.heap = h0) (fun _ _ _ _ _ => True) (fun _ U o U' => ∃ v L, o = .returned v ∧ Q2 Z q0 p1 h0 n0 v U'.heap L ∧ FrameEnd U o U' L ({ frames := 0, cells := 0, slots := 0, locals := 0 } : Room).cells ({ frames := 0, cells := 0, slots := 0, locals := 0 } : Room).slots) := by
  refine MetFree.of_bodySF (plainFor_of_name pn_0) hisR ?_
  intro p e s m args below meth c s₁ Bd hml0 hP hK
  obtain ⟨rfl, hZ, hh⟩ := hP
  have hx := Bd.exec
  have hby := Bd.bytes
  have hml : c.maxLocals = 5 := hml0
  have hown : s.vm.findClass "com/example/rank60/rank60/files/Words" = some m.cls := findClass_of_methodNamed Bd.named
  have hnm := (name_of_methodNamed Bd.named Bd.method).1
  have X0 : Stand p l e ({ frames := 0, cells := 0, slots := 0, locals := 0 } : Room) s m #[(.long q0), (.int p1)] below meth c s₁ [] 0 0 := Stand.of_body Bd
  have e0 : s₁.heap = h0 := by rw [← hh, Bd.state]; rfl
  have N0 := Fr.nil n0
  have pre0 : ∀ t, Steps p.tables e below (s₁.setTop (mkF m 0 #[.val (.long q0), .second, .val (.int p1), .unset, .unset] [])) t → Steps p.tables e below (s₁.setTop (entryFrame m #[(.long q0), (.int p1)] 5)) t := fun t k => castTop (ef_2 m q0 p1) k
  obtain ⟨fs, hr, hrun, hended, hW, hsame⟩ := X0.leave (v := some (.long (own_f2 q0 p1))) (fun h => by rw [Bd.returns] at h; cases h)
  refine ⟨_, _, pre0 _ ?_, hrun, hended, _, _, rfl, ?_, ⟨_, rfl⟩, hW, hsame.mono (by decide) (by decide)⟩
  · show own_S p e below s₁ (mkF m 0 #[.val (.long q0), .second, .val (.int p1), .unset, .unset] []) _
    refine XS.lloadN X0.here hx rfl (hb hby d2_0) rfl ?_
    show own_S p e below s₁ (mkF m 1 #[.val (.long q0), .second, .val (.int p1), .unset, .unset] [(.long q0)]) _
    refine X0.ldc2Long hx hown (mvT hZ (hw _ (List.mem_of_getElem? (i := 10) rfl))) (g := (mkF m 1 #[.val (.long q0), .second, .val (.int p1), .unset, .unset] [(.long q0)])) rfl (hb hby d2_1) _ ?_
    show own_S p e below s₁ (mkF m 4 #[.val (.long q0), .second, .val (.int p1), .unset, .unset] [.long 9187201950435737471, (.long q0)]) _
    refine XS.land X0.here hx rfl (hb hby d2_4) rfl ?_
    show own_S p e below s₁ (mkF m 5 #[.val (.long q0), .second, .val (.int p1), .unset, .unset] [(.long (q0 &&& (9187201950435737471 : Int64)))]) _
    refine XS.bipush X0.here hx rfl (hb hby d2_5) ?_
    show own_S p e below s₁ (mkF m 7 #[.val (.long q0), .second, .val (.int p1), .unset, .unset] [.int 127, (.long (q0 &&& (9187201950435737471 : Int64)))]) _
    refine XS.iloadN X0.here hx rfl (hb hby d2_7) rfl ?_
    show own_S p e below s₁ (mkF m 8 #[.val (.long q0), .second, .val (.int p1), .unset, .unset] [(.int p1), .int 127, (.long (q0 &&& (9187201950435737471 : Int64)))]) _
    refine XS.isub X0.here hx rfl (hb hby d2_8) rfl ?_
    show own_S p e below s₁ (mkF m 9 #[.val (.long q0), .second, .val (.int p1), .unset, .unset] [(.int ((127 : Int32) - p1)), (.long (q0 &&& (9187201950435737471 : Int64)))]) _
    refine XS.i2l X0.here hx rfl (hb hby d2_9) rfl ?_
    show own_S p e below s₁ (mkF m 10 #[.val (.long q0), .second, .val (.int p1), .unset, .unset] [(.long (((127 : Int32) - p1).toInt64)), (.long (q0 &&& (9187201950435737471 : Int64)))]) _
    refine X0.ldc2Long hx hown (mvT hZ (hw _ (List.mem_of_getElem? (i := 11) rfl))) (g := (mkF m 10 #[.val (.long q0), .second, .val (.int p1), .unset, .unset] [(.long (((127 : Int32) - p1).toInt64)), (.long (q0 &&& (9187201950435737471 : Int64)))])) rfl (hb hby d2_10) _ ?_
    show own_S p e below s₁ (mkF m 13 #[.val (.long q0), .second, .val (.int p1), .unset, .unset] [.long 72340172838076673, (.long (((127 : Int32) - p1).toInt64)), (.long (q0 &&& (9187201950435737471 : Int64)))]) _
    refine XS.lmul X0.here hx rfl (hb hby d2_13) rfl ?_
    show own_S p e below s₁ (mkF m 14 #[.val (.long q0), .second, .val (.int p1), .unset, .unset] [(.long ((((127 : Int32) - p1).toInt64) * (72340172838076673 : Int64))), (.long (q0 &&& (9187201950435737471 : Int64)))]) _
    refine XS.ladd X0.here hx rfl (hb hby d2_14) rfl ?_
    show own_S p e below s₁ (mkF m 15 #[.val (.long q0), .second, .val (.int p1), .unset, .unset] [(.long ((q0 &&& (9187201950435737471 : Int64)) + ((((127 : Int32) - p1).toInt64) * (72340172838076673 : Int64))))]) _
    refine XS.lloadN X0.here hx rfl (hb hby d2_15) rfl ?_
    show own_S p e below s₁ (mkF m 16 #[.val (.long q0), .second, .val (.int p1), .unset, .unset] [(.long q0), (.long ((q0 &&& (9187201950435737471 : Int64)) + ((((127 : Int32) - p1).toInt64) * (72340172838076673 : Int64))))]) _
    refine XS.lor X0.here hx rfl (hb hby d2_16) rfl ?_
    show own_S p e below s₁ (mkF m 17 #[.val (.long q0), .second, .val (.int p1), .unset, .unset] [(.long (((q0 &&& (9187201950435737471 : Int64)) + ((((127 : Int32) - p1).toInt64) * (72340172838076673 : Int64))) ||| q0))]) _
    refine XS.lstoreN X0.here hx rfl (hb hby d2_17) rfl (l' := (own_loc2 q0 p1)) rfl ?_
    show own_S p e below s₁ (mkF m 18 (own_loc2 q0 p1) []) _
    refine XS.lloadN X0.here hx rfl (hb hby d2_18) rfl ?_
    show own_S p e below s₁ (mkF m 19 (own_loc2 q0 p1) [(.long (((q0 &&& (9187201950435737471 : Int64)) + ((((127 : Int32) - p1).toInt64) * (72340172838076673 : Int64))) ||| q0))]) _
    refine X0.ldc2Long hx hown (mvT hZ (hw _ (List.mem_of_getElem? (i := 12) rfl))) (g := (mkF m 19 (own_loc2 q0 p1) [(.long (((q0 &&& (9187201950435737471 : Int64)) + ((((127 : Int32) - p1).toInt64) * (72340172838076673 : Int64))) ||| q0))])) rfl (hb hby d2_19) _ ?_
    show own_S p e below s₁ (mkF m 22 (own_loc2 q0 p1) [.long (-1), (.long (((q0 &&& (9187201950435737471 : Int64)) + ((((127 : Int32) - p1).toInt64) * (72340172838076673 : Int64))) ||| q0))]) _
    refine XS.lxor X0.here hx rfl (hb hby d2_22) rfl ?_
    show own_S p e below s₁ (mkF m 23 (own_loc2 q0 p1) [(.long ((((q0 &&& (9187201950435737471 : Int64)) + ((((127 : Int32) - p1).toInt64) * (72340172838076673 : Int64))) ||| q0) ^^^ (-1 : Int64)))]) _
    refine X0.ldc2Long hx hown (mvT hZ (hw _ (List.mem_of_getElem? (i := 13) rfl))) (g := (mkF m 23 (own_loc2 q0 p1) [(.long ((((q0 &&& (9187201950435737471 : Int64)) + ((((127 : Int32) - p1).toInt64) * (72340172838076673 : Int64))) ||| q0) ^^^ (-1 : Int64)))])) rfl (hb hby d2_23) _ ?_
    show own_S p e below s₁ (mkF m 26 (own_loc2 q0 p1) [.long (-9187201950435737472), (.long ((((q0 &&& (9187201950435737471 : Int64)) + ((((127 : Int32) - p1).toInt64) * (72340172838076673 : Int64))) ||| q0) ^^^ (-1 : Int64)))]) _
    refine XS.land X0.here hx rfl (hb hby d2_26) rfl ?_
    show own_S p e below s₁ (mkF m 27 (own_loc2 q0 p1) [(.long (((((q0 &&& (9187201950435737471 : Int64)) + ((((127 : Int32) - p1).toInt64) * (72340172838076673 : Int64))) ||| q0) ^^^ (-1 : Int64)) &&& (-9187201950435737472 : Int64)))]) _
    have q : (own_f2 q0 p1) = (((((q0 &&& (9187201950435737471 : Int64)) + ((((127 : Int32) - p1).toInt64) * (72340172838076673 : Int64))) ||| q0) ^^^ (-1 : Int64)) &&& (-9187201950435737472 : Int64)) := rfl
    have hr := own_cast (P := fun z => ∀ (f : JFrame) (acts : List Action), f.method = m → f.locked = none → f.entered = [] → (doReturn e (s₁.setTop f) acts (some (.long z))).1 = s₁.setFrames fs) q hr
    exact Jvm.RoadKit.retOut X0 hx Bd.returns rfl (Or.inr (Or.inl ⟨rfl, rfl, _, rfl⟩)) (hb hby d2_27) hr
  · show Q2 Z q0 p1 h0 n0 _ s₁.heap _
    rw [e0]
    exact ⟨rfl, N0, rfl⟩
theorem own_e1 (q : Int64) (a k : Int32) (A s : Nat) (hA : a.toInt = (A : Int)) (hs : s < 57) (hy : (((8 : Int32) * k) &&& 63).toInt64.toUInt64.toNat = s) (hz : ((128 : Int64) <<< (((8 : Int32) * k) &&& 63).toInt64).toBitVec.toNat = 128 * 2 ^ s) :
    (own_f1 q a k).toBitVec.toNat = if q.toBitVec.toNat / 2 ^ s % 256 ≤ A then 128 * 2 ^ s else 0 := by
  have h := own_sh q ((8 : Int32) * k) s (by omega) hy
  unfold own_f1
  by_cases c : a < ((own_ushrL q ((8 : Int32) * k)) &&& (255 : Int64)).toInt32
  · rw [if_pos c]
    rw [Int32.lt_iff_toInt_lt, h, hA] at c
    rw [if_neg (by omega)]; rfl
  · rw [if_neg c]
    rw [Int32.lt_iff_toInt_lt, h, hA] at c
    rw [if_pos (by omega), hz]
theorem own_e2 (q : Int64) (a : Int32) (A : Nat) (hA : a.toInt = (A : Int)) (h : A < 128) :
    (own_f2 q a).toBitVec.toNat = (((((q.toBitVec.toNat &&& 9187201950435737471) + (127 - A) * 72340172838076673) ||| q.toBitVec.toNat) ^^^ 18446744073709551615) &&& 9259542123273814144) := by
  have c1 : (9187201950435737471 : Int64).toBitVec.toNat = 9187201950435737471 := by decide
  have c2 : (-1 : Int64).toBitVec.toNat = 18446744073709551615 := by decide
  have c3 : (-9187201950435737472 : Int64).toBitVec.toNat = 9259542123273814144 := by decide
  have c4 : (72340172838076673 : Int64).toBitVec.toNat = 72340172838076673 := by decide
  have d1 : ((127 : Int32) - a).toInt = 127 - A := by
    rw [Int32.toInt_sub, hA]; have : (127 : Int32).toInt = 127 := by decide
    rw [this]; apply Int.bmod_eq_of_le <;> omega
  have d2 : ((127 : Int32) - a).toInt64.toBitVec.toNat = 127 - A := by
    have : ((127 : Int32) - a).toInt64.toInt = 127 - A := by rw [Int32.toInt_toInt64, d1]
    have e : ((127 : Int32) - a).toInt64.toBitVec.toInt = ((127 - A : Nat) : Int) := by rw [Int.ofNat_sub (by omega)]; exact this
    rw [BitVec.toInt_eq_toNat_cond] at e
    split at e <;> omega
  have m : q.toBitVec.toNat &&& 9187201950435737471 ≤ 9187201950435737471 := Nat.and_le_right
  unfold own_f2
  rw [Int64.toBitVec_and, BitVec.toNat_and, Int64.toBitVec_xor, BitVec.toNat_xor, Int64.toBitVec_or, BitVec.toNat_or, Int64.toBitVec_add, BitVec.toNat_add, Int64.toBitVec_mul, BitVec.toNat_mul, Int64.toBitVec_and, BitVec.toNat_and, c1, c2, c3, c4, d2]
  have k : (127 - A) * 72340172838076673 ≤ 127 * 72340172838076673 := Nat.mul_le_mul_right _ (by omega)
  rw [Nat.mod_eq_of_lt (a := (127 - A) * 72340172838076673) (by omega), Nat.mod_eq_of_lt (by omega)]
theorem own_key (q : Int64) (a : Int32) (h0 : 0 ≤ a.toInt) (h1 : a.toInt < 128) :
    own_f2 q a = ((((((((own_f1 q a (0 : Int32)) ||| (own_f1 q a (1 : Int32))) ||| (own_f1 q a (2 : Int32))) ||| (own_f1 q a (3 : Int32))) ||| (own_f1 q a (4 : Int32))) ||| (own_f1 q a (5 : Int32))) ||| (own_f1 q a (6 : Int32))) ||| (own_f1 q a (7 : Int32))) := by
  obtain ⟨A, hA⟩ : ∃ A : Nat, a.toInt = (A : Int) := ⟨a.toInt.toNat, by omega⟩
  have hA' : A < 128 := by omega
  have hW : q.toBitVec.toNat < 2 ^ 64 := q.toBitVec.isLt
  apply Int64.toBitVec_inj.mp; apply BitVec.eq_of_toNat_eq
  rw [own_e2 q a A hA hA', own_atmost _ A hW hA']
  simp only [Int64.toBitVec_or, BitVec.toNat_or]
  rw [own_e1 q a 0 A 0 hA (by decide) (by decide) (by decide), own_e1 q a 1 A 8 hA (by decide) (by decide) (by decide), own_e1 q a 2 A 16 hA (by decide) (by decide) (by decide), own_e1 q a 3 A 24 hA (by decide) (by decide) (by decide),
    own_e1 q a 4 A 32 hA (by decide) (by decide) (by decide), own_e1 q a 5 A 40 hA (by decide) (by decide) (by decide), own_e1 q a 6 A 48 hA (by decide) (by decide) (by decide), own_e1 q a 7 A 56 hA (by decide) (by decide) (by decide)]
  generalize q.toBitVec.toNat = W
  have i : ∀ (P : Prop) [Decidable P], (if P then 128 else 0) < 256 := fun P _ => by split <;> decide
  have j0 : (if W / 2 ^ 0 % 256 ≤ A then 128 * 2 ^ 0 else 0) = own_n8 (if W % 256 ≤ A then 128 else 0) 0 0 0 0 0 0 0 := by rw [Nat.pow_zero, Nat.div_one]; split <;> decide
  have j1 : (if W / 2 ^ 8 % 256 ≤ A then 128 * 2 ^ 8 else 0) = own_n8 0 (if W / 2 ^ 8 % 256 ≤ A then 128 else 0) 0 0 0 0 0 0 := by split <;> decide
  have j2 : (if W / 2 ^ 16 % 256 ≤ A then 128 * 2 ^ 16 else 0) = own_n8 0 0 (if W / 2 ^ 16 % 256 ≤ A then 128 else 0) 0 0 0 0 0 := by split <;> decide
  have j3 : (if W / 2 ^ 24 % 256 ≤ A then 128 * 2 ^ 24 else 0) = own_n8 0 0 0 (if W / 2 ^ 24 % 256 ≤ A then 128 else 0) 0 0 0 0 := by split <;> decide
  have j4 : (if W / 2 ^ 32 % 256 ≤ A then 128 * 2 ^ 32 else 0) = own_n8 0 0 0 0 (if W / 2 ^ 32 % 256 ≤ A then 128 else 0) 0 0 0 := by split <;> decide
  have j5 : (if W / 2 ^ 40 % 256 ≤ A then 128 * 2 ^ 40 else 0) = own_n8 0 0 0 0 0 (if W / 2 ^ 40 % 256 ≤ A then 128 else 0) 0 0 := by split <;> decide
  have j6 : (if W / 2 ^ 48 % 256 ≤ A then 128 * 2 ^ 48 else 0) = own_n8 0 0 0 0 0 0 (if W / 2 ^ 48 % 256 ≤ A then 128 else 0) 0 := by split <;> decide
  have j7 : (if W / 2 ^ 56 % 256 ≤ A then 128 * 2 ^ 56 else 0) = own_n8 0 0 0 0 0 0 0 (if W / 2 ^ 56 % 256 ≤ A then 128 else 0) := by split <;> decide
  rw [j0, j1, j2, j3, j4, j5, j6, j7]
  have z : (0 : Nat) < 256 := by decide
  generalize hi0 : (if W % 256 ≤ A then 128 else 0) = t0
  generalize hi1 : (if W / 2 ^ 8 % 256 ≤ A then 128 else 0) = t1
  generalize hi2 : (if W / 2 ^ 16 % 256 ≤ A then 128 else 0) = t2
  generalize hi3 : (if W / 2 ^ 24 % 256 ≤ A then 128 else 0) = t3
  generalize hi4 : (if W / 2 ^ 32 % 256 ≤ A then 128 else 0) = t4
  generalize hi5 : (if W / 2 ^ 40 % 256 ≤ A then 128 else 0) = t5
  generalize hi6 : (if W / 2 ^ 48 % 256 ≤ A then 128 else 0) = t6
  generalize hi7 : (if W / 2 ^ 56 % 256 ≤ A then 128 else 0) = t7
  have u0 : t0 < 256 := hi0 ▸ i _
  have u1 : t1 < 256 := hi1 ▸ i _
  have u2 : t2 < 256 := hi2 ▸ i _
  have u3 : t3 < 256 := hi3 ▸ i _
  have u4 : t4 < 256 := hi4 ▸ i _
  have u5 : t5 < 256 := hi5 ▸ i _
  have u6 : t6 < 256 := hi6 ▸ i _
  have u7 : t7 < 256 := hi7 ▸ i _
  rw [own_n8_or ⟨u0, z, z, z, z, z, z, z⟩ ⟨z, u1, z, z, z, z, z, z⟩]; simp only [Nat.or_zero, Nat.zero_or]
  rw [own_n8_or ⟨u0, u1, z, z, z, z, z, z⟩ ⟨z, z, u2, z, z, z, z, z⟩]; simp only [Nat.or_zero, Nat.zero_or]
  rw [own_n8_or ⟨u0, u1, u2, z, z, z, z, z⟩ ⟨z, z, z, u3, z, z, z, z⟩]; simp only [Nat.or_zero, Nat.zero_or]
  rw [own_n8_or ⟨u0, u1, u2, u3, z, z, z, z⟩ ⟨z, z, z, z, u4, z, z, z⟩]; simp only [Nat.or_zero, Nat.zero_or]
  rw [own_n8_or ⟨u0, u1, u2, u3, u4, z, z, z⟩ ⟨z, z, z, z, z, u5, z, z⟩]; simp only [Nat.or_zero, Nat.zero_or]
  rw [own_n8_or ⟨u0, u1, u2, u3, u4, u5, z, z⟩ ⟨z, z, z, z, z, z, u6, z⟩]; simp only [Nat.or_zero, Nat.zero_or]
  rw [own_n8_or ⟨u0, u1, u2, u3, u4, u5, u6, z⟩ ⟨z, z, z, z, z, z, z, u7⟩]; simp only [Nat.or_zero, Nat.zero_or]
theorem own_char (a : Int32) (h0 : 0 ≤ a.toInt) (h1 : a.toInt < 128) : a.toUInt32.toUInt16.toUInt32.toInt32 = a := by
  apply Int32.toBitVec_inj.mp; apply BitVec.eq_of_toNat_eq
  have e : a.toBitVec.toInt = a.toInt := rfl
  rw [← e, BitVec.toInt_eq_toNat_cond] at h0 h1
  show a.toUInt32.toUInt16.toUInt32.toNat = a.toBitVec.toNat
  rw [UInt16.toNat_toUInt32, UInt32.toNat_toUInt16]
  show a.toBitVec.toNat % 2 ^ 16 = _
  split at h0 <;> split at h1 <;> omega
theorem ef_0 (m : MethodId) (q0 : Int64) (p1 : Int32) : entryFrame m #[(.long q0), (.int p1)] maxLocals = mkF m 0 #[.val (.long q0), .second, .val (.int p1), .unset, .unset, .unset, .unset] [] := by first | (simp [entryFrame, mkF, argsToLocals, Value.category, maxLocals]; done) | rfl
abbrev own_loc3 (q0 : Int64) (p1 : Int32) : Array Slot := #[.val (.long q0), .second, .val (.int p1), .val (.int (p1 &&& (127 : Int32))), .unset, .unset, .unset]
abbrev own_loc4 (q0 : Int64) (p1 : Int32) : Array Slot := #[.val (.long q0), .second, .val (.int p1), .val (.int (p1 &&& (127 : Int32))), .val (.int ((p1 &&& (127 : Int32)).toUInt32.toUInt16.toUInt32.toInt32)), .unset, .unset]
theorem pd_1 : parseMethodDescriptor "(JII)J" = some ⟨[.long, .int, .int], some .long⟩ := by decide +kernel
abbrev own_loc5 (q0 : Int64) (p1 : Int32) : Array Slot := #[.val (.long q0), .second, .val (.int p1), .val (.int (p1 &&& (127 : Int32))), .val (.int ((p1 &&& (127 : Int32)).toUInt32.toUInt16.toUInt32.toInt32)), .val (.long ((((((((own_f1 q0 (p1 &&& (127 : Int32)) (0 : Int32)) ||| (own_f1 q0 (p1 &&& (127 : Int32)) (1 : Int32))) ||| (own_f1 q0 (p1 &&& (127 : Int32)) (2 : Int32))) ||| (own_f1 q0 (p1 &&& (127 : Int32)) (3 : Int32))) ||| (own_f1 q0 (p1 &&& (127 : Int32)) (4 : Int32))) ||| (own_f1 q0 (p1 &&& (127 : Int32)) (5 : Int32))) ||| (own_f1 q0 (p1 &&& (127 : Int32)) (6 : Int32))) ||| (own_f1 q0 (p1 &&& (127 : Int32)) (7 : Int32)))), .second]
theorem pd_0 : parseMethodDescriptor "(JC)J" = some ⟨[.long, .char], some .long⟩ := by decide +kernel
def Q0 (n0 : Nat) (v : Option Value) (h : Heap) (L : List Loc) : Prop := v = some (.int 1) ∧ Fr n0 L
set_option maxRecDepth 65536 in
set_option maxHeartbeats 40000000 in
theorem rm0 (l : Launch) (Z : State) (ag : Array Value) (hw : ∀ d ∈ tables_1, d.before ag Z = true) (ws : List Jvm.Cond) (q0 : Int64) (p1 : Int32) (h0 : Heap) (n0 : Nat) (Z0 : n0 ≤ h0.size) :
    MetFree l x (head1 (Jvm.Cond.code x code maxLocals ret :: ws) room_1) (fun a U => a = #[(.long q0), (.int p1)] ∧ Z.Warmed39 U.vm ∧ U.heap = h0) (fun _ _ _ _ _ => True) (fun _ U o U' => ∃ v L, o = .returned v ∧ Q0 n0 v U'.heap L ∧ FrameEnd U o U' L 0 0) := by
  refine MetFree.of_bodySF (plainFor_of_name pn_1) hisR ?_
  intro p e s m args below meth c s₁ Bd hml0 hP hK
  obtain ⟨rfl, hZ, hh⟩ := hP
  have hx := Bd.exec
  have hby := Bd.bytes
  have hml : c.maxLocals = 7 := hml0
  have hown : s.vm.findClass "com/example/rank60/rank60/files/WordsAtMostPinLaw" = some m.cls := findClass_of_methodNamed Bd.named
  have hnm := (name_of_methodNamed Bd.named Bd.method).1
  have X0 : Stand p l e room_1 s m #[(.long q0), (.int p1)] below meth c s₁ [] 0 0 := Stand.of_body Bd
  have e0 : s₁.heap = h0 := by rw [← hh, Bd.state]; rfl
  have N0 := Fr.nil n0
  have pre0 : ∀ t, Steps p.tables e below (s₁.setTop (mkF m 0 #[.val (.long q0), .second, .val (.int p1), .unset, .unset, .unset, .unset] [])) t → Steps p.tables e below (s₁.setTop (entryFrame m #[(.long q0), (.int p1)] maxLocals)) t := fun t k => castTop (ef_0 m q0 p1) k
  have hA := c_mask p1 (127 : Int32) 7 (by decide) (by decide)
  have hA0 : 0 ≤ (p1 &&& (127 : Int32)).toInt := by omega
  have hA1 : (p1 &&& (127 : Int32)).toInt < 128 := by omega
  obtain ⟨_, _, ⟨T2, L2, k2, n2⟩, -, X2, ⟨Lc2, hQ2, l2, y2, z2⟩, st2⟩ := Jvm.LawKit.callS X0 hx (y := (⟨"com/example/rank60/rank60/files/WordsAtMostPinLaw", "expectedByte", "(JII)J"⟩ : MethodName)) hown (mvT hZ (hw _ (List.mem_of_getElem? (i := 0) rfl))) (mvT hZ (hw _ (List.mem_of_getElem? (i := 1) rfl))) (mvT hZ (hw _ (List.mem_of_getElem? (i := 2) rfl))) (mvT hZ (hw _ (List.mem_of_getElem? (i := 3) rfl))) (by decide) (backOf (W := 0) (rm1 l Z ag hw [] q0 (p1 &&& (127 : Int32)) (0 : Int32)  h0 n0 Z0 ) hZ (hw _ (List.mem_of_getElem? (i := 3) rfl)) (hw _ (List.mem_of_getElem? (i := 2) rfl)) (by decide) (by decide)) (g := (mkF m 12 (own_loc4 q0 p1) [.int 0, (.int (p1 &&& (127 : Int32))), (.long q0)])) rfl (by rw [hml]; rfl) (argsL := [(.long q0), (.int (p1 &&& (127 : Int32))), (.int (0 : Int32))]) (rest := []) (lenOf pd_1 rfl) rfl (by show 2 * 0 + _ ≤ _; exact Nat.le_of_eq rfl) (hb hby at_12) (fun _ _ => ⟨rfl, e0, (by decide : 0 + 0 ≤ _), (by decide : 0 + 0 ≤ _)⟩)
  dsimp only [Pt.U, Pt.locs, Pt.cells, Pt.slots] at X2 l2 y2 z2 st2 hQ2
  subst l2 y2 z2
  obtain ⟨rfl, N2q, e2⟩ := hQ2
  have N2 := Fr.app N0 N2q
  have cp3 : ∀ target, own_S p e below T2 (mkF m 18 (own_loc4 q0 p1) [.int 1, (.int (p1 &&& (127 : Int32))), (.long q0), (.long (own_f1 q0 (p1 &&& (127 : Int32)) (0 : Int32)))]) target → own_S p e below s₁ (mkF m 0 #[.val (.long q0), .second, .val (.int p1), .unset, .unset, .unset, .unset] []) target := by
    intro target kt
    show own_S p e below s₁ (mkF m 0 #[.val (.long q0), .second, .val (.int p1), .unset, .unset, .unset, .unset] []) _
    refine XS.iloadN X0.here hx rfl (hb hby at_0) rfl ?_
    show own_S p e below s₁ (mkF m 1 #[.val (.long q0), .second, .val (.int p1), .unset, .unset, .unset, .unset] [(.int p1)]) _
    refine XS.bipush X0.here hx rfl (hb hby at_1) ?_
    show own_S p e below s₁ (mkF m 3 #[.val (.long q0), .second, .val (.int p1), .unset, .unset, .unset, .unset] [.int 127, (.int p1)]) _
    refine XS.iand X0.here hx rfl (hb hby at_3) rfl ?_
    show own_S p e below s₁ (mkF m 4 #[.val (.long q0), .second, .val (.int p1), .unset, .unset, .unset, .unset] [(.int (p1 &&& (127 : Int32)))]) _
    refine XS.istoreN X0.here hx rfl (hb hby at_4) rfl (l' := (own_loc3 q0 p1)) rfl ?_
    show own_S p e below s₁ (mkF m 5 (own_loc3 q0 p1) []) _
    refine XS.iloadN X0.here hx rfl (hb hby at_5) rfl ?_
    show own_S p e below s₁ (mkF m 6 (own_loc3 q0 p1) [(.int (p1 &&& (127 : Int32)))]) _
    refine XS.i2c X0.here hx rfl (hb hby at_6) rfl ?_
    show own_S p e below s₁ (mkF m 7 (own_loc3 q0 p1) [(.int ((p1 &&& (127 : Int32)).toUInt32.toUInt16.toUInt32.toInt32))]) _
    refine XS.istore X0.here hx rfl (hb hby at_7) rfl (l' := (own_loc4 q0 p1)) rfl ?_
    show own_S p e below s₁ (mkF m 9 (own_loc4 q0 p1) []) _
    refine XS.lloadN X0.here hx rfl (hb hby at_9) rfl ?_
    show own_S p e below s₁ (mkF m 10 (own_loc4 q0 p1) [(.long q0)]) _
    refine XS.iloadN X0.here hx rfl (hb hby at_10) rfl ?_
    show own_S p e below s₁ (mkF m 11 (own_loc4 q0 p1) [(.int (p1 &&& (127 : Int32))), (.long q0)]) _
    refine XS.iconst X0.here hx rfl (hb hby at_11) ?_
    show own_S p e below s₁ (mkF m 12 (own_loc4 q0 p1) [.int 0, (.int (p1 &&& (127 : Int32))), (.long q0)]) _
    refine st2 _ ?_
    show own_S p e below T2 (mkF m 15 (own_loc4 q0 p1) [(.long (own_f1 q0 (p1 &&& (127 : Int32)) (0 : Int32)))]) _
    refine XS.lloadN X2.here hx rfl (hb hby at_15) rfl ?_
    show own_S p e below T2 (mkF m 16 (own_loc4 q0 p1) [(.long q0), (.long (own_f1 q0 (p1 &&& (127 : Int32)) (0 : Int32)))]) _
    refine XS.iloadN X2.here hx rfl (hb hby at_16) rfl ?_
    show own_S p e below T2 (mkF m 17 (own_loc4 q0 p1) [(.int (p1 &&& (127 : Int32))), (.long q0), (.long (own_f1 q0 (p1 &&& (127 : Int32)) (0 : Int32)))]) _
    refine XS.iconst X2.here hx rfl (hb hby at_17) ?_
    exact kt
  obtain ⟨_, _, ⟨T4, L4, k4, n4⟩, -, X4, ⟨Lc4, hQ4, l4, y4, z4⟩, st4⟩ := Jvm.LawKit.callS X2 hx (y := (⟨"com/example/rank60/rank60/files/WordsAtMostPinLaw", "expectedByte", "(JII)J"⟩ : MethodName)) hown (mvT hZ (hw _ (List.mem_of_getElem? (i := 0) rfl))) (mvT hZ (hw _ (List.mem_of_getElem? (i := 1) rfl))) (mvT hZ (hw _ (List.mem_of_getElem? (i := 2) rfl))) (mvT hZ (hw _ (List.mem_of_getElem? (i := 3) rfl))) (by decide) (backOf (W := 2) (rm1 l Z ag hw [] q0 (p1 &&& (127 : Int32)) (1 : Int32)  h0 n0 Z0 ) hZ (hw _ (List.mem_of_getElem? (i := 3) rfl)) (hw _ (List.mem_of_getElem? (i := 2) rfl)) (by decide) (by decide)) (g := (mkF m 18 (own_loc4 q0 p1) [.int 1, (.int (p1 &&& (127 : Int32))), (.long q0), (.long (own_f1 q0 (p1 &&& (127 : Int32)) (0 : Int32)))])) rfl (by rw [hml]; rfl) (argsL := [(.long q0), (.int (p1 &&& (127 : Int32))), (.int (1 : Int32))]) (rest := [(.long (own_f1 q0 (p1 &&& (127 : Int32)) (0 : Int32)))]) (lenOf pd_1 rfl) rfl (by show 2 * 0 + _ ≤ _; exact Nat.le_of_eq rfl) (hb hby at_18) (fun _ _ => ⟨rfl, e2, (by decide : 0 + 0 ≤ _), (by decide : 0 + 0 ≤ _)⟩)
  dsimp only [Pt.U, Pt.locs, Pt.cells, Pt.slots] at X4 l4 y4 z4 st4 hQ4
  subst l4 y4 z4
  obtain ⟨rfl, N4q, e4⟩ := hQ4
  have N4 := Fr.app N2 N4q
  obtain ⟨_, _, ⟨T5, L5, k5, n5⟩, -, X5, ⟨Lc5, hQ5, l5, y5, z5⟩, st5⟩ := Jvm.LawKit.callS X4 hx (y := (⟨"com/example/rank60/rank60/files/WordsAtMostPinLaw", "expectedByte", "(JII)J"⟩ : MethodName)) hown (mvT hZ (hw _ (List.mem_of_getElem? (i := 0) rfl))) (mvT hZ (hw _ (List.mem_of_getElem? (i := 1) rfl))) (mvT hZ (hw _ (List.mem_of_getElem? (i := 2) rfl))) (mvT hZ (hw _ (List.mem_of_getElem? (i := 3) rfl))) (by decide) (backOf (W := 2) (rm1 l Z ag hw [] q0 (p1 &&& (127 : Int32)) (2 : Int32)  h0 n0 Z0 ) hZ (hw _ (List.mem_of_getElem? (i := 3) rfl)) (hw _ (List.mem_of_getElem? (i := 2) rfl)) (by decide) (by decide)) (g := (mkF m 25 (own_loc4 q0 p1) [.int 2, (.int (p1 &&& (127 : Int32))), (.long q0), (.long ((own_f1 q0 (p1 &&& (127 : Int32)) (0 : Int32)) ||| (own_f1 q0 (p1 &&& (127 : Int32)) (1 : Int32))))])) rfl (by rw [hml]; rfl) (argsL := [(.long q0), (.int (p1 &&& (127 : Int32))), (.int (2 : Int32))]) (rest := [(.long ((own_f1 q0 (p1 &&& (127 : Int32)) (0 : Int32)) ||| (own_f1 q0 (p1 &&& (127 : Int32)) (1 : Int32))))]) (lenOf pd_1 rfl) rfl (by show 2 * 0 + _ ≤ _; exact Nat.le_of_eq rfl) (hb hby at_25) (fun _ _ => ⟨rfl, e4, (by decide : 0 + 0 ≤ _), (by decide : 0 + 0 ≤ _)⟩)
  dsimp only [Pt.U, Pt.locs, Pt.cells, Pt.slots] at X5 l5 y5 z5 st5 hQ5
  subst l5 y5 z5
  obtain ⟨rfl, N5q, e5⟩ := hQ5
  have N5 := Fr.app N4 N5q
  obtain ⟨_, _, ⟨T6, L6, k6, n6⟩, -, X6, ⟨Lc6, hQ6, l6, y6, z6⟩, st6⟩ := Jvm.LawKit.callS X5 hx (y := (⟨"com/example/rank60/rank60/files/WordsAtMostPinLaw", "expectedByte", "(JII)J"⟩ : MethodName)) hown (mvT hZ (hw _ (List.mem_of_getElem? (i := 0) rfl))) (mvT hZ (hw _ (List.mem_of_getElem? (i := 1) rfl))) (mvT hZ (hw _ (List.mem_of_getElem? (i := 2) rfl))) (mvT hZ (hw _ (List.mem_of_getElem? (i := 3) rfl))) (by decide) (backOf (W := 2) (rm1 l Z ag hw [] q0 (p1 &&& (127 : Int32)) (3 : Int32)  h0 n0 Z0 ) hZ (hw _ (List.mem_of_getElem? (i := 3) rfl)) (hw _ (List.mem_of_getElem? (i := 2) rfl)) (by decide) (by decide)) (g := (mkF m 32 (own_loc4 q0 p1) [.int 3, (.int (p1 &&& (127 : Int32))), (.long q0), (.long (((own_f1 q0 (p1 &&& (127 : Int32)) (0 : Int32)) ||| (own_f1 q0 (p1 &&& (127 : Int32)) (1 : Int32))) ||| (own_f1 q0 (p1 &&& (127 : Int32)) (2 : Int32))))])) rfl (by rw [hml]; rfl) (argsL := [(.long q0), (.int (p1 &&& (127 : Int32))), (.int (3 : Int32))]) (rest := [(.long (((own_f1 q0 (p1 &&& (127 : Int32)) (0 : Int32)) ||| (own_f1 q0 (p1 &&& (127 : Int32)) (1 : Int32))) ||| (own_f1 q0 (p1 &&& (127 : Int32)) (2 : Int32))))]) (lenOf pd_1 rfl) rfl (by show 2 * 0 + _ ≤ _; exact Nat.le_of_eq rfl) (hb hby at_32) (fun _ _ => ⟨rfl, e5, (by decide : 0 + 0 ≤ _), (by decide : 0 + 0 ≤ _)⟩)
  dsimp only [Pt.U, Pt.locs, Pt.cells, Pt.slots] at X6 l6 y6 z6 st6 hQ6
  subst l6 y6 z6
  obtain ⟨rfl, N6q, e6⟩ := hQ6
  have N6 := Fr.app N5 N6q
  have cp7 : ∀ target, own_S p e below T6 (mkF m 39 (own_loc4 q0 p1) [.int 4, (.int (p1 &&& (127 : Int32))), (.long q0), (.long ((((own_f1 q0 (p1 &&& (127 : Int32)) (0 : Int32)) ||| (own_f1 q0 (p1 &&& (127 : Int32)) (1 : Int32))) ||| (own_f1 q0 (p1 &&& (127 : Int32)) (2 : Int32))) ||| (own_f1 q0 (p1 &&& (127 : Int32)) (3 : Int32))))]) target → own_S p e below s₁ (mkF m 0 #[.val (.long q0), .second, .val (.int p1), .unset, .unset, .unset, .unset] []) target := by
    intro target kt
    show own_S p e below s₁ (mkF m 0 #[.val (.long q0), .second, .val (.int p1), .unset, .unset, .unset, .unset] []) _
    refine cp3 _ ?_
    show own_S p e below T2 (mkF m 18 (own_loc4 q0 p1) [.int 1, (.int (p1 &&& (127 : Int32))), (.long q0), (.long (own_f1 q0 (p1 &&& (127 : Int32)) (0 : Int32)))]) _
    refine st4 _ ?_
    show own_S p e below T4 (mkF m 21 (own_loc4 q0 p1) [(.long (own_f1 q0 (p1 &&& (127 : Int32)) (1 : Int32))), (.long (own_f1 q0 (p1 &&& (127 : Int32)) (0 : Int32)))]) _
    refine XS.lor X4.here hx rfl (hb hby at_21) rfl ?_
    show own_S p e below T4 (mkF m 22 (own_loc4 q0 p1) [(.long ((own_f1 q0 (p1 &&& (127 : Int32)) (0 : Int32)) ||| (own_f1 q0 (p1 &&& (127 : Int32)) (1 : Int32))))]) _
    refine XS.lloadN X4.here hx rfl (hb hby at_22) rfl ?_
    show own_S p e below T4 (mkF m 23 (own_loc4 q0 p1) [(.long q0), (.long ((own_f1 q0 (p1 &&& (127 : Int32)) (0 : Int32)) ||| (own_f1 q0 (p1 &&& (127 : Int32)) (1 : Int32))))]) _
    refine XS.iloadN X4.here hx rfl (hb hby at_23) rfl ?_
    show own_S p e below T4 (mkF m 24 (own_loc4 q0 p1) [(.int (p1 &&& (127 : Int32))), (.long q0), (.long ((own_f1 q0 (p1 &&& (127 : Int32)) (0 : Int32)) ||| (own_f1 q0 (p1 &&& (127 : Int32)) (1 : Int32))))]) _
    refine XS.iconst X4.here hx rfl (hb hby at_24) ?_
    show own_S p e below T4 (mkF m 25 (own_loc4 q0 p1) [.int 2, (.int (p1 &&& (127 : Int32))), (.long q0), (.long ((own_f1 q0 (p1 &&& (127 : Int32)) (0 : Int32)) ||| (own_f1 q0 (p1 &&& (127 : Int32)) (1 : Int32))))]) _
    refine st5 _ ?_
    show own_S p e below T5 (mkF m 28 (own_loc4 q0 p1) [(.long (own_f1 q0 (p1 &&& (127 : Int32)) (2 : Int32))), (.long ((own_f1 q0 (p1 &&& (127 : Int32)) (0 : Int32)) ||| (own_f1 q0 (p1 &&& (127 : Int32)) (1 : Int32))))]) _
    refine XS.lor X5.here hx rfl (hb hby at_28) rfl ?_
    show own_S p e below T5 (mkF m 29 (own_loc4 q0 p1) [(.long (((own_f1 q0 (p1 &&& (127 : Int32)) (0 : Int32)) ||| (own_f1 q0 (p1 &&& (127 : Int32)) (1 : Int32))) ||| (own_f1 q0 (p1 &&& (127 : Int32)) (2 : Int32))))]) _
    refine XS.lloadN X5.here hx rfl (hb hby at_29) rfl ?_
    show own_S p e below T5 (mkF m 30 (own_loc4 q0 p1) [(.long q0), (.long (((own_f1 q0 (p1 &&& (127 : Int32)) (0 : Int32)) ||| (own_f1 q0 (p1 &&& (127 : Int32)) (1 : Int32))) ||| (own_f1 q0 (p1 &&& (127 : Int32)) (2 : Int32))))]) _
    refine XS.iloadN X5.here hx rfl (hb hby at_30) rfl ?_
    show own_S p e below T5 (mkF m 31 (own_loc4 q0 p1) [(.int (p1 &&& (127 : Int32))), (.long q0), (.long (((own_f1 q0 (p1 &&& (127 : Int32)) (0 : Int32)) ||| (own_f1 q0 (p1 &&& (127 : Int32)) (1 : Int32))) ||| (own_f1 q0 (p1 &&& (127 : Int32)) (2 : Int32))))]) _
    refine XS.iconst X5.here hx rfl (hb hby at_31) ?_
    show own_S p e below T5 (mkF m 32 (own_loc4 q0 p1) [.int 3, (.int (p1 &&& (127 : Int32))), (.long q0), (.long (((own_f1 q0 (p1 &&& (127 : Int32)) (0 : Int32)) ||| (own_f1 q0 (p1 &&& (127 : Int32)) (1 : Int32))) ||| (own_f1 q0 (p1 &&& (127 : Int32)) (2 : Int32))))]) _
    refine st6 _ ?_
    show own_S p e below T6 (mkF m 35 (own_loc4 q0 p1) [(.long (own_f1 q0 (p1 &&& (127 : Int32)) (3 : Int32))), (.long (((own_f1 q0 (p1 &&& (127 : Int32)) (0 : Int32)) ||| (own_f1 q0 (p1 &&& (127 : Int32)) (1 : Int32))) ||| (own_f1 q0 (p1 &&& (127 : Int32)) (2 : Int32))))]) _
    refine XS.lor X6.here hx rfl (hb hby at_35) rfl ?_
    show own_S p e below T6 (mkF m 36 (own_loc4 q0 p1) [(.long ((((own_f1 q0 (p1 &&& (127 : Int32)) (0 : Int32)) ||| (own_f1 q0 (p1 &&& (127 : Int32)) (1 : Int32))) ||| (own_f1 q0 (p1 &&& (127 : Int32)) (2 : Int32))) ||| (own_f1 q0 (p1 &&& (127 : Int32)) (3 : Int32))))]) _
    refine XS.lloadN X6.here hx rfl (hb hby at_36) rfl ?_
    show own_S p e below T6 (mkF m 37 (own_loc4 q0 p1) [(.long q0), (.long ((((own_f1 q0 (p1 &&& (127 : Int32)) (0 : Int32)) ||| (own_f1 q0 (p1 &&& (127 : Int32)) (1 : Int32))) ||| (own_f1 q0 (p1 &&& (127 : Int32)) (2 : Int32))) ||| (own_f1 q0 (p1 &&& (127 : Int32)) (3 : Int32))))]) _
    refine XS.iloadN X6.here hx rfl (hb hby at_37) rfl ?_
    show own_S p e below T6 (mkF m 38 (own_loc4 q0 p1) [(.int (p1 &&& (127 : Int32))), (.long q0), (.long ((((own_f1 q0 (p1 &&& (127 : Int32)) (0 : Int32)) ||| (own_f1 q0 (p1 &&& (127 : Int32)) (1 : Int32))) ||| (own_f1 q0 (p1 &&& (127 : Int32)) (2 : Int32))) ||| (own_f1 q0 (p1 &&& (127 : Int32)) (3 : Int32))))]) _
    refine XS.iconst X6.here hx rfl (hb hby at_38) ?_
    exact kt
  obtain ⟨_, _, ⟨T8, L8, k8, n8⟩, -, X8, ⟨Lc8, hQ8, l8, y8, z8⟩, st8⟩ := Jvm.LawKit.callS X6 hx (y := (⟨"com/example/rank60/rank60/files/WordsAtMostPinLaw", "expectedByte", "(JII)J"⟩ : MethodName)) hown (mvT hZ (hw _ (List.mem_of_getElem? (i := 0) rfl))) (mvT hZ (hw _ (List.mem_of_getElem? (i := 1) rfl))) (mvT hZ (hw _ (List.mem_of_getElem? (i := 2) rfl))) (mvT hZ (hw _ (List.mem_of_getElem? (i := 3) rfl))) (by decide) (backOf (W := 2) (rm1 l Z ag hw [] q0 (p1 &&& (127 : Int32)) (4 : Int32)  h0 n0 Z0 ) hZ (hw _ (List.mem_of_getElem? (i := 3) rfl)) (hw _ (List.mem_of_getElem? (i := 2) rfl)) (by decide) (by decide)) (g := (mkF m 39 (own_loc4 q0 p1) [.int 4, (.int (p1 &&& (127 : Int32))), (.long q0), (.long ((((own_f1 q0 (p1 &&& (127 : Int32)) (0 : Int32)) ||| (own_f1 q0 (p1 &&& (127 : Int32)) (1 : Int32))) ||| (own_f1 q0 (p1 &&& (127 : Int32)) (2 : Int32))) ||| (own_f1 q0 (p1 &&& (127 : Int32)) (3 : Int32))))])) rfl (by rw [hml]; rfl) (argsL := [(.long q0), (.int (p1 &&& (127 : Int32))), (.int (4 : Int32))]) (rest := [(.long ((((own_f1 q0 (p1 &&& (127 : Int32)) (0 : Int32)) ||| (own_f1 q0 (p1 &&& (127 : Int32)) (1 : Int32))) ||| (own_f1 q0 (p1 &&& (127 : Int32)) (2 : Int32))) ||| (own_f1 q0 (p1 &&& (127 : Int32)) (3 : Int32))))]) (lenOf pd_1 rfl) rfl (by show 2 * 0 + _ ≤ _; exact Nat.le_of_eq rfl) (hb hby at_39) (fun _ _ => ⟨rfl, e6, (by decide : 0 + 0 ≤ _), (by decide : 0 + 0 ≤ _)⟩)
  dsimp only [Pt.U, Pt.locs, Pt.cells, Pt.slots] at X8 l8 y8 z8 st8 hQ8
  subst l8 y8 z8
  obtain ⟨rfl, N8q, e8⟩ := hQ8
  have N8 := Fr.app N6 N8q
  obtain ⟨_, _, ⟨T9, L9, k9, n9⟩, -, X9, ⟨Lc9, hQ9, l9, y9, z9⟩, st9⟩ := Jvm.LawKit.callS X8 hx (y := (⟨"com/example/rank60/rank60/files/WordsAtMostPinLaw", "expectedByte", "(JII)J"⟩ : MethodName)) hown (mvT hZ (hw _ (List.mem_of_getElem? (i := 0) rfl))) (mvT hZ (hw _ (List.mem_of_getElem? (i := 1) rfl))) (mvT hZ (hw _ (List.mem_of_getElem? (i := 2) rfl))) (mvT hZ (hw _ (List.mem_of_getElem? (i := 3) rfl))) (by decide) (backOf (W := 2) (rm1 l Z ag hw [] q0 (p1 &&& (127 : Int32)) (5 : Int32)  h0 n0 Z0 ) hZ (hw _ (List.mem_of_getElem? (i := 3) rfl)) (hw _ (List.mem_of_getElem? (i := 2) rfl)) (by decide) (by decide)) (g := (mkF m 46 (own_loc4 q0 p1) [.int 5, (.int (p1 &&& (127 : Int32))), (.long q0), (.long (((((own_f1 q0 (p1 &&& (127 : Int32)) (0 : Int32)) ||| (own_f1 q0 (p1 &&& (127 : Int32)) (1 : Int32))) ||| (own_f1 q0 (p1 &&& (127 : Int32)) (2 : Int32))) ||| (own_f1 q0 (p1 &&& (127 : Int32)) (3 : Int32))) ||| (own_f1 q0 (p1 &&& (127 : Int32)) (4 : Int32))))])) rfl (by rw [hml]; rfl) (argsL := [(.long q0), (.int (p1 &&& (127 : Int32))), (.int (5 : Int32))]) (rest := [(.long (((((own_f1 q0 (p1 &&& (127 : Int32)) (0 : Int32)) ||| (own_f1 q0 (p1 &&& (127 : Int32)) (1 : Int32))) ||| (own_f1 q0 (p1 &&& (127 : Int32)) (2 : Int32))) ||| (own_f1 q0 (p1 &&& (127 : Int32)) (3 : Int32))) ||| (own_f1 q0 (p1 &&& (127 : Int32)) (4 : Int32))))]) (lenOf pd_1 rfl) rfl (by show 2 * 0 + _ ≤ _; exact Nat.le_of_eq rfl) (hb hby at_46) (fun _ _ => ⟨rfl, e8, (by decide : 0 + 0 ≤ _), (by decide : 0 + 0 ≤ _)⟩)
  dsimp only [Pt.U, Pt.locs, Pt.cells, Pt.slots] at X9 l9 y9 z9 st9 hQ9
  subst l9 y9 z9
  obtain ⟨rfl, N9q, e9⟩ := hQ9
  have N9 := Fr.app N8 N9q
  obtain ⟨_, _, ⟨T10, L10, k10, n10⟩, -, X10, ⟨Lc10, hQ10, l10, y10, z10⟩, st10⟩ := Jvm.LawKit.callS X9 hx (y := (⟨"com/example/rank60/rank60/files/WordsAtMostPinLaw", "expectedByte", "(JII)J"⟩ : MethodName)) hown (mvT hZ (hw _ (List.mem_of_getElem? (i := 0) rfl))) (mvT hZ (hw _ (List.mem_of_getElem? (i := 1) rfl))) (mvT hZ (hw _ (List.mem_of_getElem? (i := 2) rfl))) (mvT hZ (hw _ (List.mem_of_getElem? (i := 3) rfl))) (by decide) (backOf (W := 2) (rm1 l Z ag hw [] q0 (p1 &&& (127 : Int32)) (6 : Int32)  h0 n0 Z0 ) hZ (hw _ (List.mem_of_getElem? (i := 3) rfl)) (hw _ (List.mem_of_getElem? (i := 2) rfl)) (by decide) (by decide)) (g := (mkF m 54 (own_loc4 q0 p1) [.int 6, (.int (p1 &&& (127 : Int32))), (.long q0), (.long ((((((own_f1 q0 (p1 &&& (127 : Int32)) (0 : Int32)) ||| (own_f1 q0 (p1 &&& (127 : Int32)) (1 : Int32))) ||| (own_f1 q0 (p1 &&& (127 : Int32)) (2 : Int32))) ||| (own_f1 q0 (p1 &&& (127 : Int32)) (3 : Int32))) ||| (own_f1 q0 (p1 &&& (127 : Int32)) (4 : Int32))) ||| (own_f1 q0 (p1 &&& (127 : Int32)) (5 : Int32))))])) rfl (by rw [hml]; rfl) (argsL := [(.long q0), (.int (p1 &&& (127 : Int32))), (.int (6 : Int32))]) (rest := [(.long ((((((own_f1 q0 (p1 &&& (127 : Int32)) (0 : Int32)) ||| (own_f1 q0 (p1 &&& (127 : Int32)) (1 : Int32))) ||| (own_f1 q0 (p1 &&& (127 : Int32)) (2 : Int32))) ||| (own_f1 q0 (p1 &&& (127 : Int32)) (3 : Int32))) ||| (own_f1 q0 (p1 &&& (127 : Int32)) (4 : Int32))) ||| (own_f1 q0 (p1 &&& (127 : Int32)) (5 : Int32))))]) (lenOf pd_1 rfl) rfl (by show 2 * 0 + _ ≤ _; exact Nat.le_of_eq rfl) (hb hby at_54) (fun _ _ => ⟨rfl, e9, (by decide : 0 + 0 ≤ _), (by decide : 0 + 0 ≤ _)⟩)
  dsimp only [Pt.U, Pt.locs, Pt.cells, Pt.slots] at X10 l10 y10 z10 st10 hQ10
  subst l10 y10 z10
  obtain ⟨rfl, N10q, e10⟩ := hQ10
  have N10 := Fr.app N9 N10q
  have cp11 : ∀ target, own_S p e below T10 (mkF m 62 (own_loc4 q0 p1) [.int 7, (.int (p1 &&& (127 : Int32))), (.long q0), (.long (((((((own_f1 q0 (p1 &&& (127 : Int32)) (0 : Int32)) ||| (own_f1 q0 (p1 &&& (127 : Int32)) (1 : Int32))) ||| (own_f1 q0 (p1 &&& (127 : Int32)) (2 : Int32))) ||| (own_f1 q0 (p1 &&& (127 : Int32)) (3 : Int32))) ||| (own_f1 q0 (p1 &&& (127 : Int32)) (4 : Int32))) ||| (own_f1 q0 (p1 &&& (127 : Int32)) (5 : Int32))) ||| (own_f1 q0 (p1 &&& (127 : Int32)) (6 : Int32))))]) target → own_S p e below s₁ (mkF m 0 #[.val (.long q0), .second, .val (.int p1), .unset, .unset, .unset, .unset] []) target := by
    intro target kt
    show own_S p e below s₁ (mkF m 0 #[.val (.long q0), .second, .val (.int p1), .unset, .unset, .unset, .unset] []) _
    refine cp7 _ ?_
    show own_S p e below T6 (mkF m 39 (own_loc4 q0 p1) [.int 4, (.int (p1 &&& (127 : Int32))), (.long q0), (.long ((((own_f1 q0 (p1 &&& (127 : Int32)) (0 : Int32)) ||| (own_f1 q0 (p1 &&& (127 : Int32)) (1 : Int32))) ||| (own_f1 q0 (p1 &&& (127 : Int32)) (2 : Int32))) ||| (own_f1 q0 (p1 &&& (127 : Int32)) (3 : Int32))))]) _
    refine st8 _ ?_
    show own_S p e below T8 (mkF m 42 (own_loc4 q0 p1) [(.long (own_f1 q0 (p1 &&& (127 : Int32)) (4 : Int32))), (.long ((((own_f1 q0 (p1 &&& (127 : Int32)) (0 : Int32)) ||| (own_f1 q0 (p1 &&& (127 : Int32)) (1 : Int32))) ||| (own_f1 q0 (p1 &&& (127 : Int32)) (2 : Int32))) ||| (own_f1 q0 (p1 &&& (127 : Int32)) (3 : Int32))))]) _
    refine XS.lor X8.here hx rfl (hb hby at_42) rfl ?_
    show own_S p e below T8 (mkF m 43 (own_loc4 q0 p1) [(.long (((((own_f1 q0 (p1 &&& (127 : Int32)) (0 : Int32)) ||| (own_f1 q0 (p1 &&& (127 : Int32)) (1 : Int32))) ||| (own_f1 q0 (p1 &&& (127 : Int32)) (2 : Int32))) ||| (own_f1 q0 (p1 &&& (127 : Int32)) (3 : Int32))) ||| (own_f1 q0 (p1 &&& (127 : Int32)) (4 : Int32))))]) _
    refine XS.lloadN X8.here hx rfl (hb hby at_43) rfl ?_
    show own_S p e below T8 (mkF m 44 (own_loc4 q0 p1) [(.long q0), (.long (((((own_f1 q0 (p1 &&& (127 : Int32)) (0 : Int32)) ||| (own_f1 q0 (p1 &&& (127 : Int32)) (1 : Int32))) ||| (own_f1 q0 (p1 &&& (127 : Int32)) (2 : Int32))) ||| (own_f1 q0 (p1 &&& (127 : Int32)) (3 : Int32))) ||| (own_f1 q0 (p1 &&& (127 : Int32)) (4 : Int32))))]) _
    refine XS.iloadN X8.here hx rfl (hb hby at_44) rfl ?_
    show own_S p e below T8 (mkF m 45 (own_loc4 q0 p1) [(.int (p1 &&& (127 : Int32))), (.long q0), (.long (((((own_f1 q0 (p1 &&& (127 : Int32)) (0 : Int32)) ||| (own_f1 q0 (p1 &&& (127 : Int32)) (1 : Int32))) ||| (own_f1 q0 (p1 &&& (127 : Int32)) (2 : Int32))) ||| (own_f1 q0 (p1 &&& (127 : Int32)) (3 : Int32))) ||| (own_f1 q0 (p1 &&& (127 : Int32)) (4 : Int32))))]) _
    refine XS.iconst X8.here hx rfl (hb hby at_45) ?_
    show own_S p e below T8 (mkF m 46 (own_loc4 q0 p1) [.int 5, (.int (p1 &&& (127 : Int32))), (.long q0), (.long (((((own_f1 q0 (p1 &&& (127 : Int32)) (0 : Int32)) ||| (own_f1 q0 (p1 &&& (127 : Int32)) (1 : Int32))) ||| (own_f1 q0 (p1 &&& (127 : Int32)) (2 : Int32))) ||| (own_f1 q0 (p1 &&& (127 : Int32)) (3 : Int32))) ||| (own_f1 q0 (p1 &&& (127 : Int32)) (4 : Int32))))]) _
    refine st9 _ ?_
    show own_S p e below T9 (mkF m 49 (own_loc4 q0 p1) [(.long (own_f1 q0 (p1 &&& (127 : Int32)) (5 : Int32))), (.long (((((own_f1 q0 (p1 &&& (127 : Int32)) (0 : Int32)) ||| (own_f1 q0 (p1 &&& (127 : Int32)) (1 : Int32))) ||| (own_f1 q0 (p1 &&& (127 : Int32)) (2 : Int32))) ||| (own_f1 q0 (p1 &&& (127 : Int32)) (3 : Int32))) ||| (own_f1 q0 (p1 &&& (127 : Int32)) (4 : Int32))))]) _
    refine XS.lor X9.here hx rfl (hb hby at_49) rfl ?_
    show own_S p e below T9 (mkF m 50 (own_loc4 q0 p1) [(.long ((((((own_f1 q0 (p1 &&& (127 : Int32)) (0 : Int32)) ||| (own_f1 q0 (p1 &&& (127 : Int32)) (1 : Int32))) ||| (own_f1 q0 (p1 &&& (127 : Int32)) (2 : Int32))) ||| (own_f1 q0 (p1 &&& (127 : Int32)) (3 : Int32))) ||| (own_f1 q0 (p1 &&& (127 : Int32)) (4 : Int32))) ||| (own_f1 q0 (p1 &&& (127 : Int32)) (5 : Int32))))]) _
    refine XS.lloadN X9.here hx rfl (hb hby at_50) rfl ?_
    show own_S p e below T9 (mkF m 51 (own_loc4 q0 p1) [(.long q0), (.long ((((((own_f1 q0 (p1 &&& (127 : Int32)) (0 : Int32)) ||| (own_f1 q0 (p1 &&& (127 : Int32)) (1 : Int32))) ||| (own_f1 q0 (p1 &&& (127 : Int32)) (2 : Int32))) ||| (own_f1 q0 (p1 &&& (127 : Int32)) (3 : Int32))) ||| (own_f1 q0 (p1 &&& (127 : Int32)) (4 : Int32))) ||| (own_f1 q0 (p1 &&& (127 : Int32)) (5 : Int32))))]) _
    refine XS.iloadN X9.here hx rfl (hb hby at_51) rfl ?_
    show own_S p e below T9 (mkF m 52 (own_loc4 q0 p1) [(.int (p1 &&& (127 : Int32))), (.long q0), (.long ((((((own_f1 q0 (p1 &&& (127 : Int32)) (0 : Int32)) ||| (own_f1 q0 (p1 &&& (127 : Int32)) (1 : Int32))) ||| (own_f1 q0 (p1 &&& (127 : Int32)) (2 : Int32))) ||| (own_f1 q0 (p1 &&& (127 : Int32)) (3 : Int32))) ||| (own_f1 q0 (p1 &&& (127 : Int32)) (4 : Int32))) ||| (own_f1 q0 (p1 &&& (127 : Int32)) (5 : Int32))))]) _
    refine XS.bipush X9.here hx rfl (hb hby at_52) ?_
    show own_S p e below T9 (mkF m 54 (own_loc4 q0 p1) [.int 6, (.int (p1 &&& (127 : Int32))), (.long q0), (.long ((((((own_f1 q0 (p1 &&& (127 : Int32)) (0 : Int32)) ||| (own_f1 q0 (p1 &&& (127 : Int32)) (1 : Int32))) ||| (own_f1 q0 (p1 &&& (127 : Int32)) (2 : Int32))) ||| (own_f1 q0 (p1 &&& (127 : Int32)) (3 : Int32))) ||| (own_f1 q0 (p1 &&& (127 : Int32)) (4 : Int32))) ||| (own_f1 q0 (p1 &&& (127 : Int32)) (5 : Int32))))]) _
    refine st10 _ ?_
    show own_S p e below T10 (mkF m 57 (own_loc4 q0 p1) [(.long (own_f1 q0 (p1 &&& (127 : Int32)) (6 : Int32))), (.long ((((((own_f1 q0 (p1 &&& (127 : Int32)) (0 : Int32)) ||| (own_f1 q0 (p1 &&& (127 : Int32)) (1 : Int32))) ||| (own_f1 q0 (p1 &&& (127 : Int32)) (2 : Int32))) ||| (own_f1 q0 (p1 &&& (127 : Int32)) (3 : Int32))) ||| (own_f1 q0 (p1 &&& (127 : Int32)) (4 : Int32))) ||| (own_f1 q0 (p1 &&& (127 : Int32)) (5 : Int32))))]) _
    refine XS.lor X10.here hx rfl (hb hby at_57) rfl ?_
    show own_S p e below T10 (mkF m 58 (own_loc4 q0 p1) [(.long (((((((own_f1 q0 (p1 &&& (127 : Int32)) (0 : Int32)) ||| (own_f1 q0 (p1 &&& (127 : Int32)) (1 : Int32))) ||| (own_f1 q0 (p1 &&& (127 : Int32)) (2 : Int32))) ||| (own_f1 q0 (p1 &&& (127 : Int32)) (3 : Int32))) ||| (own_f1 q0 (p1 &&& (127 : Int32)) (4 : Int32))) ||| (own_f1 q0 (p1 &&& (127 : Int32)) (5 : Int32))) ||| (own_f1 q0 (p1 &&& (127 : Int32)) (6 : Int32))))]) _
    refine XS.lloadN X10.here hx rfl (hb hby at_58) rfl ?_
    show own_S p e below T10 (mkF m 59 (own_loc4 q0 p1) [(.long q0), (.long (((((((own_f1 q0 (p1 &&& (127 : Int32)) (0 : Int32)) ||| (own_f1 q0 (p1 &&& (127 : Int32)) (1 : Int32))) ||| (own_f1 q0 (p1 &&& (127 : Int32)) (2 : Int32))) ||| (own_f1 q0 (p1 &&& (127 : Int32)) (3 : Int32))) ||| (own_f1 q0 (p1 &&& (127 : Int32)) (4 : Int32))) ||| (own_f1 q0 (p1 &&& (127 : Int32)) (5 : Int32))) ||| (own_f1 q0 (p1 &&& (127 : Int32)) (6 : Int32))))]) _
    refine XS.iloadN X10.here hx rfl (hb hby at_59) rfl ?_
    show own_S p e below T10 (mkF m 60 (own_loc4 q0 p1) [(.int (p1 &&& (127 : Int32))), (.long q0), (.long (((((((own_f1 q0 (p1 &&& (127 : Int32)) (0 : Int32)) ||| (own_f1 q0 (p1 &&& (127 : Int32)) (1 : Int32))) ||| (own_f1 q0 (p1 &&& (127 : Int32)) (2 : Int32))) ||| (own_f1 q0 (p1 &&& (127 : Int32)) (3 : Int32))) ||| (own_f1 q0 (p1 &&& (127 : Int32)) (4 : Int32))) ||| (own_f1 q0 (p1 &&& (127 : Int32)) (5 : Int32))) ||| (own_f1 q0 (p1 &&& (127 : Int32)) (6 : Int32))))]) _
    refine XS.bipush X10.here hx rfl (hb hby at_60) ?_
    exact kt
  obtain ⟨_, _, ⟨T12, L12, k12, n12⟩, -, X12, ⟨Lc12, hQ12, l12, y12, z12⟩, st12⟩ := Jvm.LawKit.callS X10 hx (y := (⟨"com/example/rank60/rank60/files/WordsAtMostPinLaw", "expectedByte", "(JII)J"⟩ : MethodName)) hown (mvT hZ (hw _ (List.mem_of_getElem? (i := 0) rfl))) (mvT hZ (hw _ (List.mem_of_getElem? (i := 1) rfl))) (mvT hZ (hw _ (List.mem_of_getElem? (i := 2) rfl))) (mvT hZ (hw _ (List.mem_of_getElem? (i := 3) rfl))) (by decide) (backOf (W := 2) (rm1 l Z ag hw [] q0 (p1 &&& (127 : Int32)) (7 : Int32)  h0 n0 Z0 ) hZ (hw _ (List.mem_of_getElem? (i := 3) rfl)) (hw _ (List.mem_of_getElem? (i := 2) rfl)) (by decide) (by decide)) (g := (mkF m 62 (own_loc4 q0 p1) [.int 7, (.int (p1 &&& (127 : Int32))), (.long q0), (.long (((((((own_f1 q0 (p1 &&& (127 : Int32)) (0 : Int32)) ||| (own_f1 q0 (p1 &&& (127 : Int32)) (1 : Int32))) ||| (own_f1 q0 (p1 &&& (127 : Int32)) (2 : Int32))) ||| (own_f1 q0 (p1 &&& (127 : Int32)) (3 : Int32))) ||| (own_f1 q0 (p1 &&& (127 : Int32)) (4 : Int32))) ||| (own_f1 q0 (p1 &&& (127 : Int32)) (5 : Int32))) ||| (own_f1 q0 (p1 &&& (127 : Int32)) (6 : Int32))))])) rfl (by rw [hml]; rfl) (argsL := [(.long q0), (.int (p1 &&& (127 : Int32))), (.int (7 : Int32))]) (rest := [(.long (((((((own_f1 q0 (p1 &&& (127 : Int32)) (0 : Int32)) ||| (own_f1 q0 (p1 &&& (127 : Int32)) (1 : Int32))) ||| (own_f1 q0 (p1 &&& (127 : Int32)) (2 : Int32))) ||| (own_f1 q0 (p1 &&& (127 : Int32)) (3 : Int32))) ||| (own_f1 q0 (p1 &&& (127 : Int32)) (4 : Int32))) ||| (own_f1 q0 (p1 &&& (127 : Int32)) (5 : Int32))) ||| (own_f1 q0 (p1 &&& (127 : Int32)) (6 : Int32))))]) (lenOf pd_1 rfl) rfl (by show 2 * 0 + _ ≤ _; exact Nat.le_of_eq rfl) (hb hby at_62) (fun _ _ => ⟨rfl, e10, (by decide : 0 + 0 ≤ _), (by decide : 0 + 0 ≤ _)⟩)
  dsimp only [Pt.U, Pt.locs, Pt.cells, Pt.slots] at X12 l12 y12 z12 st12 hQ12
  subst l12 y12 z12
  obtain ⟨rfl, N12q, e12⟩ := hQ12
  have N12 := Fr.app N10 N12q
  obtain ⟨_, _, ⟨T13, L13, k13, n13⟩, -, X13, ⟨Lc13, hQ13, l13, y13, z13⟩, st13⟩ := Jvm.LawKit.callS X12 hx (y := (⟨"com/example/rank60/rank60/files/Words", "atMost", "(JC)J"⟩ : MethodName)) hown (mvT hZ (hw _ (List.mem_of_getElem? (i := 6) rfl))) (mvT hZ (hw _ (List.mem_of_getElem? (i := 7) rfl))) (mvT hZ (hw _ (List.mem_of_getElem? (i := 8) rfl))) (mvT hZ (hw _ (List.mem_of_getElem? (i := 9) rfl))) (by decide) (backOf (W := 0) (rm2 l Z ag hw [] q0 ((p1 &&& (127 : Int32)).toUInt32.toUInt16.toUInt32.toInt32)  h0 n0 Z0 ) hZ (hw _ (List.mem_of_getElem? (i := 9) rfl)) (hw _ (List.mem_of_getElem? (i := 8) rfl)) (by decide) (by decide)) (g := (mkF m 71 (own_loc5 q0 p1) [(.int ((p1 &&& (127 : Int32)).toUInt32.toUInt16.toUInt32.toInt32)), (.long q0)])) rfl (by rw [hml]; rfl) (argsL := [(.long q0), (.int ((p1 &&& (127 : Int32)).toUInt32.toUInt16.toUInt32.toInt32))]) (rest := []) (lenOf pd_0 rfl) rfl (by show 2 * 0 + _ ≤ _; exact Nat.le_of_eq rfl) (hb hby at_71) (fun _ _ => ⟨rfl, e12, (by decide : 0 + 0 ≤ _), (by decide : 0 + 0 ≤ _)⟩)
  dsimp only [Pt.U, Pt.locs, Pt.cells, Pt.slots] at X13 l13 y13 z13 st13 hQ13
  subst l13 y13 z13
  obtain ⟨rfl, N13q, e13⟩ := hQ13
  have N13 := Fr.app N12 N13q
  obtain ⟨fs, hr, hrun, hended, hW, hsame⟩ := X13.leave (v := some (.int (1 : Int32))) (fun h => by rw [Bd.returns] at h; cases h)
  refine ⟨_, _, pre0 _ ?_, hrun, hended, _, _, rfl, ?_, ⟨_, rfl⟩, hW, hsame.mono (by decide) (by decide)⟩
  · show own_S p e below s₁ (mkF m 0 #[.val (.long q0), .second, .val (.int p1), .unset, .unset, .unset, .unset] []) _
    refine cp11 _ ?_
    show own_S p e below T10 (mkF m 62 (own_loc4 q0 p1) [.int 7, (.int (p1 &&& (127 : Int32))), (.long q0), (.long (((((((own_f1 q0 (p1 &&& (127 : Int32)) (0 : Int32)) ||| (own_f1 q0 (p1 &&& (127 : Int32)) (1 : Int32))) ||| (own_f1 q0 (p1 &&& (127 : Int32)) (2 : Int32))) ||| (own_f1 q0 (p1 &&& (127 : Int32)) (3 : Int32))) ||| (own_f1 q0 (p1 &&& (127 : Int32)) (4 : Int32))) ||| (own_f1 q0 (p1 &&& (127 : Int32)) (5 : Int32))) ||| (own_f1 q0 (p1 &&& (127 : Int32)) (6 : Int32))))]) _
    refine st12 _ ?_
    show own_S p e below T12 (mkF m 65 (own_loc4 q0 p1) [(.long (own_f1 q0 (p1 &&& (127 : Int32)) (7 : Int32))), (.long (((((((own_f1 q0 (p1 &&& (127 : Int32)) (0 : Int32)) ||| (own_f1 q0 (p1 &&& (127 : Int32)) (1 : Int32))) ||| (own_f1 q0 (p1 &&& (127 : Int32)) (2 : Int32))) ||| (own_f1 q0 (p1 &&& (127 : Int32)) (3 : Int32))) ||| (own_f1 q0 (p1 &&& (127 : Int32)) (4 : Int32))) ||| (own_f1 q0 (p1 &&& (127 : Int32)) (5 : Int32))) ||| (own_f1 q0 (p1 &&& (127 : Int32)) (6 : Int32))))]) _
    refine XS.lor X12.here hx rfl (hb hby at_65) rfl ?_
    show own_S p e below T12 (mkF m 66 (own_loc4 q0 p1) [(.long ((((((((own_f1 q0 (p1 &&& (127 : Int32)) (0 : Int32)) ||| (own_f1 q0 (p1 &&& (127 : Int32)) (1 : Int32))) ||| (own_f1 q0 (p1 &&& (127 : Int32)) (2 : Int32))) ||| (own_f1 q0 (p1 &&& (127 : Int32)) (3 : Int32))) ||| (own_f1 q0 (p1 &&& (127 : Int32)) (4 : Int32))) ||| (own_f1 q0 (p1 &&& (127 : Int32)) (5 : Int32))) ||| (own_f1 q0 (p1 &&& (127 : Int32)) (6 : Int32))) ||| (own_f1 q0 (p1 &&& (127 : Int32)) (7 : Int32))))]) _
    refine XS.lstore X12.here hx rfl (hb hby at_66) rfl (l' := (own_loc5 q0 p1)) rfl ?_
    show own_S p e below T12 (mkF m 68 (own_loc5 q0 p1) []) _
    refine XS.lloadN X12.here hx rfl (hb hby at_68) rfl ?_
    show own_S p e below T12 (mkF m 69 (own_loc5 q0 p1) [(.long q0)]) _
    refine XS.iload X12.here hx rfl (hb hby at_69) rfl ?_
    show own_S p e below T12 (mkF m 71 (own_loc5 q0 p1) [(.int ((p1 &&& (127 : Int32)).toUInt32.toUInt16.toUInt32.toInt32)), (.long q0)]) _
    refine st13 _ ?_
    show own_S p e below T13 (mkF m 74 (own_loc5 q0 p1) [(.long (own_f2 q0 ((p1 &&& (127 : Int32)).toUInt32.toUInt16.toUInt32.toInt32)))]) _
    refine XS.lload X13.here hx rfl (hb hby at_74) rfl ?_
    show own_S p e below T13 (mkF m 76 (own_loc5 q0 p1) [(.long ((((((((own_f1 q0 (p1 &&& (127 : Int32)) (0 : Int32)) ||| (own_f1 q0 (p1 &&& (127 : Int32)) (1 : Int32))) ||| (own_f1 q0 (p1 &&& (127 : Int32)) (2 : Int32))) ||| (own_f1 q0 (p1 &&& (127 : Int32)) (3 : Int32))) ||| (own_f1 q0 (p1 &&& (127 : Int32)) (4 : Int32))) ||| (own_f1 q0 (p1 &&& (127 : Int32)) (5 : Int32))) ||| (own_f1 q0 (p1 &&& (127 : Int32)) (6 : Int32))) ||| (own_f1 q0 (p1 &&& (127 : Int32)) (7 : Int32)))), (.long (own_f2 q0 ((p1 &&& (127 : Int32)).toUInt32.toUInt16.toUInt32.toInt32)))]) _
    refine XS.lcmp X13.here hx rfl (hb hby at_76) rfl ?_
    show own_S p e below T13 (mkF m 77 (own_loc5 q0 p1) [(.int (lcmpW (own_f2 q0 ((p1 &&& (127 : Int32)).toUInt32.toUInt16.toUInt32.toInt32)) ((((((((own_f1 q0 (p1 &&& (127 : Int32)) (0 : Int32)) ||| (own_f1 q0 (p1 &&& (127 : Int32)) (1 : Int32))) ||| (own_f1 q0 (p1 &&& (127 : Int32)) (2 : Int32))) ||| (own_f1 q0 (p1 &&& (127 : Int32)) (3 : Int32))) ||| (own_f1 q0 (p1 &&& (127 : Int32)) (4 : Int32))) ||| (own_f1 q0 (p1 &&& (127 : Int32)) (5 : Int32))) ||| (own_f1 q0 (p1 &&& (127 : Int32)) (6 : Int32))) ||| (own_f1 q0 (p1 &&& (127 : Int32)) (7 : Int32)))))]) _
    refine XS.ifNo X13.here hx rfl (hb hby at_77) rfl ((if0 _ _).trans (teq ((lw_eq (own_f2 q0 ((p1 &&& (127 : Int32)).toUInt32.toUInt16.toUInt32.toInt32)) ((((((((own_f1 q0 (p1 &&& (127 : Int32)) (0 : Int32)) ||| (own_f1 q0 (p1 &&& (127 : Int32)) (1 : Int32))) ||| (own_f1 q0 (p1 &&& (127 : Int32)) (2 : Int32))) ||| (own_f1 q0 (p1 &&& (127 : Int32)) (3 : Int32))) ||| (own_f1 q0 (p1 &&& (127 : Int32)) (4 : Int32))) ||| (own_f1 q0 (p1 &&& (127 : Int32)) (5 : Int32))) ||| (own_f1 q0 (p1 &&& (127 : Int32)) (6 : Int32))) ||| (own_f1 q0 (p1 &&& (127 : Int32)) (7 : Int32)))).mpr (show (own_f2 q0 ((p1 &&& (127 : Int32)).toUInt32.toUInt16.toUInt32.toInt32)) = ((((((((own_f1 q0 (p1 &&& (127 : Int32)) (0 : Int32)) ||| (own_f1 q0 (p1 &&& (127 : Int32)) (1 : Int32))) ||| (own_f1 q0 (p1 &&& (127 : Int32)) (2 : Int32))) ||| (own_f1 q0 (p1 &&& (127 : Int32)) (3 : Int32))) ||| (own_f1 q0 (p1 &&& (127 : Int32)) (4 : Int32))) ||| (own_f1 q0 (p1 &&& (127 : Int32)) (5 : Int32))) ||| (own_f1 q0 (p1 &&& (127 : Int32)) (6 : Int32))) ||| (own_f1 q0 (p1 &&& (127 : Int32)) (7 : Int32))) from ((congrArg (own_f2 q0) (own_char _ hA0 hA1)).trans (own_key q0 _ hA0 hA1))))).2) ?_
    show own_S p e below T13 (mkF m 80 (own_loc5 q0 p1) []) _
    refine XS.iconst X13.here hx rfl (hb hby at_80) ?_
    show own_S p e below T13 (mkF m 81 (own_loc5 q0 p1) [.int 1]) _
    refine XS.goto X13.here hx rfl (pc0 := 81) (pc' := 85) rfl (hb hby at_81) (by decide) (by decide) ?_
    show own_S p e below T13 (mkF m 85 (own_loc5 q0 p1) [.int 1]) _
    exact retN X13 hx (t := .boolean) Bd.returns (by simp) (hb hby at_85) hr
  · exact ⟨rfl, N13⟩
set_option maxRecDepth 65536 in
set_option maxHeartbeats 40000000 in
theorem comes_1 {Post : Tables → Env → Array Value → State → Outcome → State → Prop} (hpost : ∀ tb e args s v u, (limb_1_1.after args s (.returned v) u = true ∧ limb_1_2.after args s (.returned v) u = true ∧ True) → FrameEnd s (.returned v) u (Jvm.fieldLocs frame_1_writes args s ++ Jvm.arrayLocs frame_1_arrays args s ++ Jvm.staticLocs frame_1_statics s) 0 0 → Post tb e args s (.returned v) u) :
    ArmFor flags0 classFile x code maxLocals ret World_1 tables_1 room_1 Calls_1 rest_1 Pre_1 Post := by
  intro l hfl _ _ p e ha hc hk s m args below hf hA hF happ hP
  obtain ⟨hcalls, hrest, hpre⟩ := hP
  obtain ⟨-, -, -, hnamed, -, -, -, hat⟩ := (Spec.applies_iff hf).mp happ
  obtain ⟨hg, hn⟩ := and_e (Cond.before_iff.mp (show (Jvm.Cond.and given_1 narrow_1).before args s = true from hpre))
  obtain ⟨g14, g15⟩ := and_e hg
  obtain ⟨g16, g17⟩ := and_e g15
  obtain ⟨w0, w1, rfl⟩ : ∃ w0 w1 : Value, args = #[w0, w1] := by
    have hs : args.size = 2 := by simpa [Cond.value, given_1] using g14
    obtain ⟨L⟩ := args
    match L, hs with
    | [w0, w1], _ => exact ⟨w0, w1, rfl⟩
  have hw := fun d (hd : d ∈ tables_1) => atoms_spec (ws := Jvm.Cond.code x code maxLocals ret :: tables_1) hat d (List.mem_cons_of_mem _ hd)
  have hfit : Fit s := fun {y c} hc i hi => by
    obtain ⟨ha, rfl⟩ := Array.getElem?_eq_some_iff.mp hc
    have q := List.all_eq_true.mp ((Array.all_eq_true_iff_forall_mem.mp hF) _ (Array.getElem_mem ha)) i (List.mem_range.mpr hi)
    simpa [Array.getElem?_eq_getElem hi] using q
  obtain ⟨i0, ei0⟩ := isL_v g16
  obtain rfl : w0 = (.long i0) := Option.some.inj ei0
  obtain ⟨i1, ei1⟩ := is_v g17
  obtain rfl : w1 = (.int i1) := Option.some.inj ei1
  obtain ⟨n, o, h1, h2, h3, _, L, rfl, ⟨rfl, N⟩, hq⟩ := rm0 l s _ hw tables_1 i0 i1 s.heap s.heap.size (Nat.le_refl _)  p e ha hc hk s m _ below hf ((Spec.applies_iff_loose hf).mp happ).1 ⟨rfl, State.Warmed39.refl s, rfl⟩ trivial
  refine ⟨n, _, h1, h2, h3, hpost _ _ _ _ _ _ ⟨Cond.after_iff.mpr rfl, Cond.after_iff.mpr (eq_i res_at (Term.int_eval (1)) rfl), trivial⟩ ⟨hq.1, hq.2.1, (hq.2.2.sift fun y hy => Or.inr (N y hy)).mono (by decide) (by decide)⟩⟩
theorem main_1_1 : Claimed_1_1 := comes_1 fun _ _ _ _ _ _ h hF => ⟨h.1, hF⟩
theorem main_1_2 : Claimed_1_2 := comes_1 fun _ _ _ _ _ _ h hF => ⟨h.2.1, hF⟩
end Jvm.Pilot.@@N@@
namespace Jvm.Pilot.@@N@@
open Jvm Jvm.ClassFile Sem Op Lib Jvm.Free Jvm.Stand Jvm.Pilot.@@N@@.Jvm.D
/-! MADE BY PROGRAM (witnessworld.py) out of the Statement's table words and the real class files: 9 classes; the members and pool entries that the words name. The judged class is class 1, her method 2. -/
namespace start1
open Jvm.ClassFile
def u (s : String) : CpInfo := .utf8 (stringToUtf16 s)
/-- a pool by its gaps: so many unusable entries, then the entry; so many at the end -/
def gap : Nat → List CpInfo → List CpInfo
  | 0, r => r
  | n + 1, r => .unusable :: gap n r
def poolList (es : List (Nat × CpInfo)) (last : Nat) : List CpInfo := es.foldr (fun e r => gap e.1 (e.2 :: r)) (gap last [])
def pool (es : List (Nat × CpInfo)) (last : Nat) : Array CpInfo := ⟨poolList es last⟩
def fileOf (pool : Array CpInfo) (this : Nat) (attrs : Array Attribute := #[]) (ms : Array MethodInfo := #[]) (fl : Nat := 33) (sup : Nat := 0) (ifs : Array Nat := #[]) (fds : Array FieldInfo := #[]) : ClassFile where
  minorVersion := 0
  majorVersion := 65
  constantPool := pool
  accessFlags := fl
  thisClass := this
  superClass := sup
  interfaces := ifs
  fields := fds
  methods := ms
  attributes := attrs
def plain (name : String) (sup : Option ClassId) : Class where
  name := name
  kind := .ordinary
  loader := none
  accessFlags := 33
  super := sup
  interfaces := #[]
  cf := none
  fields := #[]
  methods := #[]
  instanceTypes := #[]
  staticTypes := #[]
  resolved := #[]
  callSites := []
  init := .initialized
  statics := none
  mirror := none

def pool0 : Array CpInfo := pool [(5, u "<init>"), (0, u "()V"), (1, .class_ 10), (1, u "java/lang/Object")] 113

def k0m0 : Method := { name := "<init>", desc := "()V", sig := { parameters := [], returnType := none }, accessFlags := 1, code := none }
/-- java/lang/Object -/
def k0 : Class := { plain "java/lang/Object" none with
  accessFlags := 33
  interfaces := #[]
  cf := some (fileOf pool0 8 #[] #[{ accessFlags := 1, nameIndex := 5, descriptorIndex := 6, attributes := #[] }] 33 0 #[] #[])
  fields := #[]
  methods := #[k0m0]
  instanceTypes := #[]
  staticTypes := #[]
  resolved := Array.replicate 124 none
  statics := none }

def pool1 : Array CpInfo := pool [(2, .class_ 4), (1, u "java/lang/Object"), (0, u "<init>"), (0, u "()V"), (0, .long 255), (1, .long 128), (1, .methodref 12 13), (0, .class_ 14), (0, .nameAndType 15 16), (0, u "com/example/rank60/rank60/files/WordsAtMostPinLaw"), (0, u "expectedByte"), (0, u "(JII)J"), (0, .methodref 18 19), (0, .class_ 20), (0, .nameAndType 21 22), (0, u "com/example/rank60/rank60/files/Words"), (0, u "atMost"), (0, u "(JC)J"), (3, u "law"), (0, u "(JI)Z")] 2

def k1m0 : Method := { name := "<init>", desc := "()V", sig := { parameters := [], returnType := none }, accessFlags := 2, code := none }
def k1c1 : Code := { maxStack := 4, maxLocals := 5, code := method_2_code, exceptionTable := #[], attributes := #[] }
def k1m1 : Method := { name := "expectedByte", desc := "(JII)J", sig := { parameters := [.long, .int, .int], returnType := some .long }, accessFlags := 10, code := some k1c1 }
def k1c2 : Code := { maxStack := 6, maxLocals := 7, code := code, exceptionTable := #[], attributes := #[] }
def k1m2 : Method := { name := "law", desc := "(JI)Z", sig := { parameters := [.long, .int], returnType := some .boolean }, accessFlags := 9, code := some k1c2 }
/-- com/example/rank60/rank60/files/WordsAtMostPinLaw -/
def k1 : Class := { plain "com/example/rank60/rank60/files/WordsAtMostPinLaw" (some 0) with
  accessFlags := 49
  interfaces := #[]
  cf := some (fileOf pool1 12 #[] #[{ accessFlags := 2, nameIndex := 5, descriptorIndex := 6, attributes := #[] }, { accessFlags := 10, nameIndex := 15, descriptorIndex := 16, attributes := #[] }, { accessFlags := 9, nameIndex := 26, descriptorIndex := 27, attributes := #[] }] 49 2 #[] #[])
  fields := #[]
  methods := #[k1m0, k1m1, k1m2]
  instanceTypes := #[]
  staticTypes := #[]
  resolved := Array.replicate 30 none
  statics := none }

def pool2 : Array CpInfo := pool [(2, .class_ 4), (1, u "java/lang/Object"), (0, u "<init>"), (0, u "()V"), (1, .class_ 10), (1, u "com/example/rank60/rank60/files/Words"), (0, u "LONGS"), (0, u "Ljava/lang/invoke/VarHandle;"), (11, .long 72340172838076673), (5, .long 9187201950435737471), (1, .long 18446744073709551615), (1, .long 9259542123273814144), (17, u "HIGH_BITS"), (0, u "J"), (1, u "ONES"), (0, u "GATHER"), (5, u "(JC)J"), (0, u "atMost")] 7

def k2m0 : Method := { name := "<init>", desc := "()V", sig := { parameters := [], returnType := none }, accessFlags := 2, code := none }
def k2c1 : Code := { maxStack := 6, maxLocals := 5, code := prog_85_method_6_code, exceptionTable := #[], attributes := #[] }
def k2m1 : Method := { name := "atMost", desc := "(JC)J", sig := { parameters := [.long, .char], returnType := some .long }, accessFlags := 8, code := some k2c1 }
/-- com/example/rank60/rank60/files/Words -/
def k2 : Class := { plain "com/example/rank60/rank60/files/Words" (some 0) with
  accessFlags := 48
  interfaces := #[]
  cf := some (fileOf pool2 8 #[] #[{ accessFlags := 2, nameIndex := 5, descriptorIndex := 6, attributes := #[] }, { accessFlags := 8, nameIndex := 63, descriptorIndex := 62, attributes := #[] }] 48 2 #[] #[{ accessFlags := 24, nameIndex := 52, descriptorIndex := 53, attributes := #[] }, { accessFlags := 26, nameIndex := 55, descriptorIndex := 53, attributes := #[] }, { accessFlags := 26, nameIndex := 56, descriptorIndex := 53, attributes := #[] }, { accessFlags := 26, nameIndex := 11, descriptorIndex := 12, attributes := #[] }])
  fields := #[{ name := "HIGH_BITS", type := .long, accessFlags := 24, slot := 0, constantValue := 0 }, { name := "ONES", type := .long, accessFlags := 26, slot := 1, constantValue := 0 }, { name := "GATHER", type := .long, accessFlags := 26, slot := 2, constantValue := 0 }, { name := "LONGS", type := (.object "java/lang/invoke/VarHandle"), accessFlags := 26, slot := 3, constantValue := 0 }]
  methods := #[k2m0, k2m1]
  instanceTypes := #[]
  staticTypes := #[.long, .long, .long, (.object "java/lang/invoke/VarHandle")]
  resolved := Array.replicate 71 none
  statics := none }

def pool3 : Array CpInfo := pool [(1, u "java/lang/Cloneable"), (0, .class_ 1), (0, u "java/lang/Object"), (0, .class_ 3)] 3

/-- java/lang/Cloneable -/
def k3 : Class := { plain "java/lang/Cloneable" (some 0) with
  accessFlags := 1537
  interfaces := #[]
  cf := some (fileOf pool3 2 #[] #[] 1537 4 #[] #[])
  fields := #[]
  methods := #[]
  instanceTypes := #[]
  staticTypes := #[]
  resolved := Array.replicate 8 none
  statics := none }

def pool4 : Array CpInfo := pool [(1, u "java/io/Serializable"), (0, .class_ 1), (0, u "java/lang/Object"), (0, .class_ 3)] 3

/-- java/io/Serializable -/
def k4 : Class := { plain "java/io/Serializable" (some 0) with
  accessFlags := 1537
  interfaces := #[]
  cf := some (fileOf pool4 2 #[] #[] 1537 4 #[] #[])
  fields := #[]
  methods := #[]
  instanceTypes := #[]
  staticTypes := #[]
  resolved := Array.replicate 8 none
  statics := none }

/-- the primitive byte -/
def k5 : Class := { plain "byte" none with kind := .primitive 'B', accessFlags := 0x411 }
/-- [B -/
def k6 : Class := { plain "[B" (some 0) with kind := .array 5 .byte, interfaces := #[3, 4], accessFlags := 1041 }

/-- the primitive int -/
def k7 : Class := { plain "int" none with kind := .primitive 'I', accessFlags := 0x411 }
/-- [I -/
def k8 : Class := { plain "[I" (some 0) with kind := .array 7 .int, interfaces := #[3, 4], accessFlags := 1041 }

def heap : Heap := #[]
def classes : Array Class := #[k0, k1, k2, k3, k4, k5, k6, k7, k8]
def interned : List (Array UInt16 × Addr) := []
def slotsUsed : Nat := 0
def theMethod : MethodId := ⟨1, 2⟩
def args0 : Array Value := #[.long 5, .int 3]
def aboutOver (below : List Frame) : State where
  vm := { classes := classes, interned := interned.toArray }
  heap := heap
  slotsUsed := slotsUsed
  threads := #[{ frames := .invoking theMethod args0 :: below }]
def below0 : List Frame := [.native { method := ⟨0, 0⟩, args := #[] }]
def about1 : State := aboutOver below0
def p0 : Program := .bare "" "" ""
def e0 : Env := launch0.env 0 0 0
theorem w_frames : about1.frames = Frame.invoking theMethod args0 :: below0 := rfl
set_option maxRecDepth 65536 in
theorem w_args : argsFit about1.vm theMethod args0 = true := by decide +kernel
set_option maxRecDepth 65536 in
theorem w_heap : heapFits about1 = true := by decide +kernel
set_option maxRecDepth 65536 in
theorem w_runnable : about1.curStatus? = some .runnable := by decide +kernel
set_option maxRecDepth 65536 in
theorem w_alone : about1.alone = true := by decide +kernel
set_option maxRecDepth 65536 in
theorem w_named : about1.methodNamed? x = some theMethod := by decide +kernel
set_option maxRecDepth 65536 in
theorem w_hears : about1.hears theMethod below0 = true := by decide +kernel
set_option maxRecDepth 65536 in
theorem w_ripe : about1.ripe theMethod args0 below0 = true := by decide +kernel
theorem w_running : about1.status = .running := rfl
set_option maxRecDepth 65536 in
theorem w_room : about1.hasRoom e0.platform room_1 = true :=
  launch0.hasRoom_least _ room_1 (by decide +kernel) (by decide +kernel) (by decide +kernel) (by decide +kernel) (by decide +kernel) (by decide +kernel)
theorem allAtoms_all (ts : List Jvm.Cond) (a : Array Jvm.Value) (st : Jvm.State) : (allAtoms ts).before a st = ts.all (fun c => c.before a st) := by
  induction ts with
  | nil => rfl
  | cons c t ih =>
    show (Jvm.Cond.and c (allAtoms t)).before a st = _
    rw [Jvm.Cond.before_and, ih, List.all_cons]
def words1 : List Jvm.Cond := Jvm.Cond.code x code maxLocals ret :: tables_1
/-- a 'code' word, met by the world's own term for the bytes: nothing is compared byte by byte -/
theorem code_word {y : MethodName} {bytes : ByteArray} {mx : Nat} {rt : Option FieldType} {a : Array Value} {s : State} {m : MethodId} {meth : Method} {c : Code} (h1 : s.methodNamed? y = some m) (h2 : s.vm.method? m = some meth) (h3 : meth.code = some c) (h4 : c.code = bytes)
    (h5 : (c.maxLocals == mx && c.exceptionTable.isEmpty && decide (c.maxStack ≤ mostOperands) && decide (meth.sig.returnType = rt) && !meth.locks && decide (parseMethodDescriptor y.desc = some meth.sig)) = true) : (Jvm.Cond.code y bytes mx rt).before a s = true := by
  simp only [Bool.and_eq_true, beq_iff_eq, Bool.not_eq_true', decide_eq_true_eq] at h5
  obtain ⟨⟨⟨⟨⟨g1, g2⟩, g3⟩, g4⟩, g5⟩, g6⟩ := h5
  simp [Cond.before, Cond.holds, Cond.value, h1, h2, h3, h4, g1, g2, g3, g4, g5, g6]
def isCode : Jvm.Cond → Bool
  | .code _ _ _ _ => true
  | _ => false
theorem all_split {L : List Jvm.Cond} {P : Jvm.Cond → Bool} (h1 : L.all (fun c => isCode c || P c) = true) (h2 : ∀ c ∈ L.filter isCode, P c = true) : L.all P = true := by
  refine List.all_eq_true.mpr fun c hc => ?_
  have h := List.all_eq_true.mp h1 c hc
  rcases Bool.eq_false_or_eq_true (isCode c) with hi | hi
  · exact h2 c (List.mem_filter.mpr ⟨hc, hi⟩)
  · simpa [hi] using h
set_option maxRecDepth 65536 in
theorem w_c0 : (Jvm.Cond.code x code maxLocals ret).before args0 about1 = true := code_word (m := ⟨1, 2⟩) (meth := k1m2) (c := k1c2) (by decide +kernel) rfl rfl rfl (by decide +kernel)
set_option maxRecDepth 65536 in
theorem w_c1 : (Jvm.Cond.code ({ cls := "com/example/rank60/rank60/files/WordsAtMostPinLaw", name := "expectedByte", desc := "(JII)J" } : Jvm.MethodName) method_2_code (5 : Nat) (Option.some Jvm.ClassFile.FieldType.long)).before args0 about1 = true := code_word (m := ⟨1, 1⟩) (meth := k1m1) (c := k1c1) (by decide +kernel) rfl rfl rfl (by decide +kernel)
set_option maxRecDepth 65536 in
theorem w_c2 : (Jvm.Cond.code ({ cls := "com/example/rank60/rank60/files/Words", name := "atMost", desc := "(JC)J" } : Jvm.MethodName) prog_85_method_6_code (5 : Nat) (Option.some Jvm.ClassFile.FieldType.long)).before args0 about1 = true := code_word (m := ⟨2, 1⟩) (meth := k2m1) (c := k2c1) (by decide +kernel) rfl rfl rfl (by decide +kernel)
def codes1 : List Jvm.Cond := [Jvm.Cond.code x code maxLocals ret, Jvm.Cond.code ({ cls := "com/example/rank60/rank60/files/WordsAtMostPinLaw", name := "expectedByte", desc := "(JII)J" } : Jvm.MethodName) method_2_code (5 : Nat) (Option.some Jvm.ClassFile.FieldType.long), Jvm.Cond.code ({ cls := "com/example/rank60/rank60/files/Words", name := "atMost", desc := "(JC)J" } : Jvm.MethodName) prog_85_method_6_code (5 : Nat) (Option.some Jvm.ClassFile.FieldType.long)]
set_option maxRecDepth 65536 in
theorem codes_eq : words1.filter isCode = codes1 := rfl
theorem w_codes : ∀ c ∈ words1.filter isCode, c.before args0 about1 = true := by
  rw [codes_eq]
  intro c hc
  simp only [codes1, List.mem_cons, List.not_mem_nil, or_false] at hc
  rcases hc with rfl | rfl | rfl
  · exact w_c0
  · exact w_c1
  · exact w_c2
set_option maxRecDepth 65536 in
theorem w_t1 : words1.all (fun c => isCode c || c.before args0 about1) = true := by decide +kernel
theorem w_tables : (allAtoms (Jvm.Cond.code x code maxLocals ret :: tables_1)).before args0 about1 = true := by
  rw [allAtoms_all]
  show words1.all (fun c => c.before args0 about1) = true
  refine all_split ?_ w_codes
  rw [w_t1]
set_option maxRecDepth 65536 in
theorem w_case : (Jvm.Cond.and given_1 narrow_1).before args0 about1 = true := by decide +kernel
theorem w_applies : (headSpec (Jvm.Cond.code x code maxLocals ret :: tables_1) room_1).applies x e0.platform about1 = true :=
  (Spec.applies_iff w_frames).mpr ⟨w_running, w_runnable, w_alone, w_named, w_hears, w_ripe, w_room, w_tables⟩
theorem atStart : AtStart classFile x code maxLocals ret World_1 tables_1 room_1 Calls_1 rest_1 Pre_1 launch0 p0 e0 about1 theMethod args0 below0 :=
  ⟨lists_1, trivial, launch0.admits_env _ _ _, launch0.least_env, fairChoices_fair.cas, fairChoices_fair.clock, w_frames, w_args, w_heap, w_applies, trivial, trivial, w_case⟩
end start1
theorem witness_1 : WitnessClaimed_1 := ⟨start1.p0, start1.e0, start1.about1, start1.theMethod, start1.args0, start1.below0, start1.atStart⟩
end Jvm.Pilot.@@N@@
