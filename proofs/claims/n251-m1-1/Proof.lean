import JvmDerived
import JvmDerived.Pilot.@@N@@Statement
import JvmDerived.Pilot.@@N@@Code
set_option linter.unusedVariables false
set_option linter.unusedSimpArgs false
namespace Jvm.RoadKit
open Sem ClassFile Op Lib Jvm.Stand Jvm.Free Jvm.LawKit
section New
variable {p : Program} {l : Launch} {e : Env} {R : Room} {s : State} {m : MethodId} {args : Array Value} {below : List Frame} {meth : Method} {c : Code} {T : State} {locs : List Loc} {cells slots : Nat}
theorem retI (X : Stand p l e R s m args below meth c T locs cells slots) (hx : p.tables.exec = Jvm.exec) {pc : Nat} {Ls : Array Slot} {z : Int32} {rest : List Value} (hret : meth.sig.returnType = some .int) (hd : decode c.code pc = .ok (.ireturn, 1)) {fs : List Frame}
    (hl : ∀ (f : JFrame) (acts : List Action), f.method = m → f.locked = none → f.entered = [] → (doReturn e (T.setTop f) acts (some (.int z))).1 = T.setFrames fs) : Steps p.tables e below (T.setTop (mkF m pc Ls (.int z :: rest))) (T.setFrames fs) := by
  have hm' : T.vm.method? m = some meth := X.method'
  have hn : narrow .int (.int z) = .int z := rfl
  show Steps p.tables e below (T.setTop { method := m, pc := pc, locals := Ls, stack := _ :: rest, locked := none }) _
  jvm_step X.here [X.here.top, hx, hd, hm', hret, hn]
  first | (intro acts; rw [hl _ acts rfl rfl rfl]) | rw [hl _ _ rfl rfl rfl]
  exact Steps.refl _
end New
end Jvm.RoadKit
namespace Jvm.Pilot.@@N@@
open Jvm Jvm.ClassFile Sem Op Lib Jvm.Free Jvm.Stand Jvm.LawKit Jvm.RoadKit Bundle Jvm.Pilot.@@N@@.Jvm.D
abbrev own_S (p : Program) (e : Env) (below : List Frame) (T : State) (f : JFrame) (t : State) : Prop := Steps p.tables e below (T.setTop f) t
abbrev own_ushr (x y : Int32) : Int32 := (x.toUInt32 >>> (y &&& 31).toUInt32).toInt32
abbrev own_ushrL (x : Int64) (y : Int32) : Int64 := (x.toUInt64 >>> (y &&& 63).toInt64.toUInt64).toInt64
def own_Qi (z : Int32) (h0 : Heap) (n0 : Nat) (v : Option Value) (h : Heap) (L : List Loc) : Prop := v = some (.int z) ∧ Fr n0 L ∧ h = h0
theorem own_wk {Z : State} {ag : Array Value} {d : Jvm.Cond} (hw : ∀ d ∈ tables_1, d.before ag Z = true) (i : Nat) (h : tables_1[i]? = some d) : d.before ag Z = true := hw d (List.mem_of_getElem? h)
theorem own_cast {α : Sort _} {P : α → Prop} {a b : α} (h : a = b) (k : P a) : P b := h ▸ k
def own_ge (M : Nat) : Jvm.FP.Core.Datum → Prop
  | .inf s => s = false
  | .fin s c q => s = false ∧ M * 2 ^ (-q).toNat ≤ c * 2 ^ q.toNat
  | .nan => False
theorem own_pw {P Q x y x' y' : Nat} (h : P * 2 ^ x ≤ Q * 2 ^ y) (e : x + y' = x' + y) : P * 2 ^ x' ≤ Q * 2 ^ y' := by
  have h1 : P * 2 ^ x * 2 ^ y' ≤ Q * 2 ^ y * 2 ^ y' := Nat.mul_le_mul_right _ h
  have e1 : P * 2 ^ x * 2 ^ y' = P * 2 ^ x' * 2 ^ y := by rw [Nat.mul_assoc, ← Nat.pow_add, e, Nat.pow_add, ← Nat.mul_assoc]
  have e2 : Q * 2 ^ y * 2 ^ y' = Q * 2 ^ y' * 2 ^ y := by rw [Nat.mul_assoc, Nat.mul_comm (2 ^ y), ← Nat.mul_assoc]
  rw [e1, e2] at h1
  exact Nat.le_of_mul_le_mul_right h1 (Nat.two_pow_pos y)
theorem own_c52 {A B : Nat} {e r : Int} (_ : 0 < B) (h : ¬ Jvm.FP.Core.Below A B (r - e + 52)) : 2 ^ 52 * (B * 2 ^ (r - e).toNat) ≤ A * 2 ^ (e - r).toNat :=
  Nat.le_of_not_lt fun z => h ((Jvm.FP.Core.units_below A B e r 52).mp z)
theorem own_round_ge {A B M : Nat} {e : Int} (hA : 0 < A) (hB : 0 < B) (hM : M ≤ 2 ^ 53) (h : M * B * 2 ^ (-e).toNat ≤ A * 2 ^ e.toNat) : own_ge M (Jvm.FP.Core.roundRatio Jvm.FP.Core.b64 false A B e) := by
  have hA0 : ¬ A = 0 := by omega
  unfold Jvm.FP.Core.roundRatio; rw [if_neg hA0]
  unfold Jvm.FP.Core.roundAt
  have g1 : (-1074 : Int) ≤ Jvm.FP.Core.quantum Jvm.FP.Core.b64 A B e := Jvm.FP.Core.quantum_ge Jvm.FP.Core.b64 A B e
  have g2 : _ ≤ 2 ^ 53 := Jvm.FP.Core.nearest_units_le (f := Jvm.FP.Core.b64) hA hB e
  have g3 : Jvm.FP.Core.quantum Jvm.FP.Core.b64 A B e = -1074 ∨ ¬ Jvm.FP.Core.Below A B (Jvm.FP.Core.quantum Jvm.FP.Core.b64 A B e - e + 52) := Jvm.FP.Core.quantum_not_below (f := Jvm.FP.Core.b64) hA hB e
  generalize Jvm.FP.Core.quantum Jvm.FP.Core.b64 A B e = r at *
  generalize hc : Jvm.FP.Core.nearest (Jvm.FP.Core.unitsNum A e r) (Jvm.FP.Core.unitsDen B e r) = c at *
  have key : M * 2 ^ (-r).toNat ≤ c * 2 ^ r.toNat := by
    by_cases hr : r ≤ 0
    · have e0 : r.toNat = 0 := by omega
      rw [e0, Nat.pow_zero, Nat.mul_one, ← hc]
      apply Jvm.FP.Core.nearest_ge (Jvm.FP.Core.unitsDen_pos hB ..)
      unfold Jvm.FP.Core.unitsDen Jvm.FP.Core.unitsNum
      have w := own_pw (P := M * B) (Q := A) (x := (-e).toNat) (y := e.toNat) (x' := (-r).toNat + (r - e).toNat) (y' := (e - r).toNat) h (by omega)
      have e1 : M * 2 ^ (-r).toNat * (B * 2 ^ (r - e).toNat) = M * B * 2 ^ ((-r).toNat + (r - e).toNat) := by rw [Nat.pow_add]; ac_rfl
      rw [e1]; exact w
    · have q : ¬ Jvm.FP.Core.Below A B (r - e + 52) := by
        rcases g3 with g | g
        · omega
        · exact g
      have c52 : 2 ^ 52 ≤ c := by
        rw [← hc]
        apply Jvm.FP.Core.nearest_ge (Jvm.FP.Core.unitsDen_pos hB ..)
        exact own_c52 hB q
      have e0 : (-r).toNat = 0 := by omega
      obtain ⟨k, hk⟩ : ∃ k, r.toNat = k + 1 := ⟨r.toNat - 1, by omega⟩
      rw [e0, hk, Nat.pow_zero, Nat.mul_one, Nat.pow_succ]
      have p : 1 ≤ 2 ^ k := Nat.one_le_two_pow
      calc M ≤ 2 ^ 52 * (1 * 2) := by omega
        _ ≤ c * (2 ^ k * 2) := Nat.mul_le_mul c52 (Nat.mul_le_mul_right 2 p)
  unfold Jvm.FP.Core.settle
  split
  · unfold Jvm.FP.Core.bound; split
    · exact ⟨rfl, key⟩
    · exact rfl
  · rename_i hge
    have hge' : ¬ c < 2 ^ 53 := hge
    unfold Jvm.FP.Core.bound; split
    · refine ⟨rfl, ?_⟩
      have ec : c = 2 ^ 53 := by omega
      subst ec
      show M * 2 ^ (-(r + 1)).toNat ≤ 2 ^ 52 * 2 ^ (r + 1).toNat
      refine own_pw (x := (-r).toNat) (y := r.toNat + 1) ?_ (by omega)
      rw [Nat.pow_succ (n := 2) (m := r.toNat)]
      have e5 : 2 ^ 52 * (2 ^ r.toNat * 2) = 2 ^ 53 * 2 ^ r.toNat := by rw [show (2 : Nat) ^ 53 = 2 ^ 52 * 2 from rfl]; ac_rfl
      rw [e5]; exact key
    · exact rfl
theorem own_round_le {A B W t : Nat} {e : Int} (hA : 0 < A) (hB : 0 < B) (hW : W < 2 ^ 53) (ht : t ≤ 1000) (h : A * 2 ^ (e.toNat + t) ≤ W * B * 2 ^ (-e).toNat) :
    ∃ (c : Nat) (q : Int), Jvm.FP.Core.roundRatio Jvm.FP.Core.b64 false A B e = .fin false c q ∧ c * 2 ^ (q.toNat + t) ≤ W * 2 ^ (-q).toNat := by
  have hA0 : ¬ A = 0 := by omega
  unfold Jvm.FP.Core.roundRatio; rw [if_neg hA0]
  unfold Jvm.FP.Core.roundAt
  have g1 : (-1074 : Int) ≤ Jvm.FP.Core.quantum Jvm.FP.Core.b64 A B e := Jvm.FP.Core.quantum_ge Jvm.FP.Core.b64 A B e
  have g2 : _ ≤ 2 ^ 53 := Jvm.FP.Core.nearest_units_le (f := Jvm.FP.Core.b64) hA hB e
  have g3 : Jvm.FP.Core.quantum Jvm.FP.Core.b64 A B e = -1074 ∨ ¬ Jvm.FP.Core.Below A B (Jvm.FP.Core.quantum Jvm.FP.Core.b64 A B e - e + 52) := Jvm.FP.Core.quantum_not_below (f := Jvm.FP.Core.b64) hA hB e
  generalize Jvm.FP.Core.quantum Jvm.FP.Core.b64 A B e = r at *
  have hr : r ≤ -(t : Int) := by
    refine Int.not_lt.mp fun hlt => ?_
    have q : ¬ Jvm.FP.Core.Below A B (r - e + 52) := by
      rcases g3 with g | g
      · omega
      · exact g
    have w := own_c52 hB q
    rw [← Nat.mul_assoc] at w
    have w2 := own_pw (P := 2 ^ 52 * B) (Q := A) (x := (r - e).toNat) (y := (e - r).toNat) (x' := (r + t).toNat + (-e).toNat) (y' := e.toNat + t) w (by omega)
    have w3 := Nat.le_trans w2 h
    rw [Nat.pow_add, ← Nat.mul_assoc] at w3
    have w4 := Nat.le_of_mul_le_mul_right w3 (Nat.two_pow_pos _)
    have w5 : 2 ^ 52 * 2 ^ (r + t).toNat * B ≤ W * B := by
      have : 2 ^ 52 * 2 ^ (r + t).toNat * B = 2 ^ 52 * B * 2 ^ (r + t).toNat := by ac_rfl
      rw [this]; exact w4
    have w6 := Nat.le_of_mul_le_mul_right w5 hB
    obtain ⟨k, hk⟩ : ∃ k, (r + t).toNat = k + 1 := ⟨(r + t).toNat - 1, by omega⟩
    rw [hk, Nat.pow_succ] at w6
    have p : 1 ≤ 2 ^ k := Nat.one_le_two_pow
    have : 2 ^ 52 * (1 * 2) ≤ 2 ^ 52 * (2 ^ k * 2) := Nat.mul_le_mul_left _ (Nat.mul_le_mul_right 2 p)
    omega
  have hc : Jvm.FP.Core.nearest (Jvm.FP.Core.unitsNum A e r) (Jvm.FP.Core.unitsDen B e r) ≤ W * 2 ^ (-t - r).toNat := by
    apply Jvm.FP.Core.nearest_le (Jvm.FP.Core.unitsDen_pos hB ..)
    unfold Jvm.FP.Core.unitsDen Jvm.FP.Core.unitsNum
    have w := own_pw (P := A) (Q := W * B) (x := e.toNat + t) (y := (-e).toNat) (x' := (e - r).toNat) (y' := (-t - r).toNat + (r - e).toNat) h (by omega)
    have e1 : W * 2 ^ (-t - r).toNat * (B * 2 ^ (r - e).toNat) = W * B * 2 ^ ((-t - r).toNat + (r - e).toNat) := by rw [Nat.pow_add]; ac_rfl
    rw [e1]; exact w
  generalize Jvm.FP.Core.nearest (Jvm.FP.Core.unitsNum A e r) (Jvm.FP.Core.unitsDen B e r) = c at *
  have key : c * 2 ^ t ≤ W * 2 ^ (-r).toNat := by
    have := Nat.mul_le_mul_right (2 ^ t) hc
    rw [Nat.mul_assoc, ← Nat.pow_add, show (-t - r).toNat + t = (-r).toNat by omega] at this
    exact this
  unfold Jvm.FP.Core.settle
  have qm : Jvm.FP.Core.b64.qmax = 971 := by decide
  split
  · unfold Jvm.FP.Core.bound
    rw [if_pos (by rw [qm]; omega)]
    refine ⟨c, r, rfl, ?_⟩
    rw [show r.toNat + t = t by omega]; exact key
  · rename_i hge
    have hge' : ¬ c < 2 ^ 53 := hge
    have ec : c = 2 ^ 53 := by omega
    subst ec
    unfold Jvm.FP.Core.bound
    rw [if_pos (by rw [qm]; omega)]
    refine ⟨Jvm.FP.Core.b64.tails, r + 1, rfl, ?_⟩
    show 2 ^ 52 * 2 ^ ((r + 1).toNat + t) ≤ W * 2 ^ (-(r + 1)).toNat
    have hr0 : r ≠ 0 := by
      intro z; subst z
      have : t = 0 := by omega
      subst this
      simp at key; omega
    refine own_pw (x := t + 1) (y := (-r).toNat) ?_ (by omega)
    rw [Nat.pow_succ (n := 2) (m := t)]
    have e5 : 2 ^ 52 * (2 ^ t * 2) = 2 ^ 53 * 2 ^ t := by rw [show (2 : Nat) ^ 53 = 2 ^ 52 * 2 from rfl]; ac_rfl
    rw [e5]; exact key
theorem own_toL_in (x : Int) (h1 : -2 ^ 63 ≤ x) (h2 : x ≤ 2 ^ 63 - 1) : (Int64.ofInt x).toInt = x := Int64.toInt_ofInt_of_le (by omega) (by omega)
theorem own_toL_ge {M : Nat} {d : Jvm.FP.Core.Datum} (h : own_ge M d) (hM : M ≤ 2 ^ 62) : (M : Int) ≤ (Jvm.FP.Core.toL d).toInt := by
  unfold Jvm.FP.Core.toL
  cases d with
  | nan => exact h.elim
  | inf s =>
    have hs : s = false := h
    subst hs
    rw [show Jvm.FP.Core.toInt (-2 ^ 63) (2 ^ 63 - 1) (.inf false) = 2 ^ 63 - 1 from rfl, own_toL_in _ (by omega) (by omega)]; omega
  | fin s c q =>
    obtain ⟨rfl, k⟩ := h
    have k2 : M ≤ c * 2 ^ q.toNat / 2 ^ (-q).toNat := (Nat.le_div_iff_mul_le (Nat.two_pow_pos _)).mpr k
    have e1 : Jvm.FP.Core.toInt (-2 ^ 63) (2 ^ 63 - 1) (.fin false c q) = max (-2 ^ 63) (min (2 ^ 63 - 1) ((c * 2 ^ q.toNat / 2 ^ (-q).toNat : Nat) : Int)) := rfl
    rw [e1]
    generalize c * 2 ^ q.toNat / 2 ^ (-q).toNat = x at *
    rw [own_toL_in _ (by omega) (by omega)]; omega
theorem own_toL_le {W t c : Nat} {q : Int} (h : c * 2 ^ (q.toNat + t) ≤ W * 2 ^ (-q).toNat) : (Jvm.FP.Core.toL (.fin false c q)).toInt ≤ ((W / 2 ^ t : Nat) : Int) := by
  unfold Jvm.FP.Core.toL
  have e1 : Jvm.FP.Core.toInt (-2 ^ 63) (2 ^ 63 - 1) (.fin false c q) = max (-2 ^ 63) (min (2 ^ 63 - 1) ((c * 2 ^ q.toNat / 2 ^ (-q).toNat : Nat) : Int)) := rfl
  have k : c * 2 ^ q.toNat / 2 ^ (-q).toNat ≤ W / 2 ^ t := by
    refine (Nat.le_div_iff_mul_le (Nat.two_pow_pos _)).mpr ?_
    refine Nat.le_of_mul_le_mul_right (c := 2 ^ (-q).toNat) ?_ (Nat.two_pow_pos _)
    have d := Nat.div_mul_le_self (c * 2 ^ q.toNat) (2 ^ (-q).toNat)
    have d2 := Nat.mul_le_mul_right (2 ^ t) d
    rw [Nat.mul_assoc c, ← Nat.pow_add] at d2
    refine Nat.le_trans ?_ (Nat.le_trans d2 h)
    exact Nat.le_of_eq (by ac_rfl)
  rw [e1]
  generalize c * 2 ^ q.toNat / 2 ^ (-q).toNat = x at *
  generalize W / 2 ^ t = y at *
  rw [own_toL_in _ (by omega) (by omega)]; omega
theorem own_pe {P Q x y x' y' : Nat} (h : P * 2 ^ x = Q * 2 ^ y) (e : x + y' = x' + y) : P * 2 ^ x' = Q * 2 ^ y' :=
  Nat.le_antisymm (own_pw (Nat.le_of_eq h) e) (own_pw (Nat.le_of_eq h.symm) (by omega))
theorem own_l2d_val (D : Int64) (h1 : 1 ≤ D.toInt) (h2 : D.toInt ≤ 9007199254740992) : ∃ (d : Nat) (r : Int), Jvm.FP.Core.val64 (Jvm.FP.Core.l2d D) = .fin false d r ∧ D.toInt.toNat * 2 ^ (-r).toNat = d * 2 ^ r.toNat ∧ 0 < d := by
  have w : Jvm.FP.Core.Whole D.toInt (Jvm.FP.Core.val64 (Jvm.FP.Core.l2d D)) := Jvm.FP.Core.l2d_int (by omega)
  cases hd : Jvm.FP.Core.val64 (Jvm.FP.Core.l2d D) with
  | nan => rw [hd] at w; exact w.elim
  | inf s => rw [hd] at w; exact w.elim
  | fin s d r =>
    rw [hd] at w
    have w' : Jvm.FP.Core.signed s (d * 2 ^ r.toNat) = D.toInt * ((2 ^ (-r).toNat : Nat) : Int) := w
    have eD : D.toInt = (D.toInt.toNat : Int) := by omega
    rw [eD, ← Int.natCast_mul] at w'
    have pp : 0 < D.toInt.toNat * 2 ^ (-r).toNat := Nat.mul_pos (by omega) (Nat.two_pow_pos _)
    cases s with
    | true =>
      have w2 : -((d * 2 ^ r.toNat : Nat) : Int) = ((D.toInt.toNat * 2 ^ (-r).toNat : Nat) : Int) := w'
      generalize D.toInt.toNat * 2 ^ (-r).toNat = X at *
      generalize d * 2 ^ r.toNat = Y at *
      omega
    | false =>
      have w2 : ((d * 2 ^ r.toNat : Nat) : Int) = ((D.toInt.toNat * 2 ^ (-r).toNat : Nat) : Int) := w'
      have w3 := Int.natCast_inj.mp w2
      refine ⟨d, r, rfl, w3.symm, Nat.pos_of_ne_zero fun z => ?_⟩
      rw [z, Nat.zero_mul] at w3; omega
theorem own_div_val (D : Int64) (h1 : 1 ≤ D.toInt) (h2 : D.toInt ≤ 2147483648) : Jvm.FP.Core.val64 (Jvm.FP.Core.ddiv 4746794007248502784 (Jvm.FP.Core.l2d D)) = Jvm.FP.Core.roundRatio Jvm.FP.Core.b64 false (2 ^ 31) D.toInt.toNat 0 := by
  obtain ⟨d, r, hd, he, hp⟩ := own_l2d_val D h1 (by omega)
  rw [Jvm.FP.Core.val64_ddiv, hd, show Jvm.FP.Core.val64 4746794007248502784 = .fin false (2 ^ 52) (-21) by decide +kernel]
  show (if d = 0 then _ else Jvm.FP.Core.roundRatio Jvm.FP.Core.b64 (false != false) (2 ^ 52) d (-21 - r)) = _
  rw [if_neg (by omega)]
  refine Jvm.FP.Core.roundRatio_congr hp (by omega) ?_
  have w := own_pe (x' := (-21 - r - 0).toNat + 52) (y' := (0 - (-21 - r)).toNat + 31) he (by omega)
  rw [Nat.pow_add, Nat.pow_add] at w
  have a1 : 2 ^ 52 * D.toInt.toNat * 2 ^ (-21 - r - 0).toNat = D.toInt.toNat * (2 ^ (-21 - r - 0).toNat * 2 ^ 52) := by ac_rfl
  have a2 : 2 ^ 31 * d * 2 ^ (0 - (-21 - r)).toNat = d * (2 ^ (0 - (-21 - r)).toNat * 2 ^ 31) := by ac_rfl
  rw [a1, a2]; exact w
theorem own_div_ge (D : Int64) (h1 : 1 ≤ D.toInt) (h2 : D.toInt ≤ 2147483648) (M : Nat) (hM : M ≤ 2147483648 / D.toInt.toNat) : own_ge M (Jvm.FP.Core.val64 (Jvm.FP.Core.ddiv 4746794007248502784 (Jvm.FP.Core.l2d D))) := by
  rw [own_div_val D h1 h2]
  have hD : 0 < D.toInt.toNat := by omega
  have q : M * D.toInt.toNat ≤ 2147483648 := (Nat.le_div_iff_mul_le hD).mp hM
  have q2 : M ≤ 2147483648 := Nat.le_trans hM (Nat.div_le_self _ _)
  refine own_round_ge (by decide) hD (by omega) ?_
  show M * D.toInt.toNat * 2 ^ 0 ≤ 2 ^ 31 * 2 ^ 0
  omega
theorem own_div_le (D : Int64) (h1 : 1 ≤ D.toInt) (h2 : D.toInt ≤ 2147483648) : (Jvm.FP.Core.d2l (Jvm.FP.Core.ddiv 4746794007248502784 (Jvm.FP.Core.l2d D))).toInt ≤ ((2147483648 / D.toInt.toNat : Nat) : Int) := by
  show (Jvm.FP.Core.toL (Jvm.FP.Core.val64 (Jvm.FP.Core.ddiv 4746794007248502784 (Jvm.FP.Core.l2d D)))).toInt ≤ _
  rw [own_div_val D h1 h2]
  have hD : 0 < D.toInt.toNat := by omega
  have hD2 : D.toInt.toNat ≤ 2147483648 := by omega
  generalize D.toInt.toNat = d at *
  have lt : 2147483648 < (2147483648 / d + 1) * d := by
    have a := Nat.div_add_mod 2147483648 d; have b := Nat.mod_lt 2147483648 hD
    rw [Nat.add_mul, Nat.one_mul, Nat.mul_comm]; omega
  have go : ∀ t : Nat, d ≤ 2 ^ t → (2147483648 / d + 1) * 2 ^ t ≤ 2 ^ 53 → t ≤ 1000 → (Jvm.FP.Core.toL (Jvm.FP.Core.roundRatio Jvm.FP.Core.b64 false (2 ^ 31) d 0)).toInt ≤ ((2147483648 / d : Nat) : Int) := by
    intro t ht hW h1000
    have p2 := Nat.two_pow_pos t
    have pos : 0 < (2147483648 / d + 1) * 2 ^ t := Nat.mul_pos (Nat.succ_pos _) p2
    obtain ⟨c, q, e1, e2⟩ := own_round_le (A := 2 ^ 31) (B := d) (W := (2147483648 / d + 1) * 2 ^ t - 1) (t := t) (e := 0) (by decide) hD (by omega) h1000 (by
      show 2 ^ 31 * 2 ^ (0 + t) ≤ ((2147483648 / d + 1) * 2 ^ t - 1) * d * 2 ^ 0
      rw [Nat.zero_add, Nat.pow_zero, Nat.mul_one, Nat.sub_mul, Nat.one_mul]
      have m := Nat.mul_le_mul_right (2 ^ t) lt
      have e3 : (2147483648 / d + 1) * 2 ^ t * d = (2147483648 / d + 1) * d * 2 ^ t := by ac_rfl
      rw [e3]
      have m2 : (2147483648 + 1) * 2 ^ t ≤ (2147483648 / d + 1) * d * 2 ^ t := m
      rw [Nat.add_mul, Nat.one_mul] at m2
      show 2147483648 * 2 ^ t ≤ _
      generalize (2147483648 / d + 1) * d * 2 ^ t = X at *
      omega)
    rw [e1]
    refine Int.le_trans (own_toL_le e2) ?_
    have k : ((2147483648 / d + 1) * 2 ^ t - 1) / 2 ^ t < 2147483648 / d + 1 := (Nat.div_lt_iff_lt_mul p2).mpr (by omega)
    omega
  by_cases h : d ≤ 2097152
  · refine go 21 (by omega) ?_ (by decide)
    have : 2147483648 / d ≤ 2147483648 := Nat.div_le_self _ _
    calc (2147483648 / d + 1) * 2 ^ 21 ≤ (2147483648 + 1) * 2 ^ 21 := Nat.mul_le_mul_right _ (by omega)
      _ ≤ 2 ^ 53 := by decide
  · refine go 31 (by omega) ?_ (by decide)
    have : 2147483648 / d < 1025 := (Nat.div_lt_iff_lt_mul hD).mpr (by omega)
    calc (2147483648 / d + 1) * 2 ^ 31 ≤ 1025 * 2 ^ 31 := Nat.mul_le_mul_right _ (by omega)
      _ ≤ 2 ^ 53 := by decide
theorem own_mul_ge (M : Int64) (x : UInt64) (h1 : 1 ≤ M.toInt) (h2 : M.toInt ≤ 9007199254740992) (hx : own_ge 1 (Jvm.FP.Core.val64 x)) : own_ge M.toInt.toNat (Jvm.FP.Core.val64 (Jvm.FP.Core.dmul (Jvm.FP.Core.l2d M) x)) := by
  obtain ⟨d, r, hd, he, hp⟩ := own_l2d_val M h1 h2
  rw [Jvm.FP.Core.val64_dmul, hd]
  generalize Jvm.FP.Core.val64 x = y at *
  cases y with
  | nan => exact hx.elim
  | inf s =>
    have hs : s = false := hx
    subst hs
    show own_ge _ (Jvm.FP.Core.round Jvm.FP.Core.b64 (if d = 0 then .nan else .inf (false != false)))
    rw [if_neg (by omega)]; exact rfl
  | fin s c q =>
    obtain ⟨rfl, k⟩ := hx
    show own_ge _ (Jvm.FP.Core.roundRatio Jvm.FP.Core.b64 false (d * c) 1 (r + q))
    have pq := Nat.two_pow_pos (-q).toNat
    have hc : 0 < c := Nat.pos_of_ne_zero fun z => by rw [z, Nat.zero_mul] at k; omega
    refine own_round_ge (Nat.mul_pos hp hc) (by decide) (by omega) ?_
    rw [Nat.mul_one]
    refine own_pw (x := (-r).toNat + (-q).toNat) (y := r.toNat + q.toNat) ?_ (by omega)
    rw [Nat.pow_add, Nat.pow_add, ← Nat.mul_assoc, he]
    have e5 : d * c * (2 ^ r.toNat * 2 ^ q.toNat) = d * 2 ^ r.toNat * (c * 2 ^ q.toNat) := by ac_rfl
    rw [e5]
    exact Nat.mul_le_mul_left _ (by omega)
theorem own_ge_nn {M : Nat} {x : UInt64} (h : own_ge M (Jvm.FP.Core.val64 x)) : Jvm.FP.Core.val64 x ≠ .nan := fun z => by rw [z] at h; exact h
def own_d (k : Int64) : Int64 := (own_ushrL k (33 : Int32)) + (1 : Int64)
def own_k (k : Int64) : Int64 := (k * (2862933555777941757 : Int64)) + (1 : Int64)
def own_q (k : Int64) : UInt64 := FP.ddiv (4746794007248502784 : UInt64) (FP.l2d (own_d k))
def own_nx (k b : Int64) : Int64 := FP.d2l (FP.dmul (FP.l2d (b + (1 : Int64))) (own_q k))
theorem own_l1 (b : Int64) (h0 : 0 ≤ b.toInt) (h1 : b.toInt < 9007199254740000) : (b + (1 : Int64)).toInt = b.toInt + 1 := by
  have a := c_ladd b (1 : Int64); have r := rng64 (b + (1 : Int64)); have e : (1 : Int64).toInt = 1 := rfl
  omega
theorem own_d_rng (k : Int64) : 1 ≤ (own_d k).toInt ∧ (own_d k).toInt ≤ 2147483648 := by
  have u : (own_ushrL k (33 : Int32)).toInt = (k.toInt % 18446744073709551616) / (2 ^ 33 : Nat) := c_lushr k (33 : Int32) 33 rfl (by decide)
  have p : ((2 ^ 33 : Nat) : Int) = 8589934592 := by decide
  rw [p] at u
  have h0 : 0 ≤ (own_ushrL k (33 : Int32)).toInt := by omega
  have h1 : (own_ushrL k (33 : Int32)).toInt < 2147483648 := by omega
  unfold own_d; rw [own_l1 _ h0 (by omega)]; omega
theorem own_q_ge (k : Int64) : own_ge 1 (Jvm.FP.Core.val64 (own_q k)) := by
  have r := own_d_rng k
  refine own_div_ge (own_d k) r.1 r.2 1 ?_
  exact (Nat.le_div_iff_mul_le (by omega)).mpr (by omega)
theorem own_q_nn (k : Int64) : Jvm.Free.Fl.NoNaN64 (own_q k) := Jvm.Free.Fl.val64_no.mpr (own_ge_nn (own_q_ge k))
theorem own_m_ge (k b : Int64) (h0 : 0 ≤ b.toInt) (h1 : b.toInt < 2147483648) : own_ge (b + (1 : Int64)).toInt.toNat (Jvm.FP.Core.val64 (FP.dmul (FP.l2d (b + (1 : Int64))) (own_q k))) := by
  have e := own_l1 b h0 (by omega)
  exact own_mul_ge (b + (1 : Int64)) (own_q k) (by omega) (by omega) (own_q_ge k)
theorem own_m_nn (k b : Int64) (h0 : 0 ≤ b.toInt) (h1 : b.toInt < 2147483648) : Jvm.Free.Fl.NoNaN64 (FP.dmul (FP.l2d (b + (1 : Int64))) (own_q k)) := Jvm.Free.Fl.val64_no.mpr (own_ge_nn (own_m_ge k b h0 h1))
theorem own_nx_gt (k b : Int64) (h0 : 0 ≤ b.toInt) (h1 : b.toInt < 2147483648) : b.toInt + 1 ≤ (own_nx k b).toInt := by
  have e := own_l1 b h0 (by omega)
  have g := own_toL_ge (own_m_ge k b h0 h1) (by omega)
  have g2 : ((b + (1 : Int64)).toInt.toNat : Int) ≤ (own_nx k b).toInt := g
  omega
theorem own_nx0 (k : Int64) : (own_nx k (0 : Int64)).toInt = ((2147483648 / (own_d k).toInt.toNat : Nat) : Int) := by
  have r := own_d_rng k
  have e : own_nx k (0 : Int64) = FP.d2l (own_q k) := by
    unfold own_nx
    have e1 : FP.dmul (FP.l2d ((0 : Int64) + (1 : Int64))) (own_q k) = own_q k := by
      have a : FP.l2d ((0 : Int64) + (1 : Int64)) = Jvm.FP.Core.dconst1 := by decide +kernel
      rw [a]
      exact (Jvm.FP.Core.dmul_comm _ _).trans (Jvm.FP.Core.dmul_one (own_ge_nn (own_q_ge k)))
    rw [e1]
  rw [e]
  have hi := own_div_le (own_d k) r.1 r.2
  have hp : 0 < (own_d k).toInt.toNat := by omega
  have q2 : 2147483648 / (own_d k).toInt.toNat ≤ 2147483648 := Nat.div_le_self _ _
  have lo := own_toL_ge (own_div_ge (own_d k) r.1 r.2 _ (Nat.le_refl _)) (by omega)
  exact Int.le_antisymm hi lo
def own_run (n : Int64) : Nat → Int64 → Int64 → Int64 → Int64
  | 0, _, b, _ => b
  | f + 1, k, b, j => if j < n then own_run n f (own_k k) j (own_nx (own_k k) j) else b
theorem own_i64 (p : Int32) : p.toInt64.toInt = p.toInt := Int32.toInt_toInt64 p
theorem own_nlt {n j : Int64} (h : n.toInt ≤ j.toInt + ((0 : Nat) : Int)) : ¬ j < n := by rw [Int64.lt_iff_toInt_lt]; omega
theorem own_step {p : Int32} {j k : Int64} {f : Nat} (hc : j < p.toInt64) (hj : 0 ≤ j.toInt) (hf : p.toInt64.toInt ≤ j.toInt + ((f + 1 : Nat) : Int)) : (0 ≤ j.toInt ∧ j.toInt < 2147483648) ∧ 0 ≤ (own_nx k j).toInt ∧ p.toInt64.toInt ≤ (own_nx k j).toInt + (f : Int) := by
  rw [Int64.lt_iff_toInt_lt, own_i64] at hc; rw [own_i64] at hf ⊢
  have r := rng32 p
  have g := own_nx_gt k j hj (by omega)
  omega
/-- what one run gives: it stays between b and n, and takes j if it can -/
theorem own_run_mem (n : Int64) (hn : n.toInt ≤ 2147483647) : ∀ (f : Nat) (k b j : Int64), n.toInt ≤ j.toInt + (f : Int) → 0 ≤ j.toInt → b.toInt < j.toInt → b.toInt < n.toInt →
    (b.toInt ≤ (own_run n f k b j).toInt ∧ (own_run n f k b j).toInt < n.toInt ∧ (j.toInt < n.toInt → j.toInt ≤ (own_run n f k b j).toInt) ∧ (¬ j.toInt < n.toInt → own_run n f k b j = b)) := by
  intro f
  induction f with
  | zero =>
    intro k b j h1 h2 h3 h4
    refine ⟨Int.le_refl _, h4, fun q => ?_, fun _ => rfl⟩
    exfalso; omega
  | succ f ih =>
    intro k b j h1 h2 h3 h4
    by_cases c : j < n
    · have c' := Int64.lt_iff_toInt_lt.mp c
      have g := own_nx_gt (own_k k) j h2 (by omega)
      have I := ih (own_k k) j (own_nx (own_k k) j) (by omega) (by omega) (by omega) c'
      rw [own_run, if_pos c]
      exact ⟨by omega, I.2.1, fun _ => I.1, fun q => absurd c' q⟩
    · have c' : ¬ j.toInt < n.toInt := fun q => c (Int64.lt_iff_toInt_lt.mpr q)
      rw [own_run, if_neg c]
      exact ⟨Int.le_refl _, h4, fun q => absurd q c', fun _ => rfl⟩
/-- two runs, the second with the wider bound -/
theorem own_run_two (n m : Int64) (hnm : n.toInt ≤ m.toInt) (hm : m.toInt ≤ 2147483647) : ∀ (g f : Nat) (k b j : Int64), m.toInt ≤ j.toInt + (g : Int) → n.toInt ≤ j.toInt + (f : Int) → 0 ≤ j.toInt → b.toInt < j.toInt → b.toInt < n.toInt →
    ((own_run m g k b j).toInt < n.toInt → own_run m g k b j = own_run n f k b j) ∧ (own_run n f k b j).toInt ≤ (own_run m g k b j).toInt := by
  intro g
  induction g with
  | zero =>
    intro f k b j h1 h2 h3 h4 h5
    have e : own_run n f k b j = b := ((own_run_mem n (by omega) f k b j h2 h3 h4 h5).2.2.2) (by omega)
    rw [e]; exact ⟨fun _ => rfl, Int.le_refl _⟩
  | succ g ih =>
    intro f k b j h1 h2 h3 h4 h5
    by_cases cm : j < m
    · have cm' := Int64.lt_iff_toInt_lt.mp cm
      have gt := own_nx_gt (own_k k) j h3 (by omega)
      by_cases cn : j.toInt < n.toInt
      · cases f with
        | zero => exfalso; omega
        | succ f =>
          have I := ih f (own_k k) j (own_nx (own_k k) j) (by omega) (by omega) (by omega) (by omega) cn
          rw [own_run, if_pos cm, own_run, if_pos (Int64.lt_iff_toInt_lt.mpr cn)]
          exact I
      · have e : own_run n f k b j = b := ((own_run_mem n (by omega) f k b j h2 h3 h4 h5).2.2.2) cn
        have M := own_run_mem m hm g (own_k k) j (own_nx (own_k k) j) (by omega) (by omega) (by omega) cm'
        rw [own_run, if_pos cm, e]
        exact ⟨fun q => by exfalso; have := M.1; omega, by have := M.1; omega⟩
    · have cm' : ¬ j.toInt < m.toInt := fun q => cm (Int64.lt_iff_toInt_lt.mpr q)
      have e : own_run n f k b j = b := ((own_run_mem n (by omega) f k b j h2 h3 h4 h5).2.2.2) (by omega)
      rw [own_run, if_neg cm, e]; exact ⟨fun _ => rfl, Int.le_refl _⟩
def own_bl (k : Int64) (p : Int32) : Int64 := own_run p.toInt64 p.toNatClampNeg k (-1 : Int64) (0 : Int64)
def own_bk (k : Int64) (p : Int32) : Int32 := (own_bl k p).toInt32
theorem own_fuel (p : Int32) (h : 1 ≤ p.toInt) : p.toInt64.toInt ≤ (0 : Int64).toInt + ((p.toNatClampNeg : Nat) : Int) := by
  rw [own_i64]; have e : (p.toNatClampNeg : Int) = p.toInt := Int.toNat_of_nonneg (by omega)
  rw [e]; show p.toInt ≤ 0 + p.toInt; omega
theorem own_bl_in (k : Int64) (p : Int32) (h : 1 ≤ p.toInt) : 0 ≤ (own_bl k p).toInt ∧ (own_bl k p).toInt < p.toInt := by
  have r := rng32 p; have e := own_i64 p
  have M := own_run_mem p.toInt64 (by omega) p.toNatClampNeg k (-1 : Int64) (0 : Int64) (own_fuel p h) (by decide) (by decide) (by rw [e]; show (-1 : Int) < p.toInt; omega)
  have z : (0 : Int64).toInt = 0 := rfl
  exact ⟨by have := M.2.2.1 (by omega); unfold own_bl; omega, by have := M.2.1; unfold own_bl; omega⟩
theorem own_bk_in (k : Int64) (p : Int32) (h : 1 ≤ p.toInt) : (own_bk k p).toInt = (own_bl k p).toInt := by
  have a := own_bl_in k p h; have r := rng32 p
  unfold own_bk; rw [Int64.toInt_toInt32]; exact Int.bmod_eq_of_le (by omega) (by omega)
theorem own_first (k : Int64) (p : Int32) (h : 1 ≤ p.toInt) : ((2147483648 / (own_d (own_k k)).toInt.toNat : Nat) : Int) < p.toInt → ((2147483648 / (own_d (own_k k)).toInt.toNat : Nat) : Int) ≤ (own_bl k p).toInt := by
  intro q; have r := rng32 p; have e := own_i64 p; have x0 := own_nx0 (own_k k)
  have fu := own_fuel p h
  have z : (0 : Int64).toInt = 0 := rfl
  unfold own_bl
  cases hf : p.toNatClampNeg with
  | zero => rw [hf] at fu; exfalso; have : ((0 : Nat) : Int) = 0 := rfl; omega
  | succ f =>
    rw [hf] at fu
    have c : (0 : Int64) < p.toInt64 := Int64.lt_iff_toInt_lt.mpr (by omega)
    rw [own_run, if_pos c]
    have gt := own_nx_gt (own_k k) (0 : Int64) (by decide) (by decide)
    have M := own_run_mem p.toInt64 (by omega) f (own_k k) (0 : Int64) (own_nx (own_k k) (0 : Int64)) (by omega) (by omega) (by omega) (by omega)
    have := M.2.2.1 (by omega); omega
theorem own_first0 (k : Int64) (p : Int32) (h : 1 ≤ p.toInt) : ¬ ((2147483648 / (own_d (own_k k)).toInt.toNat : Nat) : Int) < p.toInt → own_bl k p = 0 := by
  intro q; have r := rng32 p; have e := own_i64 p; have x0 := own_nx0 (own_k k)
  have fu := own_fuel p h
  have z : (0 : Int64).toInt = 0 := rfl
  unfold own_bl
  cases hf : p.toNatClampNeg with
  | zero => rw [hf] at fu; exfalso; have : ((0 : Nat) : Int) = 0 := rfl; omega
  | succ f =>
    rw [hf] at fu
    have c : (0 : Int64) < p.toInt64 := Int64.lt_iff_toInt_lt.mpr (by omega)
    rw [own_run, if_pos c]
    have gt := own_nx_gt (own_k k) (0 : Int64) (by decide) (by decide)
    have M := own_run_mem p.toInt64 (by omega) f (own_k k) (0 : Int64) (own_nx (own_k k) (0 : Int64)) (by omega) (by omega) (by omega) (by omega)
    exact M.2.2.2 (by omega)
theorem own_two (k : Int64) (n m : Int32) (h : 1 ≤ n.toInt) (hnm : n.toInt ≤ m.toInt) : ((own_bl k m).toInt < n.toInt → own_bl k m = own_bl k n) ∧ (own_bl k n).toInt ≤ (own_bl k m).toInt := by
  have r := rng32 m; have e := own_i64 n; have e2 := own_i64 m
  have T := own_run_two n.toInt64 m.toInt64 (by omega) (by omega) m.toNatClampNeg n.toNatClampNeg k (-1 : Int64) (0 : Int64) (own_fuel m (by omega)) (own_fuel n h) (by decide) (by decide) (by rw [e]; show (-1 : Int) < n.toInt; omega)
  unfold own_bl; rw [e] at T; exact T
theorem ef_1 (m : MethodId) (p0 : Int32) (p1 : Int32) : entryFrame m #[(.int p0), (.int p1)] 2 = mkF m 0 #[.val (.int p0), .val (.int p1)] [] := by first | (simp [entryFrame, mkF, argsToLocals, Value.category]; done) | rfl
theorem d1_0 : decode jdk_29_method_65_code 0 = .ok (.iload_n 0, 1) := by decide +kernel
theorem d1_1 : decode jdk_29_method_65_code 1 = .ok (.iload_n 1, 1) := by decide +kernel
theorem d1_2 : decode jdk_29_method_65_code 2 = .ok (.if_icmp .lt 7, 3) := by decide +kernel
theorem d1_9 : decode jdk_29_method_65_code 9 = .ok (.iload_n 1, 1) := by decide +kernel
theorem d1_5 : decode jdk_29_method_65_code 5 = .ok (.iload_n 0, 1) := by decide +kernel
theorem d1_6 : decode jdk_29_method_65_code 6 = .ok (.goto 4, 3) := by decide +kernel
def own_max (p0 : Int32) (p1 : Int32) : Int32 := (if p0 < p1 then p1 else p0)
def Q1 (Z : State) (p0 : Int32) (p1 : Int32) (h0 : Heap) (n0 : Nat) (v : Option Value) (h : Heap) (L : List Loc) : Prop := v = some (.int (own_max p0 p1)) ∧ Fr n0 L ∧ h = h0
theorem d1_10 : decode jdk_29_method_65_code 10 = .ok (.ireturn, 1) := by decide +kernel
set_option maxRecDepth 65536 in
set_option maxHeartbeats 40000000 in
theorem rm1 (l : Launch) (Z : State) (ag : Array Value) (hw : ∀ d ∈ tables_1, d.before ag Z = true) (ws : List Jvm.Cond) (p0 : Int32) (p1 : Int32) (h0 : Heap) (n0 : Nat) (Z0 : n0 ≤ h0.size) :
    MetFree l (⟨"java/lang/Math", "max", "(II)I"⟩ : MethodName) (head1 (Jvm.Cond.code (⟨"java/lang/Math", "max", "(II)I"⟩ : MethodName) jdk_29_method_65_code 2 (some .int) :: ws) ({ frames := 0, cells := 0, slots := 0, locals := 0 } : Room)) (fun a U => a = #[(.int p0), (.int p1)] ∧ Z.Warmed39 U.vm ∧ U.heap = h0) (fun _ _ _ _ _ => True) (fun _ U o U' => ∃ v L, o = .returned v ∧ Q1 Z p0 p1 h0 n0 v U'.heap L ∧ FrameEnd U o U' L ({ frames := 0, cells := 0, slots := 0, locals := 0 } : Room).cells ({ frames := 0, cells := 0, slots := 0, locals := 0 } : Room).slots) := by
  refine MetFree.of_bodySF (Jvm.Free.JP.mathPlain rfl (by decide +kernel)) hisR ?_
  intro p e s m args below meth c s₁ Bd hml0 hP hK
  obtain ⟨rfl, hZ, hh⟩ := hP
  have hx := Bd.exec
  have hby := Bd.bytes
  have hml : c.maxLocals = 2 := hml0
  have hown : s.vm.findClass "java/lang/Math" = some m.cls := findClass_of_methodNamed Bd.named
  have hnm := (name_of_methodNamed Bd.named Bd.method).1
  have X0 : Stand p l e ({ frames := 0, cells := 0, slots := 0, locals := 0 } : Room) s m #[(.int p0), (.int p1)] below meth c s₁ [] 0 0 := Stand.of_body Bd
  have e0 : s₁.heap = h0 := by rw [← hh, Bd.state]; rfl
  have N0 := Fr.nil n0
  have pre0 : ∀ t, Steps p.tables e below (s₁.setTop (mkF m 0 #[.val (.int p0), .val (.int p1)] [])) t → Steps p.tables e below (s₁.setTop (entryFrame m #[(.int p0), (.int p1)] 2)) t := fun t k => castTop (ef_1 m p0 p1) k
  obtain ⟨fs, hr, hrun, hended, hW, hsame⟩ := X0.leave (v := some (.int (own_max p0 p1))) (fun h => by rw [Bd.returns] at h; cases h)
  refine ⟨_, _, pre0 _ ?_, hrun, hended, _, _, rfl, ?_, ⟨_, rfl⟩, hW, hsame.mono (by decide) (by decide)⟩
  · show own_S p e below s₁ (mkF m 0 #[.val (.int p0), .val (.int p1)] []) _
    refine XS.iloadN X0.here hx rfl (hb hby d1_0) rfl ?_
    show own_S p e below s₁ (mkF m 1 #[.val (.int p0), .val (.int p1)] [(.int p0)]) _
    refine XS.iloadN X0.here hx rfl (hb hby d1_1) rfl ?_
    by_cases hc1 : p0 < p1
    · show own_S p e below s₁ (mkF m 2 #[.val (.int p0), .val (.int p1)] [(.int p1), (.int p0)]) _
      refine XS.icmpYes X0.here hx rfl (pc0 := 2) (pc' := 9) rfl (hb hby d1_2) rfl (tlt hc1).1 (by decide) (by decide) ?_
      show own_S p e below s₁ (mkF m 9 #[.val (.int p0), .val (.int p1)] []) _
      refine XS.iloadN X0.here hx rfl (hb hby d1_9) rfl ?_
      show own_S p e below s₁ (mkF m 10 #[.val (.int p0), .val (.int p1)] [(.int p1)]) _
      have q : (own_max p0 p1) = p1 := by unfold own_max; rw [if_pos hc1]
      have hr := own_cast (P := fun z => ∀ (f : JFrame) (acts : List Action), f.method = m → f.locked = none → f.entered = [] → (doReturn e (s₁.setTop f) acts (some (.int z))).1 = s₁.setFrames fs) q hr
      exact retI X0 hx Bd.returns (hb hby d1_10) hr
    · show own_S p e below s₁ (mkF m 2 #[.val (.int p0), .val (.int p1)] [(.int p1), (.int p0)]) _
      refine XS.icmpNo X0.here hx rfl (hb hby d1_2) rfl (flt hc1).1 ?_
      show own_S p e below s₁ (mkF m 5 #[.val (.int p0), .val (.int p1)] []) _
      refine XS.iloadN X0.here hx rfl (hb hby d1_5) rfl ?_
      show own_S p e below s₁ (mkF m 6 #[.val (.int p0), .val (.int p1)] [(.int p0)]) _
      refine XS.goto X0.here hx rfl (pc0 := 6) (pc' := 10) rfl (hb hby d1_6) (by decide) (by decide) ?_
      show own_S p e below s₁ (mkF m 10 #[.val (.int p0), .val (.int p1)] [(.int p0)]) _
      have q : (own_max p0 p1) = p0 := by unfold own_max; rw [if_neg hc1]
      have hr := own_cast (P := fun z => ∀ (f : JFrame) (acts : List Action), f.method = m → f.locked = none → f.entered = [] → (doReturn e (s₁.setTop f) acts (some (.int z))).1 = s₁.setFrames fs) q hr
      exact retI X0 hx Bd.returns (hb hby d1_10) hr
  · show Q1 Z p0 p1 h0 n0 _ s₁.heap _
    rw [e0]
    exact ⟨rfl, N0, rfl⟩
theorem own_max_ge (a b : Int32) : a.toInt ≤ (own_max a b).toInt := by
  unfold own_max; split
  · rename_i h; have := Int32.lt_iff_toInt_lt.mp h; omega
  · exact Int.le_refl _
theorem own_nn1 (p : Int32) : 1 ≤ (own_max (1 : Int32) p).toInt := own_max_ge 1 p
theorem own_fst (k : Int64) : ((2147483648 : Int64) / (own_d (own_k k))).toInt = ((2147483648 / (own_d (own_k k)).toInt.toNat : Nat) : Int) := by
  have r := own_d_rng (own_k k)
  generalize own_d (own_k k) = D at *
  have ne : D ≠ -1 := by rintro rfl; exact absurd r.1 (by decide)
  have a := (c_ldiv (2147483648 : Int64) D D.toInt rfl ne).1 (by decide)
  rw [a, show (2147483648 : Int64).toInt = 2147483648 from rfl, Int.natCast_ediv, Int.toNat_of_nonneg (by omega)]; rfl
theorem own_dnz (k : Int64) : own_d (own_k k) ≠ 0 := by
  have r := own_d_rng (own_k k); intro e; rw [e] at r; exact absurd r.1 (by decide)
theorem own_c0 (k : Int64) (n : Int32) (h : 1 ≤ n.toInt) : ¬ own_bk k n < (0 : Int32) := by
  rw [Int32.lt_iff_toInt_lt, own_bk_in k n h, show (0 : Int32).toInt = 0 from rfl]; have := own_bl_in k n h; omega
theorem own_c1 (k : Int64) (n : Int32) (h : 1 ≤ n.toInt) : own_bk k n < n := by
  rw [Int32.lt_iff_toInt_lt, own_bk_in k n h]; exact (own_bl_in k n h).2
theorem own_c2 (k : Int64) (n : Int32) (h : 1 ≤ n.toInt) (q : ¬ ((2147483648 : Int64) / (own_d (own_k k))) < n.toInt64) : own_bk k n = (0 : Int32) := by
  rw [Int64.lt_iff_toInt_lt, own_fst, own_i64] at q
  unfold own_bk; rw [own_first0 k n h q]; rfl
theorem own_c3 (k : Int64) (n : Int32) (h : 1 ≤ n.toInt) (q : ((2147483648 : Int64) / (own_d (own_k k))) < n.toInt64) : ¬ (own_bk k n).toInt64 < ((2147483648 : Int64) / (own_d (own_k k))) := by
  rw [Int64.lt_iff_toInt_lt, own_fst, own_i64] at q
  rw [Int64.lt_iff_toInt_lt, own_fst, own_i64, own_bk_in k n h]
  have := own_first k n h q; omega
theorem own_n1 (n : Int32) (h : 1 ≤ n.toInt) (q : n < (2147483647 : Int32)) : (n + (1 : Int32)).toInt = n.toInt + 1 := by
  rw [Int32.lt_iff_toInt_lt, show (2147483647 : Int32).toInt = 2147483647 from rfl] at q
  have a := c_iadd n (1 : Int32); have r := rng32 (n + (1 : Int32)); have e : (1 : Int32).toInt = 1 := rfl
  omega
theorem own_n1p (n : Int32) (h : 1 ≤ n.toInt) (q : n < (2147483647 : Int32)) : 1 ≤ (n + (1 : Int32)).toInt := by rw [own_n1 n h q]; omega
theorem own_c4 (k : Int64) (n : Int32) (h : 1 ≤ n.toInt) (q : n < (2147483647 : Int32)) (z : ¬ own_bk k (n + (1 : Int32)) = own_bk k n) : own_bk k (n + (1 : Int32)) = n := by
  have s := own_n1 n h q
  have T := own_two k n (n + (1 : Int32)) h (by omega)
  have I := own_bl_in k (n + (1 : Int32)) (by omega)
  have B := own_bk_in k (n + (1 : Int32)) (by omega)
  by_cases c : (own_bl k (n + (1 : Int32))).toInt < n.toInt
  · exact absurd (by unfold own_bk; rw [T.1 c]) z
  · apply Int32.toInt_inj.mp; omega
theorem own_c5 (k : Int64) (n m : Int32) (h : 1 ≤ n.toInt) (hm : n.toInt ≤ m.toInt) (q : own_bk k m < n) : own_bk k m = own_bk k n := by
  rw [Int32.lt_iff_toInt_lt, own_bk_in k m (by omega)] at q
  have T := own_two k n m h hm
  unfold own_bk; rw [T.1 q]
theorem own_c6 (k : Int64) (n m : Int32) (h : 1 ≤ n.toInt) (hm : n.toInt ≤ m.toInt) : ¬ own_bk k m < own_bk k n := by
  rw [Int32.lt_iff_toInt_lt, own_bk_in k m (by omega), own_bk_in k n h]
  have T := own_two k n m h hm; omega
theorem pn_0 : plainName "com/example/eraztun/eraztun/JumpHash" = true := by first | (simp [plainName, overriddenIn]; done) | decide +kernel
theorem ef_2 (m : MethodId) (q0 : Int64) (p1 : Int32) : entryFrame m #[(.long q0), (.int p1)] 9 = mkF m 0 #[.val (.long q0), .second, .val (.int p1), .unset, .unset, .unset, .unset, .unset, .unset] [] := by first | (simp [entryFrame, mkF, argsToLocals, Value.category]; done) | rfl
theorem own_p1 (p : Int32) (h : 1 ≤ p.toInt) : ¬ p < (1 : Int32) := by rw [Int32.lt_iff_toInt_lt, show (1 : Int32).toInt = 1 from rfl]; omega
theorem d2_29 : decode prog_2_method_8_code 29 = .ok (.lload 7, 2) := by decide +kernel
theorem d2_31 : decode prog_2_method_8_code 31 = .ok (.iload_n 2, 1) := by decide +kernel
theorem d2_32 : decode prog_2_method_8_code 32 = .ok (.i2l, 1) := by decide +kernel
theorem d2_33 : decode prog_2_method_8_code 33 = .ok (.lcmp, 1) := by decide +kernel
theorem d2_34 : decode prog_2_method_8_code 34 = .ok (.ifCond .ge 38, 3) := by decide +kernel
theorem d2_37 : decode prog_2_method_8_code 37 = .ok (.lload 7, 2) := by decide +kernel
theorem d2_39 : decode prog_2_method_8_code 39 = .ok (.lstore 5, 2) := by decide +kernel
theorem d2_41 : decode prog_2_method_8_code 41 = .ok (.lload_n 3, 1) := by decide +kernel
theorem d2_42 : decode prog_2_method_8_code 42 = .ok (.ldc2_w 112, 3) := by decide +kernel
theorem d2_45 : decode prog_2_method_8_code 45 = .ok (.lmul, 1) := by decide +kernel
theorem d2_46 : decode prog_2_method_8_code 46 = .ok (.lconst 1, 1) := by decide +kernel
theorem d2_47 : decode prog_2_method_8_code 47 = .ok (.ladd, 1) := by decide +kernel
theorem d2_48 : decode prog_2_method_8_code 48 = .ok (.lstore_n 3, 1) := by decide +kernel
theorem d2_49 : decode prog_2_method_8_code 49 = .ok (.lload 5, 2) := by decide +kernel
theorem d2_51 : decode prog_2_method_8_code 51 = .ok (.lconst 1, 1) := by decide +kernel
theorem d2_52 : decode prog_2_method_8_code 52 = .ok (.ladd, 1) := by decide +kernel
theorem d2_53 : decode prog_2_method_8_code 53 = .ok (.l2d, 1) := by decide +kernel
theorem d2_54 : decode prog_2_method_8_code 54 = .ok (.ldc2_w 114, 3) := by decide +kernel
theorem d2_57 : decode prog_2_method_8_code 57 = .ok (.lload_n 3, 1) := by decide +kernel
theorem d2_58 : decode prog_2_method_8_code 58 = .ok (.bipush 33, 2) := by decide +kernel
theorem d2_60 : decode prog_2_method_8_code 60 = .ok (.lushr, 1) := by decide +kernel
theorem d2_61 : decode prog_2_method_8_code 61 = .ok (.lconst 1, 1) := by decide +kernel
theorem d2_62 : decode prog_2_method_8_code 62 = .ok (.ladd, 1) := by decide +kernel
theorem d2_63 : decode prog_2_method_8_code 63 = .ok (.l2d, 1) := by decide +kernel
theorem d2_64 : decode prog_2_method_8_code 64 = .ok (.ddiv, 1) := by decide +kernel
theorem d2_65 : decode prog_2_method_8_code 65 = .ok (.dmul, 1) := by decide +kernel
theorem d2_66 : decode prog_2_method_8_code 66 = .ok (.d2l, 1) := by decide +kernel
theorem d2_67 : decode prog_2_method_8_code 67 = .ok (.lstore 7, 2) := by decide +kernel
theorem d2_69 : decode prog_2_method_8_code 69 = .ok (.goto (-40), 3) := by decide +kernel
theorem d2_0 : decode prog_2_method_8_code 0 = .ok (.iload_n 2, 1) := by decide +kernel
theorem d2_1 : decode prog_2_method_8_code 1 = .ok (.iconst 1, 1) := by decide +kernel
theorem d2_2 : decode prog_2_method_8_code 2 = .ok (.if_icmp .ge 17, 3) := by decide +kernel
theorem d2_19 : decode prog_2_method_8_code 19 = .ok (.lload_n 0, 1) := by decide +kernel
theorem d2_20 : decode prog_2_method_8_code 20 = .ok (.lstore_n 3, 1) := by decide +kernel
theorem d2_21 : decode prog_2_method_8_code 21 = .ok (.ldc2_w 110, 3) := by decide +kernel
theorem d2_24 : decode prog_2_method_8_code 24 = .ok (.lstore 5, 2) := by decide +kernel
theorem d2_26 : decode prog_2_method_8_code 26 = .ok (.lconst 0, 1) := by decide +kernel
theorem d2_27 : decode prog_2_method_8_code 27 = .ok (.lstore 7, 2) := by decide +kernel
theorem d2_72 : decode prog_2_method_8_code 72 = .ok (.lload 5, 2) := by decide +kernel
theorem d2_74 : decode prog_2_method_8_code 74 = .ok (.l2i, 1) := by decide +kernel
theorem d2_75 : decode prog_2_method_8_code 75 = .ok (.ireturn, 1) := by decide +kernel
def Q2 (Z : State) (q0 : Int64) (p1 : Int32) (h0 : Heap) (n0 : Nat) (v : Option Value) (h : Heap) (L : List Loc) : Prop := v = some (.int (own_bk q0 p1)) ∧ Fr n0 L ∧ h = h0
set_option maxRecDepth 65536 in
set_option maxHeartbeats 40000000 in
theorem rm2 (l : Launch) (Z : State) (ag : Array Value) (hw : ∀ d ∈ tables_1, d.before ag Z = true) (ws : List Jvm.Cond) (q0 : Int64) (p1 : Int32) (h0 : Heap) (n0 : Nat) (Z0 : n0 ≤ h0.size) (h1 : 1 ≤ p1.toInt) :
    MetFree l (⟨"com/example/eraztun/eraztun/JumpHash", "bucket", "(JI)I"⟩ : MethodName) (head1 (Jvm.Cond.code (⟨"com/example/eraztun/eraztun/JumpHash", "bucket", "(JI)I"⟩ : MethodName) prog_2_method_8_code 9 (some .int) :: ws) ({ frames := 0, cells := 0, slots := 0, locals := 0 } : Room)) (fun a U => a = #[(.long q0), (.int p1)] ∧ Z.Warmed39 U.vm ∧ U.heap = h0) (fun _ _ _ _ _ => True) (fun _ U o U' => ∃ v L, o = .returned v ∧ Q2 Z q0 p1 h0 n0 v U'.heap L ∧ FrameEnd U o U' L ({ frames := 0, cells := 0, slots := 0, locals := 0 } : Room).cells ({ frames := 0, cells := 0, slots := 0, locals := 0 } : Room).slots) := by
  refine MetFree.of_bodySF (plainFor_of_name pn_0) hisR ?_
  intro p e s m args below meth c s₁ Bd hml0 hP hK
  obtain ⟨rfl, hZ, hh⟩ := hP
  have hx := Bd.exec
  have hby := Bd.bytes
  have hml : c.maxLocals = 9 := hml0
  have hown : s.vm.findClass "com/example/eraztun/eraztun/JumpHash" = some m.cls := findClass_of_methodNamed Bd.named
  have hnm := (name_of_methodNamed Bd.named Bd.method).1
  have X0 : Stand p l e ({ frames := 0, cells := 0, slots := 0, locals := 0 } : Room) s m #[(.long q0), (.int p1)] below meth c s₁ [] 0 0 := Stand.of_body Bd
  have e0 : s₁.heap = h0 := by rw [← hh, Bd.state]; rfl
  have N0 := Fr.nil n0
  have pre0 : ∀ t, Steps p.tables e below (s₁.setTop (mkF m 0 #[.val (.long q0), .second, .val (.int p1), .unset, .unset, .unset, .unset, .unset, .unset] [])) t → Steps p.tables e below (s₁.setTop (entryFrame m #[(.long q0), (.int p1)] 9)) t := fun t k => castTop (ef_2 m q0 p1) k
  have loop : ∀ (f : Nat) (k b j : Int64), 0 ≤ j.toInt → p1.toInt64.toInt ≤ j.toInt + (f : Int) → ∃ kf jf : Int64, ∀ target, Steps p.tables e below (s₁.setTop (mkF m 72 #[.val (.long q0), .second, .val (.int p1), .val (.long kf), .second, .val (.long (own_run p1.toInt64 f k b j)), .second, .val (.long jf), .second] [])) target → Steps p.tables e below (s₁.setTop (mkF m 29 #[.val (.long q0), .second, .val (.int p1), .val (.long k), .second, .val (.long b), .second, .val (.long j), .second] [])) target := by
    intro f
    induction f with
    | zero =>
      intro k b j hj hf
      refine ⟨k, j, fun target kt => ?_⟩
      have hc : ¬ j < p1.toInt64 := own_nlt hf
      show own_S p e below s₁ (mkF m 29 #[.val (.long q0), .second, .val (.int p1), .val (.long k), .second, .val (.long b), .second, .val (.long j), .second] []) _
      refine XS.lload X0.here hx rfl (hb hby d2_29) rfl ?_
      show own_S p e below s₁ (mkF m 31 #[.val (.long q0), .second, .val (.int p1), .val (.long k), .second, .val (.long b), .second, .val (.long j), .second] [(.long j)]) _
      refine XS.iloadN X0.here hx rfl (hb hby d2_31) rfl ?_
      show own_S p e below s₁ (mkF m 32 #[.val (.long q0), .second, .val (.int p1), .val (.long k), .second, .val (.long b), .second, .val (.long j), .second] [(.int p1), (.long j)]) _
      refine XS.i2l X0.here hx rfl (hb hby d2_32) rfl ?_
      show own_S p e below s₁ (mkF m 33 #[.val (.long q0), .second, .val (.int p1), .val (.long k), .second, .val (.long b), .second, .val (.long j), .second] [(.long (p1.toInt64)), (.long j)]) _
      refine XS.lcmp X0.here hx rfl (hb hby d2_33) rfl ?_
      show own_S p e below s₁ (mkF m 34 #[.val (.long q0), .second, .val (.int p1), .val (.long k), .second, .val (.long b), .second, .val (.long j), .second] [(.int (lcmpW j (p1.toInt64)))]) _
      refine XS.ifYes X0.here hx rfl (pc0 := 34) (pc' := 72) rfl (hb hby d2_34) rfl ((if0 _ _).trans (flt (fun q => (show ¬ (j < (p1.toInt64)) from hc) ((lw_lt j (p1.toInt64)).mp q))).2.1) (by decide) (by decide) ?_
      exact kt
    | succ f ih =>
      intro k b j hj hf
      by_cases hc : j < p1.toInt64
      · have hs := own_step (k := own_k k) hc hj hf
        obtain ⟨kf, jf, st⟩ := ih (own_k k) j (own_nx (own_k k) j) hs.2.1 hs.2.2
        refine ⟨kf, jf, fun target kt => ?_⟩
        rw [own_run, if_pos hc] at kt
        have kt := st target kt
        show own_S p e below s₁ (mkF m 29 #[.val (.long q0), .second, .val (.int p1), .val (.long k), .second, .val (.long b), .second, .val (.long j), .second] []) _
        refine XS.lload X0.here hx rfl (hb hby d2_29) rfl ?_
        show own_S p e below s₁ (mkF m 31 #[.val (.long q0), .second, .val (.int p1), .val (.long k), .second, .val (.long b), .second, .val (.long j), .second] [(.long j)]) _
        refine XS.iloadN X0.here hx rfl (hb hby d2_31) rfl ?_
        show own_S p e below s₁ (mkF m 32 #[.val (.long q0), .second, .val (.int p1), .val (.long k), .second, .val (.long b), .second, .val (.long j), .second] [(.int p1), (.long j)]) _
        refine XS.i2l X0.here hx rfl (hb hby d2_32) rfl ?_
        show own_S p e below s₁ (mkF m 33 #[.val (.long q0), .second, .val (.int p1), .val (.long k), .second, .val (.long b), .second, .val (.long j), .second] [(.long (p1.toInt64)), (.long j)]) _
        refine XS.lcmp X0.here hx rfl (hb hby d2_33) rfl ?_
        show own_S p e below s₁ (mkF m 34 #[.val (.long q0), .second, .val (.int p1), .val (.long k), .second, .val (.long b), .second, .val (.long j), .second] [(.int (lcmpW j (p1.toInt64)))]) _
        refine XS.ifNo X0.here hx rfl (hb hby d2_34) rfl ((if0 _ _).trans (tlt ((lw_lt j (p1.toInt64)).mpr (show j < (p1.toInt64) from hc))).2.1) ?_
        show own_S p e below s₁ (mkF m 37 #[.val (.long q0), .second, .val (.int p1), .val (.long k), .second, .val (.long b), .second, .val (.long j), .second] []) _
        refine XS.lload X0.here hx rfl (hb hby d2_37) rfl ?_
        show own_S p e below s₁ (mkF m 39 #[.val (.long q0), .second, .val (.int p1), .val (.long k), .second, .val (.long b), .second, .val (.long j), .second] [(.long j)]) _
        refine XS.lstore X0.here hx rfl (hb hby d2_39) rfl (l' := #[.val (.long q0), .second, .val (.int p1), .val (.long k), .second, .val (.long j), .second, .val (.long j), .second]) rfl ?_
        show own_S p e below s₁ (mkF m 41 #[.val (.long q0), .second, .val (.int p1), .val (.long k), .second, .val (.long j), .second, .val (.long j), .second] []) _
        refine XS.lloadN X0.here hx rfl (hb hby d2_41) rfl ?_
        show own_S p e below s₁ (mkF m 42 #[.val (.long q0), .second, .val (.int p1), .val (.long k), .second, .val (.long j), .second, .val (.long j), .second] [(.long k)]) _
        refine X0.ldc2Long hx hown (mvT hZ (hw _ (List.mem_of_getElem? (i := 10) rfl))) (g := (mkF m 42 #[.val (.long q0), .second, .val (.int p1), .val (.long k), .second, .val (.long j), .second, .val (.long j), .second] [(.long k)])) rfl (hb hby d2_42) _ ?_
        show own_S p e below s₁ (mkF m 45 #[.val (.long q0), .second, .val (.int p1), .val (.long k), .second, .val (.long j), .second, .val (.long j), .second] [.long 2862933555777941757, (.long k)]) _
        refine XS.lmul X0.here hx rfl (hb hby d2_45) rfl ?_
        show own_S p e below s₁ (mkF m 46 #[.val (.long q0), .second, .val (.int p1), .val (.long k), .second, .val (.long j), .second, .val (.long j), .second] [(.long (k * (2862933555777941757 : Int64)))]) _
        refine XS.lconst X0.here hx rfl (hb hby d2_46) ?_
        show own_S p e below s₁ (mkF m 47 #[.val (.long q0), .second, .val (.int p1), .val (.long k), .second, .val (.long j), .second, .val (.long j), .second] [.long 1, (.long (k * (2862933555777941757 : Int64)))]) _
        refine XS.ladd X0.here hx rfl (hb hby d2_47) rfl ?_
        show own_S p e below s₁ (mkF m 48 #[.val (.long q0), .second, .val (.int p1), .val (.long k), .second, .val (.long j), .second, .val (.long j), .second] [(.long ((k * (2862933555777941757 : Int64)) + (1 : Int64)))]) _
        refine XS.lstoreN X0.here hx rfl (hb hby d2_48) rfl (l' := #[.val (.long q0), .second, .val (.int p1), .val (.long ((k * (2862933555777941757 : Int64)) + (1 : Int64))), .second, .val (.long j), .second, .val (.long j), .second]) rfl ?_
        show own_S p e below s₁ (mkF m 49 #[.val (.long q0), .second, .val (.int p1), .val (.long ((k * (2862933555777941757 : Int64)) + (1 : Int64))), .second, .val (.long j), .second, .val (.long j), .second] []) _
        refine XS.lload X0.here hx rfl (hb hby d2_49) rfl ?_
        show own_S p e below s₁ (mkF m 51 #[.val (.long q0), .second, .val (.int p1), .val (.long ((k * (2862933555777941757 : Int64)) + (1 : Int64))), .second, .val (.long j), .second, .val (.long j), .second] [(.long j)]) _
        refine XS.lconst X0.here hx rfl (hb hby d2_51) ?_
        show own_S p e below s₁ (mkF m 52 #[.val (.long q0), .second, .val (.int p1), .val (.long ((k * (2862933555777941757 : Int64)) + (1 : Int64))), .second, .val (.long j), .second, .val (.long j), .second] [.long 1, (.long j)]) _
        refine XS.ladd X0.here hx rfl (hb hby d2_52) rfl ?_
        show own_S p e below s₁ (mkF m 53 #[.val (.long q0), .second, .val (.int p1), .val (.long ((k * (2862933555777941757 : Int64)) + (1 : Int64))), .second, .val (.long j), .second, .val (.long j), .second] [(.long (j + (1 : Int64)))]) _
        refine XS.l2dS X0.here hx rfl (hb hby d2_53) rfl rfl ?_
        show own_S p e below s₁ (mkF m 54 #[.val (.long q0), .second, .val (.int p1), .val (.long ((k * (2862933555777941757 : Int64)) + (1 : Int64))), .second, .val (.long j), .second, .val (.long j), .second] [(.double (FP.l2d (j + (1 : Int64))))]) _
        refine X0.ldc2DoubleC hx hown (mvT hZ (hw _ (List.mem_of_getElem? (i := 11) rfl))) (g := (mkF m 54 #[.val (.long q0), .second, .val (.int p1), .val (.long ((k * (2862933555777941757 : Int64)) + (1 : Int64))), .second, .val (.long j), .second, .val (.long j), .second] [(.double (FP.l2d (j + (1 : Int64))))])) rfl (hb hby d2_54) _ ?_
        show own_S p e below s₁ (mkF m 57 #[.val (.long q0), .second, .val (.int p1), .val (.long ((k * (2862933555777941757 : Int64)) + (1 : Int64))), .second, .val (.long j), .second, .val (.long j), .second] [(.double (4746794007248502784 : UInt64)), (.double (FP.l2d (j + (1 : Int64))))]) _
        refine XS.lloadN X0.here hx rfl (hb hby d2_57) rfl ?_
        show own_S p e below s₁ (mkF m 58 #[.val (.long q0), .second, .val (.int p1), .val (.long ((k * (2862933555777941757 : Int64)) + (1 : Int64))), .second, .val (.long j), .second, .val (.long j), .second] [(.long ((k * (2862933555777941757 : Int64)) + (1 : Int64))), (.double (4746794007248502784 : UInt64)), (.double (FP.l2d (j + (1 : Int64))))]) _
        refine XS.bipush X0.here hx rfl (hb hby d2_58) ?_
        show own_S p e below s₁ (mkF m 60 #[.val (.long q0), .second, .val (.int p1), .val (.long ((k * (2862933555777941757 : Int64)) + (1 : Int64))), .second, .val (.long j), .second, .val (.long j), .second] [.int 33, (.long ((k * (2862933555777941757 : Int64)) + (1 : Int64))), (.double (4746794007248502784 : UInt64)), (.double (FP.l2d (j + (1 : Int64))))]) _
        refine XS.lushr X0.here hx rfl (hb hby d2_60) rfl ?_
        show own_S p e below s₁ (mkF m 61 #[.val (.long q0), .second, .val (.int p1), .val (.long ((k * (2862933555777941757 : Int64)) + (1 : Int64))), .second, .val (.long j), .second, .val (.long j), .second] [(.long (own_ushrL ((k * (2862933555777941757 : Int64)) + (1 : Int64)) (33 : Int32))), (.double (4746794007248502784 : UInt64)), (.double (FP.l2d (j + (1 : Int64))))]) _
        refine XS.lconst X0.here hx rfl (hb hby d2_61) ?_
        show own_S p e below s₁ (mkF m 62 #[.val (.long q0), .second, .val (.int p1), .val (.long ((k * (2862933555777941757 : Int64)) + (1 : Int64))), .second, .val (.long j), .second, .val (.long j), .second] [.long 1, (.long (own_ushrL ((k * (2862933555777941757 : Int64)) + (1 : Int64)) (33 : Int32))), (.double (4746794007248502784 : UInt64)), (.double (FP.l2d (j + (1 : Int64))))]) _
        refine XS.ladd X0.here hx rfl (hb hby d2_62) rfl ?_
        show own_S p e below s₁ (mkF m 63 #[.val (.long q0), .second, .val (.int p1), .val (.long ((k * (2862933555777941757 : Int64)) + (1 : Int64))), .second, .val (.long j), .second, .val (.long j), .second] [(.long ((own_ushrL ((k * (2862933555777941757 : Int64)) + (1 : Int64)) (33 : Int32)) + (1 : Int64))), (.double (4746794007248502784 : UInt64)), (.double (FP.l2d (j + (1 : Int64))))]) _
        refine XS.l2dS X0.here hx rfl (hb hby d2_63) rfl rfl ?_
        show own_S p e below s₁ (mkF m 64 #[.val (.long q0), .second, .val (.int p1), .val (.long ((k * (2862933555777941757 : Int64)) + (1 : Int64))), .second, .val (.long j), .second, .val (.long j), .second] [(.double (FP.l2d ((own_ushrL ((k * (2862933555777941757 : Int64)) + (1 : Int64)) (33 : Int32)) + (1 : Int64)))), (.double (4746794007248502784 : UInt64)), (.double (FP.l2d (j + (1 : Int64))))]) _
        refine XS.ddivS X0.here hx rfl (hb hby d2_64) rfl (own_q_nn (own_k k)) rfl ?_
        show own_S p e below s₁ (mkF m 65 #[.val (.long q0), .second, .val (.int p1), .val (.long ((k * (2862933555777941757 : Int64)) + (1 : Int64))), .second, .val (.long j), .second, .val (.long j), .second] [(.double (FP.ddiv (4746794007248502784 : UInt64) (FP.l2d ((own_ushrL ((k * (2862933555777941757 : Int64)) + (1 : Int64)) (33 : Int32)) + (1 : Int64))))), (.double (FP.l2d (j + (1 : Int64))))]) _
        refine XS.dmulS X0.here hx rfl (hb hby d2_65) rfl (own_m_nn (own_k k) j hs.1.1 hs.1.2) rfl ?_
        show own_S p e below s₁ (mkF m 66 #[.val (.long q0), .second, .val (.int p1), .val (.long ((k * (2862933555777941757 : Int64)) + (1 : Int64))), .second, .val (.long j), .second, .val (.long j), .second] [(.double (FP.dmul (FP.l2d (j + (1 : Int64))) (FP.ddiv (4746794007248502784 : UInt64) (FP.l2d ((own_ushrL ((k * (2862933555777941757 : Int64)) + (1 : Int64)) (33 : Int32)) + (1 : Int64))))))]) _
        refine XS.d2lS X0.here hx rfl (hb hby d2_66) rfl rfl ?_
        show own_S p e below s₁ (mkF m 67 #[.val (.long q0), .second, .val (.int p1), .val (.long ((k * (2862933555777941757 : Int64)) + (1 : Int64))), .second, .val (.long j), .second, .val (.long j), .second] [(.long (FP.d2l (FP.dmul (FP.l2d (j + (1 : Int64))) (FP.ddiv (4746794007248502784 : UInt64) (FP.l2d ((own_ushrL ((k * (2862933555777941757 : Int64)) + (1 : Int64)) (33 : Int32)) + (1 : Int64)))))))]) _
        refine XS.lstore X0.here hx rfl (hb hby d2_67) rfl (l' := #[.val (.long q0), .second, .val (.int p1), .val (.long ((k * (2862933555777941757 : Int64)) + (1 : Int64))), .second, .val (.long j), .second, .val (.long (FP.d2l (FP.dmul (FP.l2d (j + (1 : Int64))) (FP.ddiv (4746794007248502784 : UInt64) (FP.l2d ((own_ushrL ((k * (2862933555777941757 : Int64)) + (1 : Int64)) (33 : Int32)) + (1 : Int64))))))), .second]) rfl ?_
        show own_S p e below s₁ (mkF m 69 #[.val (.long q0), .second, .val (.int p1), .val (.long ((k * (2862933555777941757 : Int64)) + (1 : Int64))), .second, .val (.long j), .second, .val (.long (FP.d2l (FP.dmul (FP.l2d (j + (1 : Int64))) (FP.ddiv (4746794007248502784 : UInt64) (FP.l2d ((own_ushrL ((k * (2862933555777941757 : Int64)) + (1 : Int64)) (33 : Int32)) + (1 : Int64))))))), .second] []) _
        refine XS.goto X0.here hx rfl (pc0 := 69) (pc' := 29) rfl (hb hby d2_69) (by decide) (by decide) ?_
        exact kt
      · refine ⟨k, j, fun target kt => ?_⟩
        rw [own_run, if_neg hc] at kt
        show own_S p e below s₁ (mkF m 29 #[.val (.long q0), .second, .val (.int p1), .val (.long k), .second, .val (.long b), .second, .val (.long j), .second] []) _
        refine XS.lload X0.here hx rfl (hb hby d2_29) rfl ?_
        show own_S p e below s₁ (mkF m 31 #[.val (.long q0), .second, .val (.int p1), .val (.long k), .second, .val (.long b), .second, .val (.long j), .second] [(.long j)]) _
        refine XS.iloadN X0.here hx rfl (hb hby d2_31) rfl ?_
        show own_S p e below s₁ (mkF m 32 #[.val (.long q0), .second, .val (.int p1), .val (.long k), .second, .val (.long b), .second, .val (.long j), .second] [(.int p1), (.long j)]) _
        refine XS.i2l X0.here hx rfl (hb hby d2_32) rfl ?_
        show own_S p e below s₁ (mkF m 33 #[.val (.long q0), .second, .val (.int p1), .val (.long k), .second, .val (.long b), .second, .val (.long j), .second] [(.long (p1.toInt64)), (.long j)]) _
        refine XS.lcmp X0.here hx rfl (hb hby d2_33) rfl ?_
        show own_S p e below s₁ (mkF m 34 #[.val (.long q0), .second, .val (.int p1), .val (.long k), .second, .val (.long b), .second, .val (.long j), .second] [(.int (lcmpW j (p1.toInt64)))]) _
        refine XS.ifYes X0.here hx rfl (pc0 := 34) (pc' := 72) rfl (hb hby d2_34) rfl ((if0 _ _).trans (flt (fun q => (show ¬ (j < (p1.toInt64)) from hc) ((lw_lt j (p1.toInt64)).mp q))).2.1) (by decide) (by decide) ?_
        exact kt
  obtain ⟨kf, jf, stl⟩ := loop p1.toNatClampNeg q0 (-1 : Int64) (0 : Int64) (by decide) (own_fuel p1 h1)
  obtain ⟨fs, hr, hrun, hended, hW, hsame⟩ := X0.leave (v := some (.int ((own_run p1.toInt64 p1.toNatClampNeg q0 (-1 : Int64) (0 : Int64)).toInt32))) (fun h => by rw [Bd.returns] at h; cases h)
  refine ⟨_, _, pre0 _ ?_, hrun, hended, _, _, rfl, ?_, ⟨_, rfl⟩, hW, hsame.mono (by decide) (by decide)⟩
  · show own_S p e below s₁ (mkF m 0 #[.val (.long q0), .second, .val (.int p1), .unset, .unset, .unset, .unset, .unset, .unset] []) _
    refine XS.iloadN X0.here hx rfl (hb hby d2_0) rfl ?_
    show own_S p e below s₁ (mkF m 1 #[.val (.long q0), .second, .val (.int p1), .unset, .unset, .unset, .unset, .unset, .unset] [(.int p1)]) _
    refine XS.iconst X0.here hx rfl (hb hby d2_1) ?_
    show own_S p e below s₁ (mkF m 2 #[.val (.long q0), .second, .val (.int p1), .unset, .unset, .unset, .unset, .unset, .unset] [.int 1, (.int p1)]) _
    refine XS.icmpYes X0.here hx rfl (pc0 := 2) (pc' := 19) rfl (hb hby d2_2) rfl (flt (show ¬ (p1 < (1 : Int32)) from own_p1 p1 h1)).2.1 (by decide) (by decide) ?_
    show own_S p e below s₁ (mkF m 19 #[.val (.long q0), .second, .val (.int p1), .unset, .unset, .unset, .unset, .unset, .unset] []) _
    refine XS.lloadN X0.here hx rfl (hb hby d2_19) rfl ?_
    show own_S p e below s₁ (mkF m 20 #[.val (.long q0), .second, .val (.int p1), .unset, .unset, .unset, .unset, .unset, .unset] [(.long q0)]) _
    refine XS.lstoreN X0.here hx rfl (hb hby d2_20) rfl (l' := #[.val (.long q0), .second, .val (.int p1), .val (.long q0), .second, .unset, .unset, .unset, .unset]) rfl ?_
    show own_S p e below s₁ (mkF m 21 #[.val (.long q0), .second, .val (.int p1), .val (.long q0), .second, .unset, .unset, .unset, .unset] []) _
    refine X0.ldc2Long hx hown (mvT hZ (hw _ (List.mem_of_getElem? (i := 9) rfl))) (g := (mkF m 21 #[.val (.long q0), .second, .val (.int p1), .val (.long q0), .second, .unset, .unset, .unset, .unset] [])) rfl (hb hby d2_21) _ ?_
    show own_S p e below s₁ (mkF m 24 #[.val (.long q0), .second, .val (.int p1), .val (.long q0), .second, .unset, .unset, .unset, .unset] [.long (-1)]) _
    refine XS.lstore X0.here hx rfl (hb hby d2_24) rfl (l' := #[.val (.long q0), .second, .val (.int p1), .val (.long q0), .second, .val (.long (-1)), .second, .unset, .unset]) rfl ?_
    show own_S p e below s₁ (mkF m 26 #[.val (.long q0), .second, .val (.int p1), .val (.long q0), .second, .val (.long (-1)), .second, .unset, .unset] []) _
    refine XS.lconst X0.here hx rfl (hb hby d2_26) ?_
    show own_S p e below s₁ (mkF m 27 #[.val (.long q0), .second, .val (.int p1), .val (.long q0), .second, .val (.long (-1)), .second, .unset, .unset] [.long 0]) _
    refine XS.lstore X0.here hx rfl (hb hby d2_27) rfl (l' := #[.val (.long q0), .second, .val (.int p1), .val (.long q0), .second, .val (.long (-1)), .second, .val (.long 0), .second]) rfl ?_
    show own_S p e below s₁ (mkF m 29 #[.val (.long q0), .second, .val (.int p1), .val (.long q0), .second, .val (.long (-1)), .second, .val (.long 0), .second] []) _
    refine stl _ ?_
    show own_S p e below s₁ (mkF m 72 #[.val (.long q0), .second, .val (.int p1), .val (.long kf), .second, .val (.long (own_run p1.toInt64 p1.toNatClampNeg q0 (-1 : Int64) (0 : Int64))), .second, .val (.long jf), .second] []) _
    refine XS.lload X0.here hx rfl (hb hby d2_72) rfl ?_
    show own_S p e below s₁ (mkF m 74 #[.val (.long q0), .second, .val (.int p1), .val (.long kf), .second, .val (.long (own_run p1.toInt64 p1.toNatClampNeg q0 (-1 : Int64) (0 : Int64))), .second, .val (.long jf), .second] [(.long (own_run p1.toInt64 p1.toNatClampNeg q0 (-1 : Int64) (0 : Int64)))]) _
    refine XS.l2i X0.here hx rfl (hb hby d2_74) rfl ?_
    show own_S p e below s₁ (mkF m 75 #[.val (.long q0), .second, .val (.int p1), .val (.long kf), .second, .val (.long (own_run p1.toInt64 p1.toNatClampNeg q0 (-1 : Int64) (0 : Int64))), .second, .val (.long jf), .second] [(.int ((own_run p1.toInt64 p1.toNatClampNeg q0 (-1 : Int64) (0 : Int64)).toInt32))]) _
    exact retI X0 hx Bd.returns (hb hby d2_75) hr
  · show Q2 Z q0 p1 h0 n0 _ s₁.heap _
    rw [e0]
    exact ⟨rfl, N0, rfl⟩
theorem pn_1 : plainName "com/example/eraztun/eraztun/JumpHashBucketPinLaw" = true := by first | (simp [plainName, overriddenIn]; done) | decide +kernel
theorem ef_0 (m : MethodId) (q0 : Int64) (p1 : Int32) (p2 : Int32) : entryFrame m #[(.long q0), (.int p1), (.int p2)] maxLocals = mkF m 0 #[.val (.long q0), .second, .val (.int p1), .val (.int p2), .unset, .unset, .unset, .unset, .unset, .unset, .unset, .unset] [] := by first | (simp [entryFrame, mkF, argsToLocals, Value.category, maxLocals]; done) | rfl
abbrev own_loc1 (q0 : Int64) (p1 : Int32) (p2 : Int32) : Array Slot := #[.val (.long q0), .second, .val (.int p1), .val (.int p2), .unset, .unset, .unset, .unset, .unset, .unset, .unset, .unset]
theorem pd_0 : parseMethodDescriptor "(II)I" = some ⟨[.int, .int], some .int⟩ := by decide +kernel
abbrev own_loc2 (q0 : Int64) (p1 : Int32) (p2 : Int32) : Array Slot := #[.val (.long q0), .second, .val (.int p1), .val (.int p2), .val (.int (own_max (1 : Int32) (p1 &&& (2147483647 : Int32)))), .unset, .unset, .unset, .unset, .unset, .unset, .unset]
abbrev own_loc3 (q0 : Int64) (p1 : Int32) (p2 : Int32) (nn : Int32) : Array Slot := #[.val (.long q0), .second, .val (.int p1), .val (.int p2), .val (.int nn), .unset, .unset, .unset, .unset, .unset, .unset, .unset]
abbrev own_loc4 (q0 : Int64) (p1 : Int32) (p2 : Int32) (nn : Int32) : Array Slot := #[.val (.long q0), .second, .val (.int p1), .val (.int p2), .val (.int nn), .val (.int (own_max nn (p2 &&& (2147483647 : Int32)))), .unset, .unset, .unset, .unset, .unset, .unset]
abbrev own_loc5 (q0 : Int64) (p1 : Int32) (p2 : Int32) (nn : Int32) (mm : Int32) : Array Slot := #[.val (.long q0), .second, .val (.int p1), .val (.int p2), .val (.int nn), .val (.int mm), .unset, .unset, .unset, .unset, .unset, .unset]
theorem pd_1 : parseMethodDescriptor "(JI)I" = some ⟨[.long, .int], some .int⟩ := by decide +kernel
abbrev own_loc6 (q0 : Int64) (p1 : Int32) (p2 : Int32) (nn : Int32) (mm : Int32) : Array Slot := #[.val (.long q0), .second, .val (.int p1), .val (.int p2), .val (.int nn), .val (.int mm), .val (.int (own_bk q0 nn)), .unset, .unset, .unset, .unset, .unset]
abbrev own_loc7 (q0 : Int64) (p1 : Int32) (p2 : Int32) (nn : Int32) (mm : Int32) : Array Slot := #[.val (.long q0), .second, .val (.int p1), .val (.int p2), .val (.int nn), .val (.int mm), .val (.int (own_bk q0 nn)), .val (.long (own_ushrL ((q0 * (2862933555777941757 : Int64)) + (1 : Int64)) (33 : Int32))), .second, .unset, .unset, .unset]
abbrev own_loc8 (q0 : Int64) (p1 : Int32) (p2 : Int32) (nn : Int32) (mm : Int32) : Array Slot := #[.val (.long q0), .second, .val (.int p1), .val (.int p2), .val (.int nn), .val (.int mm), .val (.int (own_bk q0 nn)), .val (.long (own_ushrL ((q0 * (2862933555777941757 : Int64)) + (1 : Int64)) (33 : Int32))), .second, .val (.long ((2147483648 : Int64) / ((own_ushrL ((q0 * (2862933555777941757 : Int64)) + (1 : Int64)) (33 : Int32)) + (1 : Int64)))), .second, .unset]
abbrev own_loc9 (q0 : Int64) (p1 : Int32) (p2 : Int32) (nn : Int32) (mm : Int32) : Array Slot := #[.val (.long q0), .second, .val (.int p1), .val (.int p2), .val (.int nn), .val (.int mm), .val (.int (own_bk q0 nn)), .val (.long (own_ushrL ((q0 * (2862933555777941757 : Int64)) + (1 : Int64)) (33 : Int32))), .second, .val (.long ((2147483648 : Int64) / ((own_ushrL ((q0 * (2862933555777941757 : Int64)) + (1 : Int64)) (33 : Int32)) + (1 : Int64)))), .second, .val (.int (own_bk q0 (nn + (1 : Int32))))]
abbrev own_loc10 (q0 : Int64) (p1 : Int32) (p2 : Int32) (nn : Int32) (mm : Int32) : Array Slot := #[.val (.long q0), .second, .val (.int p1), .val (.int p2), .val (.int nn), .val (.int mm), .val (.int (own_bk q0 nn)), .val (.long (own_ushrL ((q0 * (2862933555777941757 : Int64)) + (1 : Int64)) (33 : Int32))), .second, .val (.long ((2147483648 : Int64) / ((own_ushrL ((q0 * (2862933555777941757 : Int64)) + (1 : Int64)) (33 : Int32)) + (1 : Int64)))), .second, .val (.int (own_bk q0 mm))]
def Q0 (n0 : Nat) (v : Option Value) (h : Heap) (L : List Loc) : Prop := v = some (.int 1) ∧ Fr n0 L
set_option maxRecDepth 65536 in
set_option maxHeartbeats 40000000 in
theorem rm0 (l : Launch) (Z : State) (ag : Array Value) (hw : ∀ d ∈ tables_1, d.before ag Z = true) (ws : List Jvm.Cond) (q0 : Int64) (p1 : Int32) (p2 : Int32) (h0 : Heap) (n0 : Nat) (Z0 : n0 ≤ h0.size) :
    MetFree l x (head1 (Jvm.Cond.code x code maxLocals ret :: ws) room_1) (fun a U => a = #[(.long q0), (.int p1), (.int p2)] ∧ Z.Warmed39 U.vm ∧ U.heap = h0) (fun _ _ _ _ _ => True) (fun _ U o U' => ∃ v L, o = .returned v ∧ Q0 n0 v U'.heap L ∧ FrameEnd U o U' L 0 0) := by
  refine MetFree.of_bodySF (plainFor_of_name pn_1) hisR ?_
  intro p e s m args below meth c s₁ Bd hml0 hP hK
  obtain ⟨rfl, hZ, hh⟩ := hP
  have hx := Bd.exec
  have hby := Bd.bytes
  have hml : c.maxLocals = 12 := hml0
  have hown : s.vm.findClass "com/example/eraztun/eraztun/JumpHashBucketPinLaw" = some m.cls := findClass_of_methodNamed Bd.named
  have hnm := (name_of_methodNamed Bd.named Bd.method).1
  have X0 : Stand p l e room_1 s m #[(.long q0), (.int p1), (.int p2)] below meth c s₁ [] 0 0 := Stand.of_body Bd
  have e0 : s₁.heap = h0 := by rw [← hh, Bd.state]; rfl
  have N0 := Fr.nil n0
  have pre0 : ∀ t, Steps p.tables e below (s₁.setTop (mkF m 0 #[.val (.long q0), .second, .val (.int p1), .val (.int p2), .unset, .unset, .unset, .unset, .unset, .unset, .unset, .unset] [])) t → Steps p.tables e below (s₁.setTop (entryFrame m #[(.long q0), (.int p1), (.int p2)] maxLocals)) t := fun t k => castTop (ef_0 m q0 p1 p2) k
  obtain ⟨_, _, ⟨T2, L2, k2, n2⟩, -, X2, ⟨Lc2, hQ2, l2, y2, z2⟩, st2⟩ := Jvm.LawKit.callS X0 hx (y := (⟨"java/lang/Math", "max", "(II)I"⟩ : MethodName)) hown (mvT hZ (hw _ (List.mem_of_getElem? (i := 1) rfl))) (mvT hZ (hw _ (List.mem_of_getElem? (i := 2) rfl))) (mvT hZ (hw _ (List.mem_of_getElem? (i := 3) rfl))) (mvT hZ (hw _ (List.mem_of_getElem? (i := 4) rfl))) (by decide) (backOf (W := 0) (rm1 l Z ag hw [] (1 : Int32) (p1 &&& (2147483647 : Int32))  h0 n0 Z0 ) hZ (hw _ (List.mem_of_getElem? (i := 4) rfl)) (hw _ (List.mem_of_getElem? (i := 3) rfl)) (by decide) (by decide)) (g := (mkF m 5 (own_loc1 q0 p1 p2) [(.int (p1 &&& (2147483647 : Int32))), .int 1])) rfl (by rw [hml]; rfl) (argsL := [(.int (1 : Int32)), (.int (p1 &&& (2147483647 : Int32)))]) (rest := []) (lenOf pd_0 rfl) rfl (by show 2 * 0 + _ ≤ _; exact Nat.le_of_eq rfl) (hb hby at_5) (fun _ _ => ⟨rfl, e0, (by decide : 0 + 0 ≤ _), (by decide : 0 + 0 ≤ _)⟩)
  dsimp only [Pt.U, Pt.locs, Pt.cells, Pt.slots] at X2 l2 y2 z2 st2 hQ2
  subst l2 y2 z2
  obtain ⟨rfl, N2q, e2⟩ := hQ2
  have N2 := Fr.app N0 N2q
  obtain ⟨nn, h_nn⟩ : ∃ z : Int32, z = (own_max (1 : Int32) (p1 &&& (2147483647 : Int32))) := ⟨_, rfl⟩
  have sg3 : ∀ target, Steps p.tables e below (T2.setTop (mkF m 10 (own_loc3 q0 p1 p2 nn) [])) target → Steps p.tables e below (T2.setTop (mkF m 10 (own_loc2 q0 p1 p2) [])) target := by subst h_nn; exact fun _ k => k
  have hn1 : 1 ≤ nn.toInt := by rw [h_nn]; exact own_nn1 _
  obtain ⟨_, _, ⟨T4, L4, k4, n4⟩, -, X4, ⟨Lc4, hQ4, l4, y4, z4⟩, st4⟩ := Jvm.LawKit.callS X2 hx (y := (⟨"java/lang/Math", "max", "(II)I"⟩ : MethodName)) hown (mvT hZ (hw _ (List.mem_of_getElem? (i := 1) rfl))) (mvT hZ (hw _ (List.mem_of_getElem? (i := 2) rfl))) (mvT hZ (hw _ (List.mem_of_getElem? (i := 3) rfl))) (mvT hZ (hw _ (List.mem_of_getElem? (i := 4) rfl))) (by decide) (backOf (W := 0) (rm1 l Z ag hw [] nn (p2 &&& (2147483647 : Int32))  h0 n0 Z0 ) hZ (hw _ (List.mem_of_getElem? (i := 4) rfl)) (hw _ (List.mem_of_getElem? (i := 3) rfl)) (by decide) (by decide)) (g := (mkF m 16 (own_loc3 q0 p1 p2 nn) [(.int (p2 &&& (2147483647 : Int32))), (.int nn)])) rfl (by rw [hml]; rfl) (argsL := [(.int nn), (.int (p2 &&& (2147483647 : Int32)))]) (rest := []) (lenOf pd_0 rfl) rfl (by show 2 * 0 + _ ≤ _; exact Nat.le_of_eq rfl) (hb hby at_16) (fun _ _ => ⟨rfl, e2, (by decide : 0 + 0 ≤ _), (by decide : 0 + 0 ≤ _)⟩)
  dsimp only [Pt.U, Pt.locs, Pt.cells, Pt.slots] at X4 l4 y4 z4 st4 hQ4
  subst l4 y4 z4
  obtain ⟨rfl, N4q, e4⟩ := hQ4
  have N4 := Fr.app N2 N4q
  obtain ⟨mm, h_mm⟩ : ∃ z : Int32, z = (own_max nn (p2 &&& (2147483647 : Int32))) := ⟨_, rfl⟩
  have sg5 : ∀ target, Steps p.tables e below (T4.setTop (mkF m 21 (own_loc5 q0 p1 p2 nn mm) [])) target → Steps p.tables e below (T4.setTop (mkF m 21 (own_loc4 q0 p1 p2 nn) [])) target := by subst h_mm; exact fun _ k => k
  have hnm : nn.toInt ≤ mm.toInt := by rw [h_mm]; exact own_max_ge _ _
  have hm1 : 1 ≤ mm.toInt := Int.le_trans hn1 hnm
  have cp6 : ∀ target, own_S p e below T4 (mkF m 24 (own_loc5 q0 p1 p2 nn mm) [(.int nn), (.long q0)]) target → own_S p e below s₁ (mkF m 0 (own_loc1 q0 p1 p2) []) target := by
    intro target kt
    show own_S p e below s₁ (mkF m 0 (own_loc1 q0 p1 p2) []) _
    refine XS.iconst X0.here hx rfl (hb hby at_0) ?_
    show own_S p e below s₁ (mkF m 1 (own_loc1 q0 p1 p2) [.int 1]) _
    refine XS.iloadN X0.here hx rfl (hb hby at_1) rfl ?_
    show own_S p e below s₁ (mkF m 2 (own_loc1 q0 p1 p2) [(.int p1), .int 1]) _
    refine X0.ldcInt hx hown (mvT hZ (hw _ (List.mem_of_getElem? (i := 0) rfl))) (g := (mkF m 2 (own_loc1 q0 p1 p2) [(.int p1), .int 1])) rfl (hb hby at_2) _ ?_
    show own_S p e below s₁ (mkF m 4 (own_loc1 q0 p1 p2) [.int 2147483647, (.int p1), .int 1]) _
    refine XS.iand X0.here hx rfl (hb hby at_4) rfl ?_
    show own_S p e below s₁ (mkF m 5 (own_loc1 q0 p1 p2) [(.int (p1 &&& (2147483647 : Int32))), .int 1]) _
    refine st2 _ ?_
    show own_S p e below T2 (mkF m 8 (own_loc1 q0 p1 p2) [(.int (own_max (1 : Int32) (p1 &&& (2147483647 : Int32))))]) _
    refine XS.istore X2.here hx rfl (hb hby at_8) rfl (l' := (own_loc2 q0 p1 p2)) rfl ?_
    show own_S p e below T2 (mkF m 10 (own_loc2 q0 p1 p2) []) _
    refine sg3 _ ?_
    show own_S p e below T2 (mkF m 10 (own_loc3 q0 p1 p2 nn) []) _
    refine XS.iload X2.here hx rfl (hb hby at_10) rfl ?_
    show own_S p e below T2 (mkF m 12 (own_loc3 q0 p1 p2 nn) [(.int nn)]) _
    refine XS.iloadN X2.here hx rfl (hb hby at_12) rfl ?_
    show own_S p e below T2 (mkF m 13 (own_loc3 q0 p1 p2 nn) [(.int p2), (.int nn)]) _
    refine X2.ldcInt hx hown (mvT hZ (hw _ (List.mem_of_getElem? (i := 0) rfl))) (g := (mkF m 13 (own_loc3 q0 p1 p2 nn) [(.int p2), (.int nn)])) rfl (hb hby at_13) _ ?_
    show own_S p e below T2 (mkF m 15 (own_loc3 q0 p1 p2 nn) [.int 2147483647, (.int p2), (.int nn)]) _
    refine XS.iand X2.here hx rfl (hb hby at_15) rfl ?_
    show own_S p e below T2 (mkF m 16 (own_loc3 q0 p1 p2 nn) [(.int (p2 &&& (2147483647 : Int32))), (.int nn)]) _
    refine st4 _ ?_
    show own_S p e below T4 (mkF m 19 (own_loc3 q0 p1 p2 nn) [(.int (own_max nn (p2 &&& (2147483647 : Int32))))]) _
    refine XS.istore X4.here hx rfl (hb hby at_19) rfl (l' := (own_loc4 q0 p1 p2 nn)) rfl ?_
    show own_S p e below T4 (mkF m 21 (own_loc4 q0 p1 p2 nn) []) _
    refine sg5 _ ?_
    show own_S p e below T4 (mkF m 21 (own_loc5 q0 p1 p2 nn mm) []) _
    refine XS.lloadN X4.here hx rfl (hb hby at_21) rfl ?_
    show own_S p e below T4 (mkF m 22 (own_loc5 q0 p1 p2 nn mm) [(.long q0)]) _
    refine XS.iload X4.here hx rfl (hb hby at_22) rfl ?_
    exact kt
  obtain ⟨_, _, ⟨T7, L7, k7, n7⟩, -, X7, ⟨Lc7, hQ7, l7, y7, z7⟩, st7⟩ := Jvm.LawKit.callS X4 hx (y := (⟨"com/example/eraztun/eraztun/JumpHash", "bucket", "(JI)I"⟩ : MethodName)) hown (mvT hZ (hw _ (List.mem_of_getElem? (i := 5) rfl))) (mvT hZ (hw _ (List.mem_of_getElem? (i := 6) rfl))) (mvT hZ (hw _ (List.mem_of_getElem? (i := 7) rfl))) (mvT hZ (hw _ (List.mem_of_getElem? (i := 8) rfl))) (by decide) (backOf (W := 0) (rm2 l Z ag hw [] q0 nn  h0 n0 Z0 hn1) hZ (hw _ (List.mem_of_getElem? (i := 8) rfl)) (hw _ (List.mem_of_getElem? (i := 7) rfl)) (by decide) (by decide)) (g := (mkF m 24 (own_loc5 q0 p1 p2 nn mm) [(.int nn), (.long q0)])) rfl (by rw [hml]; rfl) (argsL := [(.long q0), (.int nn)]) (rest := []) (lenOf pd_1 rfl) rfl (by show 2 * 0 + _ ≤ _; exact Nat.le_of_eq rfl) (hb hby at_24) (fun _ _ => ⟨rfl, e4, (by decide : 0 + 0 ≤ _), (by decide : 0 + 0 ≤ _)⟩)
  dsimp only [Pt.U, Pt.locs, Pt.cells, Pt.slots] at X7 l7 y7 z7 st7 hQ7
  subst l7 y7 z7
  obtain ⟨rfl, N7q, e7⟩ := hQ7
  have N7 := Fr.app N4 N7q
  have cp9 : ∀ target, own_S p e below T7 (mkF m 71 (own_loc8 q0 p1 p2 nn mm) [(.int (lcmpW ((2147483648 : Int64) / ((own_ushrL ((q0 * (2862933555777941757 : Int64)) + (1 : Int64)) (33 : Int32)) + (1 : Int64))) (nn.toInt64)))]) target → own_S p e below s₁ (mkF m 0 (own_loc1 q0 p1 p2) []) target := by
    intro target kt
    show own_S p e below s₁ (mkF m 0 (own_loc1 q0 p1 p2) []) _
    refine cp6 _ ?_
    show own_S p e below T4 (mkF m 24 (own_loc5 q0 p1 p2 nn mm) [(.int nn), (.long q0)]) _
    refine st7 _ ?_
    show own_S p e below T7 (mkF m 27 (own_loc5 q0 p1 p2 nn mm) [(.int (own_bk q0 nn))]) _
    refine XS.istore X7.here hx rfl (hb hby at_27) rfl (l' := (own_loc6 q0 p1 p2 nn mm)) rfl ?_
    show own_S p e below T7 (mkF m 29 (own_loc6 q0 p1 p2 nn mm) []) _
    refine XS.iload X7.here hx rfl (hb hby at_29) rfl ?_
    show own_S p e below T7 (mkF m 31 (own_loc6 q0 p1 p2 nn mm) [(.int (own_bk q0 nn))]) _
    refine XS.ifNo X7.here hx rfl (hb hby at_31) rfl ((if0 _ _).trans (flt (show ¬ ((own_bk q0 nn) < (0 : Int32)) from own_c0 q0 nn hn1)).1) ?_
    show own_S p e below T7 (mkF m 34 (own_loc6 q0 p1 p2 nn mm) []) _
    refine XS.iload X7.here hx rfl (hb hby at_34) rfl ?_
    show own_S p e below T7 (mkF m 36 (own_loc6 q0 p1 p2 nn mm) [(.int (own_bk q0 nn))]) _
    refine XS.iload X7.here hx rfl (hb hby at_36) rfl ?_
    show own_S p e below T7 (mkF m 38 (own_loc6 q0 p1 p2 nn mm) [(.int nn), (.int (own_bk q0 nn))]) _
    refine XS.icmpYes X7.here hx rfl (pc0 := 38) (pc' := 43) rfl (hb hby at_38) rfl (tlt (show (own_bk q0 nn) < nn from own_c1 q0 nn hn1)).1 (by decide) (by decide) ?_
    show own_S p e below T7 (mkF m 43 (own_loc6 q0 p1 p2 nn mm) []) _
    refine XS.lloadN X7.here hx rfl (hb hby at_43) rfl ?_
    show own_S p e below T7 (mkF m 44 (own_loc6 q0 p1 p2 nn mm) [(.long q0)]) _
    refine X7.ldc2Long hx hown (mvT hZ (hw _ (List.mem_of_getElem? (i := 12) rfl))) (g := (mkF m 44 (own_loc6 q0 p1 p2 nn mm) [(.long q0)])) rfl (hb hby at_44) _ ?_
    show own_S p e below T7 (mkF m 47 (own_loc6 q0 p1 p2 nn mm) [.long 2862933555777941757, (.long q0)]) _
    refine XS.lmul X7.here hx rfl (hb hby at_47) rfl ?_
    show own_S p e below T7 (mkF m 48 (own_loc6 q0 p1 p2 nn mm) [(.long (q0 * (2862933555777941757 : Int64)))]) _
    refine XS.lconst X7.here hx rfl (hb hby at_48) ?_
    show own_S p e below T7 (mkF m 49 (own_loc6 q0 p1 p2 nn mm) [.long 1, (.long (q0 * (2862933555777941757 : Int64)))]) _
    refine XS.ladd X7.here hx rfl (hb hby at_49) rfl ?_
    show own_S p e below T7 (mkF m 50 (own_loc6 q0 p1 p2 nn mm) [(.long ((q0 * (2862933555777941757 : Int64)) + (1 : Int64)))]) _
    refine XS.bipush X7.here hx rfl (hb hby at_50) ?_
    show own_S p e below T7 (mkF m 52 (own_loc6 q0 p1 p2 nn mm) [.int 33, (.long ((q0 * (2862933555777941757 : Int64)) + (1 : Int64)))]) _
    refine XS.lushr X7.here hx rfl (hb hby at_52) rfl ?_
    show own_S p e below T7 (mkF m 53 (own_loc6 q0 p1 p2 nn mm) [(.long (own_ushrL ((q0 * (2862933555777941757 : Int64)) + (1 : Int64)) (33 : Int32)))]) _
    refine XS.lstore X7.here hx rfl (hb hby at_53) rfl (l' := (own_loc7 q0 p1 p2 nn mm)) rfl ?_
    show own_S p e below T7 (mkF m 55 (own_loc7 q0 p1 p2 nn mm) []) _
    refine X7.ldc2Long hx hown (mvT hZ (hw _ (List.mem_of_getElem? (i := 13) rfl))) (g := (mkF m 55 (own_loc7 q0 p1 p2 nn mm) [])) rfl (hb hby at_55) _ ?_
    show own_S p e below T7 (mkF m 58 (own_loc7 q0 p1 p2 nn mm) [.long 2147483648]) _
    refine XS.lload X7.here hx rfl (hb hby at_58) rfl ?_
    show own_S p e below T7 (mkF m 60 (own_loc7 q0 p1 p2 nn mm) [(.long (own_ushrL ((q0 * (2862933555777941757 : Int64)) + (1 : Int64)) (33 : Int32))), .long 2147483648]) _
    refine XS.lconst X7.here hx rfl (hb hby at_60) ?_
    show own_S p e below T7 (mkF m 61 (own_loc7 q0 p1 p2 nn mm) [.long 1, (.long (own_ushrL ((q0 * (2862933555777941757 : Int64)) + (1 : Int64)) (33 : Int32))), .long 2147483648]) _
    refine XS.ladd X7.here hx rfl (hb hby at_61) rfl ?_
    show own_S p e below T7 (mkF m 62 (own_loc7 q0 p1 p2 nn mm) [(.long ((own_ushrL ((q0 * (2862933555777941757 : Int64)) + (1 : Int64)) (33 : Int32)) + (1 : Int64))), .long 2147483648]) _
    refine XS.ldiv X7.here hx rfl (hb hby at_62) rfl (own_dnz q0) ?_
    show own_S p e below T7 (mkF m 63 (own_loc7 q0 p1 p2 nn mm) [(.long ((2147483648 : Int64) / ((own_ushrL ((q0 * (2862933555777941757 : Int64)) + (1 : Int64)) (33 : Int32)) + (1 : Int64))))]) _
    refine XS.lstore X7.here hx rfl (hb hby at_63) rfl (l' := (own_loc8 q0 p1 p2 nn mm)) rfl ?_
    show own_S p e below T7 (mkF m 65 (own_loc8 q0 p1 p2 nn mm) []) _
    refine XS.lload X7.here hx rfl (hb hby at_65) rfl ?_
    show own_S p e below T7 (mkF m 67 (own_loc8 q0 p1 p2 nn mm) [(.long ((2147483648 : Int64) / ((own_ushrL ((q0 * (2862933555777941757 : Int64)) + (1 : Int64)) (33 : Int32)) + (1 : Int64))))]) _
    refine XS.iload X7.here hx rfl (hb hby at_67) rfl ?_
    show own_S p e below T7 (mkF m 69 (own_loc8 q0 p1 p2 nn mm) [(.int nn), (.long ((2147483648 : Int64) / ((own_ushrL ((q0 * (2862933555777941757 : Int64)) + (1 : Int64)) (33 : Int32)) + (1 : Int64))))]) _
    refine XS.i2l X7.here hx rfl (hb hby at_69) rfl ?_
    show own_S p e below T7 (mkF m 70 (own_loc8 q0 p1 p2 nn mm) [(.long (nn.toInt64)), (.long ((2147483648 : Int64) / ((own_ushrL ((q0 * (2862933555777941757 : Int64)) + (1 : Int64)) (33 : Int32)) + (1 : Int64))))]) _
    refine XS.lcmp X7.here hx rfl (hb hby at_70) rfl ?_
    exact kt
  by_cases hc8 : ((2147483648 : Int64) / ((own_ushrL ((q0 * (2862933555777941757 : Int64)) + (1 : Int64)) (33 : Int32)) + (1 : Int64))) < (nn.toInt64)
  · have cp11 : ∀ target, own_S p e below T7 (mkF m 96 (own_loc8 q0 p1 p2 nn mm) [.int 2147483647, (.int nn)]) target → own_S p e below s₁ (mkF m 0 (own_loc1 q0 p1 p2) []) target := by
      intro target kt
      show own_S p e below s₁ (mkF m 0 (own_loc1 q0 p1 p2) []) _
      refine cp9 _ ?_
      show own_S p e below T7 (mkF m 71 (own_loc8 q0 p1 p2 nn mm) [(.int (lcmpW ((2147483648 : Int64) / ((own_ushrL ((q0 * (2862933555777941757 : Int64)) + (1 : Int64)) (33 : Int32)) + (1 : Int64))) (nn.toInt64)))]) _
      refine XS.ifYes X7.here hx rfl (pc0 := 71) (pc' := 81) rfl (hb hby at_71) rfl ((if0 _ _).trans (tlt ((lw_lt ((2147483648 : Int64) / ((own_ushrL ((q0 * (2862933555777941757 : Int64)) + (1 : Int64)) (33 : Int32)) + (1 : Int64))) (nn.toInt64)).mpr hc8)).1) (by decide) (by decide) ?_
      show own_S p e below T7 (mkF m 81 (own_loc8 q0 p1 p2 nn mm) []) _
      refine XS.iload X7.here hx rfl (hb hby at_81) rfl ?_
      show own_S p e below T7 (mkF m 83 (own_loc8 q0 p1 p2 nn mm) [(.int (own_bk q0 nn))]) _
      refine XS.i2l X7.here hx rfl (hb hby at_83) rfl ?_
      show own_S p e below T7 (mkF m 84 (own_loc8 q0 p1 p2 nn mm) [(.long ((own_bk q0 nn).toInt64))]) _
      refine XS.lload X7.here hx rfl (hb hby at_84) rfl ?_
      show own_S p e below T7 (mkF m 86 (own_loc8 q0 p1 p2 nn mm) [(.long ((2147483648 : Int64) / ((own_ushrL ((q0 * (2862933555777941757 : Int64)) + (1 : Int64)) (33 : Int32)) + (1 : Int64)))), (.long ((own_bk q0 nn).toInt64))]) _
      refine XS.lcmp X7.here hx rfl (hb hby at_86) rfl ?_
      show own_S p e below T7 (mkF m 87 (own_loc8 q0 p1 p2 nn mm) [(.int (lcmpW ((own_bk q0 nn).toInt64) ((2147483648 : Int64) / ((own_ushrL ((q0 * (2862933555777941757 : Int64)) + (1 : Int64)) (33 : Int32)) + (1 : Int64)))))]) _
      refine XS.ifYes X7.here hx rfl (pc0 := 87) (pc' := 92) rfl (hb hby at_87) rfl ((if0 _ _).trans (flt (fun q => (show ¬ (((own_bk q0 nn).toInt64) < ((2147483648 : Int64) / ((own_ushrL ((q0 * (2862933555777941757 : Int64)) + (1 : Int64)) (33 : Int32)) + (1 : Int64)))) from own_c3 q0 nn hn1 hc8) ((lw_lt ((own_bk q0 nn).toInt64) ((2147483648 : Int64) / ((own_ushrL ((q0 * (2862933555777941757 : Int64)) + (1 : Int64)) (33 : Int32)) + (1 : Int64)))).mp q))).2.1) (by decide) (by decide) ?_
      show own_S p e below T7 (mkF m 92 (own_loc8 q0 p1 p2 nn mm) []) _
      refine XS.iload X7.here hx rfl (hb hby at_92) rfl ?_
      show own_S p e below T7 (mkF m 94 (own_loc8 q0 p1 p2 nn mm) [(.int nn)]) _
      refine X7.ldcInt hx hown (mvT hZ (hw _ (List.mem_of_getElem? (i := 0) rfl))) (g := (mkF m 94 (own_loc8 q0 p1 p2 nn mm) [(.int nn)])) rfl (hb hby at_94) _ ?_
      exact kt
    by_cases hc10 : nn < (2147483647 : Int32)
    · obtain ⟨_, _, ⟨T12, L12, k12, n12⟩, -, X12, ⟨Lc12, hQ12, l12, y12, z12⟩, st12⟩ := Jvm.LawKit.callS X7 hx (y := (⟨"com/example/eraztun/eraztun/JumpHash", "bucket", "(JI)I"⟩ : MethodName)) hown (mvT hZ (hw _ (List.mem_of_getElem? (i := 5) rfl))) (mvT hZ (hw _ (List.mem_of_getElem? (i := 6) rfl))) (mvT hZ (hw _ (List.mem_of_getElem? (i := 7) rfl))) (mvT hZ (hw _ (List.mem_of_getElem? (i := 8) rfl))) (by decide) (backOf (W := 0) (rm2 l Z ag hw [] q0 (nn + (1 : Int32))  h0 n0 Z0 (own_n1p nn hn1 hc10)) hZ (hw _ (List.mem_of_getElem? (i := 8) rfl)) (hw _ (List.mem_of_getElem? (i := 7) rfl)) (by decide) (by decide)) (g := (mkF m 104 (own_loc8 q0 p1 p2 nn mm) [(.int (nn + (1 : Int32))), (.long q0)])) rfl (by rw [hml]; rfl) (argsL := [(.long q0), (.int (nn + (1 : Int32)))]) (rest := []) (lenOf pd_1 rfl) rfl (by show 2 * 0 + _ ≤ _; exact Nat.le_of_eq rfl) (hb hby at_104) (fun _ _ => ⟨rfl, e7, (by decide : 0 + 0 ≤ _), (by decide : 0 + 0 ≤ _)⟩)
      dsimp only [Pt.U, Pt.locs, Pt.cells, Pt.slots] at X12 l12 y12 z12 st12 hQ12
      subst l12 y12 z12
      obtain ⟨rfl, N12q, e12⟩ := hQ12
      have N12 := Fr.app N7 N12q
      have cp14 : ∀ target, own_S p e below T12 (mkF m 113 (own_loc9 q0 p1 p2 nn mm) [(.int (own_bk q0 nn)), (.int (own_bk q0 (nn + (1 : Int32))))]) target → own_S p e below s₁ (mkF m 0 (own_loc1 q0 p1 p2) []) target := by
        intro target kt
        show own_S p e below s₁ (mkF m 0 (own_loc1 q0 p1 p2) []) _
        refine cp11 _ ?_
        show own_S p e below T7 (mkF m 96 (own_loc8 q0 p1 p2 nn mm) [.int 2147483647, (.int nn)]) _
        refine XS.icmpNo X7.here hx rfl (hb hby at_96) rfl (tlt hc10).2.1 ?_
        show own_S p e below T7 (mkF m 99 (own_loc8 q0 p1 p2 nn mm) []) _
        refine XS.lloadN X7.here hx rfl (hb hby at_99) rfl ?_
        show own_S p e below T7 (mkF m 100 (own_loc8 q0 p1 p2 nn mm) [(.long q0)]) _
        refine XS.iload X7.here hx rfl (hb hby at_100) rfl ?_
        show own_S p e below T7 (mkF m 102 (own_loc8 q0 p1 p2 nn mm) [(.int nn), (.long q0)]) _
        refine XS.iconst X7.here hx rfl (hb hby at_102) ?_
        show own_S p e below T7 (mkF m 103 (own_loc8 q0 p1 p2 nn mm) [.int 1, (.int nn), (.long q0)]) _
        refine XS.iadd X7.here hx rfl (hb hby at_103) rfl ?_
        show own_S p e below T7 (mkF m 104 (own_loc8 q0 p1 p2 nn mm) [(.int (nn + (1 : Int32))), (.long q0)]) _
        refine st12 _ ?_
        show own_S p e below T12 (mkF m 107 (own_loc8 q0 p1 p2 nn mm) [(.int (own_bk q0 (nn + (1 : Int32))))]) _
        refine XS.istore X12.here hx rfl (hb hby at_107) rfl (l' := (own_loc9 q0 p1 p2 nn mm)) rfl ?_
        show own_S p e below T12 (mkF m 109 (own_loc9 q0 p1 p2 nn mm) []) _
        refine XS.iload X12.here hx rfl (hb hby at_109) rfl ?_
        show own_S p e below T12 (mkF m 111 (own_loc9 q0 p1 p2 nn mm) [(.int (own_bk q0 (nn + (1 : Int32))))]) _
        refine XS.iload X12.here hx rfl (hb hby at_111) rfl ?_
        exact kt
      by_cases hc13 : (own_bk q0 (nn + (1 : Int32))) = (own_bk q0 nn)
      · obtain ⟨_, _, ⟨T15, L15, k15, n15⟩, -, X15, ⟨Lc15, hQ15, l15, y15, z15⟩, st15⟩ := Jvm.LawKit.callS X12 hx (y := (⟨"com/example/eraztun/eraztun/JumpHash", "bucket", "(JI)I"⟩ : MethodName)) hown (mvT hZ (hw _ (List.mem_of_getElem? (i := 5) rfl))) (mvT hZ (hw _ (List.mem_of_getElem? (i := 6) rfl))) (mvT hZ (hw _ (List.mem_of_getElem? (i := 7) rfl))) (mvT hZ (hw _ (List.mem_of_getElem? (i := 8) rfl))) (by decide) (backOf (W := 0) (rm2 l Z ag hw [] q0 mm  h0 n0 Z0 hm1) hZ (hw _ (List.mem_of_getElem? (i := 8) rfl)) (hw _ (List.mem_of_getElem? (i := 7) rfl)) (by decide) (by decide)) (g := (mkF m 128 (own_loc9 q0 p1 p2 nn mm) [(.int mm), (.long q0)])) rfl (by rw [hml]; rfl) (argsL := [(.long q0), (.int mm)]) (rest := []) (lenOf pd_1 rfl) rfl (by show 2 * 0 + _ ≤ _; exact Nat.le_of_eq rfl) (hb hby at_128) (fun _ _ => ⟨rfl, e12, (by decide : 0 + 0 ≤ _), (by decide : 0 + 0 ≤ _)⟩)
        dsimp only [Pt.U, Pt.locs, Pt.cells, Pt.slots] at X15 l15 y15 z15 st15 hQ15
        subst l15 y15 z15
        obtain ⟨rfl, N15q, e15⟩ := hQ15
        have N15 := Fr.app N12 N15q
        have cp17 : ∀ target, own_S p e below T15 (mkF m 151 (own_loc10 q0 p1 p2 nn mm) [(.int nn), (.int (own_bk q0 mm))]) target → own_S p e below s₁ (mkF m 0 (own_loc1 q0 p1 p2) []) target := by
          intro target kt
          show own_S p e below s₁ (mkF m 0 (own_loc1 q0 p1 p2) []) _
          refine cp14 _ ?_
          show own_S p e below T12 (mkF m 113 (own_loc9 q0 p1 p2 nn mm) [(.int (own_bk q0 nn)), (.int (own_bk q0 (nn + (1 : Int32))))]) _
          refine XS.icmpYes X12.here hx rfl (pc0 := 113) (pc' := 125) rfl (hb hby at_113) rfl (teq hc13).1 (by decide) (by decide) ?_
          show own_S p e below T12 (mkF m 125 (own_loc9 q0 p1 p2 nn mm) []) _
          refine XS.lloadN X12.here hx rfl (hb hby at_125) rfl ?_
          show own_S p e below T12 (mkF m 126 (own_loc9 q0 p1 p2 nn mm) [(.long q0)]) _
          refine XS.iload X12.here hx rfl (hb hby at_126) rfl ?_
          show own_S p e below T12 (mkF m 128 (own_loc9 q0 p1 p2 nn mm) [(.int mm), (.long q0)]) _
          refine st15 _ ?_
          show own_S p e below T15 (mkF m 131 (own_loc9 q0 p1 p2 nn mm) [(.int (own_bk q0 mm))]) _
          refine XS.istore X15.here hx rfl (hb hby at_131) rfl (l' := (own_loc10 q0 p1 p2 nn mm)) rfl ?_
          show own_S p e below T15 (mkF m 133 (own_loc10 q0 p1 p2 nn mm) []) _
          refine XS.iload X15.here hx rfl (hb hby at_133) rfl ?_
          show own_S p e below T15 (mkF m 135 (own_loc10 q0 p1 p2 nn mm) [(.int (own_bk q0 mm))]) _
          refine XS.ifNo X15.here hx rfl (hb hby at_135) rfl ((if0 _ _).trans (flt (show ¬ ((own_bk q0 mm) < (0 : Int32)) from own_c0 q0 mm hm1)).1) ?_
          show own_S p e below T15 (mkF m 138 (own_loc10 q0 p1 p2 nn mm) []) _
          refine XS.iload X15.here hx rfl (hb hby at_138) rfl ?_
          show own_S p e below T15 (mkF m 140 (own_loc10 q0 p1 p2 nn mm) [(.int (own_bk q0 mm))]) _
          refine XS.iload X15.here hx rfl (hb hby at_140) rfl ?_
          show own_S p e below T15 (mkF m 142 (own_loc10 q0 p1 p2 nn mm) [(.int mm), (.int (own_bk q0 mm))]) _
          refine XS.icmpYes X15.here hx rfl (pc0 := 142) (pc' := 147) rfl (hb hby at_142) rfl (tlt (show (own_bk q0 mm) < mm from own_c1 q0 mm hm1)).1 (by decide) (by decide) ?_
          show own_S p e below T15 (mkF m 147 (own_loc10 q0 p1 p2 nn mm) []) _
          refine XS.iload X15.here hx rfl (hb hby at_147) rfl ?_
          show own_S p e below T15 (mkF m 149 (own_loc10 q0 p1 p2 nn mm) [(.int (own_bk q0 mm))]) _
          refine XS.iload X15.here hx rfl (hb hby at_149) rfl ?_
          exact kt
        by_cases hc16 : (own_bk q0 mm) < nn
        · obtain ⟨fs, hr, hrun, hended, hW, hsame⟩ := X15.leave (v := some (.int (1 : Int32))) (fun h => by rw [Bd.returns] at h; cases h)
          refine ⟨_, _, pre0 _ ?_, hrun, hended, _, _, rfl, ?_, ⟨_, rfl⟩, hW, hsame.mono (by decide) (by decide)⟩
          · show own_S p e below s₁ (mkF m 0 (own_loc1 q0 p1 p2) []) _
            refine cp17 _ ?_
            show own_S p e below T15 (mkF m 151 (own_loc10 q0 p1 p2 nn mm) [(.int nn), (.int (own_bk q0 mm))]) _
            refine XS.icmpNo X15.here hx rfl (hb hby at_151) rfl (tlt hc16).2.1 ?_
            show own_S p e below T15 (mkF m 154 (own_loc10 q0 p1 p2 nn mm) []) _
            refine XS.iload X15.here hx rfl (hb hby at_154) rfl ?_
            show own_S p e below T15 (mkF m 156 (own_loc10 q0 p1 p2 nn mm) [(.int (own_bk q0 mm))]) _
            refine XS.iload X15.here hx rfl (hb hby at_156) rfl ?_
            show own_S p e below T15 (mkF m 158 (own_loc10 q0 p1 p2 nn mm) [(.int (own_bk q0 nn)), (.int (own_bk q0 mm))]) _
            refine XS.icmpYes X15.here hx rfl (pc0 := 158) (pc' := 163) rfl (hb hby at_158) rfl (teq (show (own_bk q0 mm) = (own_bk q0 nn) from own_c5 q0 nn mm hn1 hnm hc16)).1 (by decide) (by decide) ?_
            show own_S p e below T15 (mkF m 163 (own_loc10 q0 p1 p2 nn mm) []) _
            refine XS.iload X15.here hx rfl (hb hby at_163) rfl ?_
            show own_S p e below T15 (mkF m 165 (own_loc10 q0 p1 p2 nn mm) [(.int (own_bk q0 mm))]) _
            refine XS.iload X15.here hx rfl (hb hby at_165) rfl ?_
            show own_S p e below T15 (mkF m 167 (own_loc10 q0 p1 p2 nn mm) [(.int (own_bk q0 nn)), (.int (own_bk q0 mm))]) _
            refine XS.icmpYes X15.here hx rfl (pc0 := 167) (pc' := 172) rfl (hb hby at_167) rfl (flt (show ¬ ((own_bk q0 mm) < (own_bk q0 nn)) from own_c6 q0 nn mm hn1 hnm)).2.1 (by decide) (by decide) ?_
            show own_S p e below T15 (mkF m 172 (own_loc10 q0 p1 p2 nn mm) []) _
            refine XS.iconst X15.here hx rfl (hb hby at_172) ?_
            show own_S p e below T15 (mkF m 173 (own_loc10 q0 p1 p2 nn mm) [.int 1]) _
            exact retN X15 hx (t := .boolean) Bd.returns (by simp) (hb hby at_173) hr
          · exact ⟨rfl, N15⟩
        · obtain ⟨fs, hr, hrun, hended, hW, hsame⟩ := X15.leave (v := some (.int (1 : Int32))) (fun h => by rw [Bd.returns] at h; cases h)
          refine ⟨_, _, pre0 _ ?_, hrun, hended, _, _, rfl, ?_, ⟨_, rfl⟩, hW, hsame.mono (by decide) (by decide)⟩
          · show own_S p e below s₁ (mkF m 0 (own_loc1 q0 p1 p2) []) _
            refine cp17 _ ?_
            show own_S p e below T15 (mkF m 151 (own_loc10 q0 p1 p2 nn mm) [(.int nn), (.int (own_bk q0 mm))]) _
            refine XS.icmpYes X15.here hx rfl (pc0 := 151) (pc' := 163) rfl (hb hby at_151) rfl (flt hc16).2.1 (by decide) (by decide) ?_
            show own_S p e below T15 (mkF m 163 (own_loc10 q0 p1 p2 nn mm) []) _
            refine XS.iload X15.here hx rfl (hb hby at_163) rfl ?_
            show own_S p e below T15 (mkF m 165 (own_loc10 q0 p1 p2 nn mm) [(.int (own_bk q0 mm))]) _
            refine XS.iload X15.here hx rfl (hb hby at_165) rfl ?_
            show own_S p e below T15 (mkF m 167 (own_loc10 q0 p1 p2 nn mm) [(.int (own_bk q0 nn)), (.int (own_bk q0 mm))]) _
            refine XS.icmpYes X15.here hx rfl (pc0 := 167) (pc' := 172) rfl (hb hby at_167) rfl (flt (show ¬ ((own_bk q0 mm) < (own_bk q0 nn)) from own_c6 q0 nn mm hn1 hnm)).2.1 (by decide) (by decide) ?_
            show own_S p e below T15 (mkF m 172 (own_loc10 q0 p1 p2 nn mm) []) _
            refine XS.iconst X15.here hx rfl (hb hby at_172) ?_
            show own_S p e below T15 (mkF m 173 (own_loc10 q0 p1 p2 nn mm) [.int 1]) _
            exact retN X15 hx (t := .boolean) Bd.returns (by simp) (hb hby at_173) hr
          · exact ⟨rfl, N15⟩
      · obtain ⟨_, _, ⟨T18, L18, k18, n18⟩, -, X18, ⟨Lc18, hQ18, l18, y18, z18⟩, st18⟩ := Jvm.LawKit.callS X12 hx (y := (⟨"com/example/eraztun/eraztun/JumpHash", "bucket", "(JI)I"⟩ : MethodName)) hown (mvT hZ (hw _ (List.mem_of_getElem? (i := 5) rfl))) (mvT hZ (hw _ (List.mem_of_getElem? (i := 6) rfl))) (mvT hZ (hw _ (List.mem_of_getElem? (i := 7) rfl))) (mvT hZ (hw _ (List.mem_of_getElem? (i := 8) rfl))) (by decide) (backOf (W := 0) (rm2 l Z ag hw [] q0 mm  h0 n0 Z0 hm1) hZ (hw _ (List.mem_of_getElem? (i := 8) rfl)) (hw _ (List.mem_of_getElem? (i := 7) rfl)) (by decide) (by decide)) (g := (mkF m 128 (own_loc9 q0 p1 p2 nn mm) [(.int mm), (.long q0)])) rfl (by rw [hml]; rfl) (argsL := [(.long q0), (.int mm)]) (rest := []) (lenOf pd_1 rfl) rfl (by show 2 * 0 + _ ≤ _; exact Nat.le_of_eq rfl) (hb hby at_128) (fun _ _ => ⟨rfl, e12, (by decide : 0 + 0 ≤ _), (by decide : 0 + 0 ≤ _)⟩)
        dsimp only [Pt.U, Pt.locs, Pt.cells, Pt.slots] at X18 l18 y18 z18 st18 hQ18
        subst l18 y18 z18
        obtain ⟨rfl, N18q, e18⟩ := hQ18
        have N18 := Fr.app N12 N18q
        have cp20 : ∀ target, own_S p e below T18 (mkF m 151 (own_loc10 q0 p1 p2 nn mm) [(.int nn), (.int (own_bk q0 mm))]) target → own_S p e below s₁ (mkF m 0 (own_loc1 q0 p1 p2) []) target := by
          intro target kt
          show own_S p e below s₁ (mkF m 0 (own_loc1 q0 p1 p2) []) _
          refine cp14 _ ?_
          show own_S p e below T12 (mkF m 113 (own_loc9 q0 p1 p2 nn mm) [(.int (own_bk q0 nn)), (.int (own_bk q0 (nn + (1 : Int32))))]) _
          refine XS.icmpNo X12.here hx rfl (hb hby at_113) rfl (feq hc13).1 ?_
          show own_S p e below T12 (mkF m 116 (own_loc9 q0 p1 p2 nn mm) []) _
          refine XS.iload X12.here hx rfl (hb hby at_116) rfl ?_
          show own_S p e below T12 (mkF m 118 (own_loc9 q0 p1 p2 nn mm) [(.int (own_bk q0 (nn + (1 : Int32))))]) _
          refine XS.iload X12.here hx rfl (hb hby at_118) rfl ?_
          show own_S p e below T12 (mkF m 120 (own_loc9 q0 p1 p2 nn mm) [(.int nn), (.int (own_bk q0 (nn + (1 : Int32))))]) _
          refine XS.icmpYes X12.here hx rfl (pc0 := 120) (pc' := 125) rfl (hb hby at_120) rfl (teq (show (own_bk q0 (nn + (1 : Int32))) = nn from own_c4 q0 nn hn1 hc10 hc13)).1 (by decide) (by decide) ?_
          show own_S p e below T12 (mkF m 125 (own_loc9 q0 p1 p2 nn mm) []) _
          refine XS.lloadN X12.here hx rfl (hb hby at_125) rfl ?_
          show own_S p e below T12 (mkF m 126 (own_loc9 q0 p1 p2 nn mm) [(.long q0)]) _
          refine XS.iload X12.here hx rfl (hb hby at_126) rfl ?_
          show own_S p e below T12 (mkF m 128 (own_loc9 q0 p1 p2 nn mm) [(.int mm), (.long q0)]) _
          refine st18 _ ?_
          show own_S p e below T18 (mkF m 131 (own_loc9 q0 p1 p2 nn mm) [(.int (own_bk q0 mm))]) _
          refine XS.istore X18.here hx rfl (hb hby at_131) rfl (l' := (own_loc10 q0 p1 p2 nn mm)) rfl ?_
          show own_S p e below T18 (mkF m 133 (own_loc10 q0 p1 p2 nn mm) []) _
          refine XS.iload X18.here hx rfl (hb hby at_133) rfl ?_
          show own_S p e below T18 (mkF m 135 (own_loc10 q0 p1 p2 nn mm) [(.int (own_bk q0 mm))]) _
          refine XS.ifNo X18.here hx rfl (hb hby at_135) rfl ((if0 _ _).trans (flt (show ¬ ((own_bk q0 mm) < (0 : Int32)) from own_c0 q0 mm hm1)).1) ?_
          show own_S p e below T18 (mkF m 138 (own_loc10 q0 p1 p2 nn mm) []) _
          refine XS.iload X18.here hx rfl (hb hby at_138) rfl ?_
          show own_S p e below T18 (mkF m 140 (own_loc10 q0 p1 p2 nn mm) [(.int (own_bk q0 mm))]) _
          refine XS.iload X18.here hx rfl (hb hby at_140) rfl ?_
          show own_S p e below T18 (mkF m 142 (own_loc10 q0 p1 p2 nn mm) [(.int mm), (.int (own_bk q0 mm))]) _
          refine XS.icmpYes X18.here hx rfl (pc0 := 142) (pc' := 147) rfl (hb hby at_142) rfl (tlt (show (own_bk q0 mm) < mm from own_c1 q0 mm hm1)).1 (by decide) (by decide) ?_
          show own_S p e below T18 (mkF m 147 (own_loc10 q0 p1 p2 nn mm) []) _
          refine XS.iload X18.here hx rfl (hb hby at_147) rfl ?_
          show own_S p e below T18 (mkF m 149 (own_loc10 q0 p1 p2 nn mm) [(.int (own_bk q0 mm))]) _
          refine XS.iload X18.here hx rfl (hb hby at_149) rfl ?_
          exact kt
        by_cases hc19 : (own_bk q0 mm) < nn
        · obtain ⟨fs, hr, hrun, hended, hW, hsame⟩ := X18.leave (v := some (.int (1 : Int32))) (fun h => by rw [Bd.returns] at h; cases h)
          refine ⟨_, _, pre0 _ ?_, hrun, hended, _, _, rfl, ?_, ⟨_, rfl⟩, hW, hsame.mono (by decide) (by decide)⟩
          · show own_S p e below s₁ (mkF m 0 (own_loc1 q0 p1 p2) []) _
            refine cp20 _ ?_
            show own_S p e below T18 (mkF m 151 (own_loc10 q0 p1 p2 nn mm) [(.int nn), (.int (own_bk q0 mm))]) _
            refine XS.icmpNo X18.here hx rfl (hb hby at_151) rfl (tlt hc19).2.1 ?_
            show own_S p e below T18 (mkF m 154 (own_loc10 q0 p1 p2 nn mm) []) _
            refine XS.iload X18.here hx rfl (hb hby at_154) rfl ?_
            show own_S p e below T18 (mkF m 156 (own_loc10 q0 p1 p2 nn mm) [(.int (own_bk q0 mm))]) _
            refine XS.iload X18.here hx rfl (hb hby at_156) rfl ?_
            show own_S p e below T18 (mkF m 158 (own_loc10 q0 p1 p2 nn mm) [(.int (own_bk q0 nn)), (.int (own_bk q0 mm))]) _
            refine XS.icmpYes X18.here hx rfl (pc0 := 158) (pc' := 163) rfl (hb hby at_158) rfl (teq (show (own_bk q0 mm) = (own_bk q0 nn) from own_c5 q0 nn mm hn1 hnm hc19)).1 (by decide) (by decide) ?_
            show own_S p e below T18 (mkF m 163 (own_loc10 q0 p1 p2 nn mm) []) _
            refine XS.iload X18.here hx rfl (hb hby at_163) rfl ?_
            show own_S p e below T18 (mkF m 165 (own_loc10 q0 p1 p2 nn mm) [(.int (own_bk q0 mm))]) _
            refine XS.iload X18.here hx rfl (hb hby at_165) rfl ?_
            show own_S p e below T18 (mkF m 167 (own_loc10 q0 p1 p2 nn mm) [(.int (own_bk q0 nn)), (.int (own_bk q0 mm))]) _
            refine XS.icmpYes X18.here hx rfl (pc0 := 167) (pc' := 172) rfl (hb hby at_167) rfl (flt (show ¬ ((own_bk q0 mm) < (own_bk q0 nn)) from own_c6 q0 nn mm hn1 hnm)).2.1 (by decide) (by decide) ?_
            show own_S p e below T18 (mkF m 172 (own_loc10 q0 p1 p2 nn mm) []) _
            refine XS.iconst X18.here hx rfl (hb hby at_172) ?_
            show own_S p e below T18 (mkF m 173 (own_loc10 q0 p1 p2 nn mm) [.int 1]) _
            exact retN X18 hx (t := .boolean) Bd.returns (by simp) (hb hby at_173) hr
          · exact ⟨rfl, N18⟩
        · obtain ⟨fs, hr, hrun, hended, hW, hsame⟩ := X18.leave (v := some (.int (1 : Int32))) (fun h => by rw [Bd.returns] at h; cases h)
          refine ⟨_, _, pre0 _ ?_, hrun, hended, _, _, rfl, ?_, ⟨_, rfl⟩, hW, hsame.mono (by decide) (by decide)⟩
          · show own_S p e below s₁ (mkF m 0 (own_loc1 q0 p1 p2) []) _
            refine cp20 _ ?_
            show own_S p e below T18 (mkF m 151 (own_loc10 q0 p1 p2 nn mm) [(.int nn), (.int (own_bk q0 mm))]) _
            refine XS.icmpYes X18.here hx rfl (pc0 := 151) (pc' := 163) rfl (hb hby at_151) rfl (flt hc19).2.1 (by decide) (by decide) ?_
            show own_S p e below T18 (mkF m 163 (own_loc10 q0 p1 p2 nn mm) []) _
            refine XS.iload X18.here hx rfl (hb hby at_163) rfl ?_
            show own_S p e below T18 (mkF m 165 (own_loc10 q0 p1 p2 nn mm) [(.int (own_bk q0 mm))]) _
            refine XS.iload X18.here hx rfl (hb hby at_165) rfl ?_
            show own_S p e below T18 (mkF m 167 (own_loc10 q0 p1 p2 nn mm) [(.int (own_bk q0 nn)), (.int (own_bk q0 mm))]) _
            refine XS.icmpYes X18.here hx rfl (pc0 := 167) (pc' := 172) rfl (hb hby at_167) rfl (flt (show ¬ ((own_bk q0 mm) < (own_bk q0 nn)) from own_c6 q0 nn mm hn1 hnm)).2.1 (by decide) (by decide) ?_
            show own_S p e below T18 (mkF m 172 (own_loc10 q0 p1 p2 nn mm) []) _
            refine XS.iconst X18.here hx rfl (hb hby at_172) ?_
            show own_S p e below T18 (mkF m 173 (own_loc10 q0 p1 p2 nn mm) [.int 1]) _
            exact retN X18 hx (t := .boolean) Bd.returns (by simp) (hb hby at_173) hr
          · exact ⟨rfl, N18⟩
    · obtain ⟨_, _, ⟨T21, L21, k21, n21⟩, -, X21, ⟨Lc21, hQ21, l21, y21, z21⟩, st21⟩ := Jvm.LawKit.callS X7 hx (y := (⟨"com/example/eraztun/eraztun/JumpHash", "bucket", "(JI)I"⟩ : MethodName)) hown (mvT hZ (hw _ (List.mem_of_getElem? (i := 5) rfl))) (mvT hZ (hw _ (List.mem_of_getElem? (i := 6) rfl))) (mvT hZ (hw _ (List.mem_of_getElem? (i := 7) rfl))) (mvT hZ (hw _ (List.mem_of_getElem? (i := 8) rfl))) (by decide) (backOf (W := 0) (rm2 l Z ag hw [] q0 mm  h0 n0 Z0 hm1) hZ (hw _ (List.mem_of_getElem? (i := 8) rfl)) (hw _ (List.mem_of_getElem? (i := 7) rfl)) (by decide) (by decide)) (g := (mkF m 128 (own_loc8 q0 p1 p2 nn mm) [(.int mm), (.long q0)])) rfl (by rw [hml]; rfl) (argsL := [(.long q0), (.int mm)]) (rest := []) (lenOf pd_1 rfl) rfl (by show 2 * 0 + _ ≤ _; exact Nat.le_of_eq rfl) (hb hby at_128) (fun _ _ => ⟨rfl, e7, (by decide : 0 + 0 ≤ _), (by decide : 0 + 0 ≤ _)⟩)
      dsimp only [Pt.U, Pt.locs, Pt.cells, Pt.slots] at X21 l21 y21 z21 st21 hQ21
      subst l21 y21 z21
      obtain ⟨rfl, N21q, e21⟩ := hQ21
      have N21 := Fr.app N7 N21q
      have cp23 : ∀ target, own_S p e below T21 (mkF m 151 (own_loc10 q0 p1 p2 nn mm) [(.int nn), (.int (own_bk q0 mm))]) target → own_S p e below s₁ (mkF m 0 (own_loc1 q0 p1 p2) []) target := by
        intro target kt
        show own_S p e below s₁ (mkF m 0 (own_loc1 q0 p1 p2) []) _
        refine cp11 _ ?_
        show own_S p e below T7 (mkF m 96 (own_loc8 q0 p1 p2 nn mm) [.int 2147483647, (.int nn)]) _
        refine XS.icmpYes X7.here hx rfl (pc0 := 96) (pc' := 125) rfl (hb hby at_96) rfl (flt hc10).2.1 (by decide) (by decide) ?_
        show own_S p e below T7 (mkF m 125 (own_loc8 q0 p1 p2 nn mm) []) _
        refine XS.lloadN X7.here hx rfl (hb hby at_125) rfl ?_
        show own_S p e below T7 (mkF m 126 (own_loc8 q0 p1 p2 nn mm) [(.long q0)]) _
        refine XS.iload X7.here hx rfl (hb hby at_126) rfl ?_
        show own_S p e below T7 (mkF m 128 (own_loc8 q0 p1 p2 nn mm) [(.int mm), (.long q0)]) _
        refine st21 _ ?_
        show own_S p e below T21 (mkF m 131 (own_loc8 q0 p1 p2 nn mm) [(.int (own_bk q0 mm))]) _
        refine XS.istore X21.here hx rfl (hb hby at_131) rfl (l' := (own_loc10 q0 p1 p2 nn mm)) rfl ?_
        show own_S p e below T21 (mkF m 133 (own_loc10 q0 p1 p2 nn mm) []) _
        refine XS.iload X21.here hx rfl (hb hby at_133) rfl ?_
        show own_S p e below T21 (mkF m 135 (own_loc10 q0 p1 p2 nn mm) [(.int (own_bk q0 mm))]) _
        refine XS.ifNo X21.here hx rfl (hb hby at_135) rfl ((if0 _ _).trans (flt (show ¬ ((own_bk q0 mm) < (0 : Int32)) from own_c0 q0 mm hm1)).1) ?_
        show own_S p e below T21 (mkF m 138 (own_loc10 q0 p1 p2 nn mm) []) _
        refine XS.iload X21.here hx rfl (hb hby at_138) rfl ?_
        show own_S p e below T21 (mkF m 140 (own_loc10 q0 p1 p2 nn mm) [(.int (own_bk q0 mm))]) _
        refine XS.iload X21.here hx rfl (hb hby at_140) rfl ?_
        show own_S p e below T21 (mkF m 142 (own_loc10 q0 p1 p2 nn mm) [(.int mm), (.int (own_bk q0 mm))]) _
        refine XS.icmpYes X21.here hx rfl (pc0 := 142) (pc' := 147) rfl (hb hby at_142) rfl (tlt (show (own_bk q0 mm) < mm from own_c1 q0 mm hm1)).1 (by decide) (by decide) ?_
        show own_S p e below T21 (mkF m 147 (own_loc10 q0 p1 p2 nn mm) []) _
        refine XS.iload X21.here hx rfl (hb hby at_147) rfl ?_
        show own_S p e below T21 (mkF m 149 (own_loc10 q0 p1 p2 nn mm) [(.int (own_bk q0 mm))]) _
        refine XS.iload X21.here hx rfl (hb hby at_149) rfl ?_
        exact kt
      by_cases hc22 : (own_bk q0 mm) < nn
      · obtain ⟨fs, hr, hrun, hended, hW, hsame⟩ := X21.leave (v := some (.int (1 : Int32))) (fun h => by rw [Bd.returns] at h; cases h)
        refine ⟨_, _, pre0 _ ?_, hrun, hended, _, _, rfl, ?_, ⟨_, rfl⟩, hW, hsame.mono (by decide) (by decide)⟩
        · show own_S p e below s₁ (mkF m 0 (own_loc1 q0 p1 p2) []) _
          refine cp23 _ ?_
          show own_S p e below T21 (mkF m 151 (own_loc10 q0 p1 p2 nn mm) [(.int nn), (.int (own_bk q0 mm))]) _
          refine XS.icmpNo X21.here hx rfl (hb hby at_151) rfl (tlt hc22).2.1 ?_
          show own_S p e below T21 (mkF m 154 (own_loc10 q0 p1 p2 nn mm) []) _
          refine XS.iload X21.here hx rfl (hb hby at_154) rfl ?_
          show own_S p e below T21 (mkF m 156 (own_loc10 q0 p1 p2 nn mm) [(.int (own_bk q0 mm))]) _
          refine XS.iload X21.here hx rfl (hb hby at_156) rfl ?_
          show own_S p e below T21 (mkF m 158 (own_loc10 q0 p1 p2 nn mm) [(.int (own_bk q0 nn)), (.int (own_bk q0 mm))]) _
          refine XS.icmpYes X21.here hx rfl (pc0 := 158) (pc' := 163) rfl (hb hby at_158) rfl (teq (show (own_bk q0 mm) = (own_bk q0 nn) from own_c5 q0 nn mm hn1 hnm hc22)).1 (by decide) (by decide) ?_
          show own_S p e below T21 (mkF m 163 (own_loc10 q0 p1 p2 nn mm) []) _
          refine XS.iload X21.here hx rfl (hb hby at_163) rfl ?_
          show own_S p e below T21 (mkF m 165 (own_loc10 q0 p1 p2 nn mm) [(.int (own_bk q0 mm))]) _
          refine XS.iload X21.here hx rfl (hb hby at_165) rfl ?_
          show own_S p e below T21 (mkF m 167 (own_loc10 q0 p1 p2 nn mm) [(.int (own_bk q0 nn)), (.int (own_bk q0 mm))]) _
          refine XS.icmpYes X21.here hx rfl (pc0 := 167) (pc' := 172) rfl (hb hby at_167) rfl (flt (show ¬ ((own_bk q0 mm) < (own_bk q0 nn)) from own_c6 q0 nn mm hn1 hnm)).2.1 (by decide) (by decide) ?_
          show own_S p e below T21 (mkF m 172 (own_loc10 q0 p1 p2 nn mm) []) _
          refine XS.iconst X21.here hx rfl (hb hby at_172) ?_
          show own_S p e below T21 (mkF m 173 (own_loc10 q0 p1 p2 nn mm) [.int 1]) _
          exact retN X21 hx (t := .boolean) Bd.returns (by simp) (hb hby at_173) hr
        · exact ⟨rfl, N21⟩
      · obtain ⟨fs, hr, hrun, hended, hW, hsame⟩ := X21.leave (v := some (.int (1 : Int32))) (fun h => by rw [Bd.returns] at h; cases h)
        refine ⟨_, _, pre0 _ ?_, hrun, hended, _, _, rfl, ?_, ⟨_, rfl⟩, hW, hsame.mono (by decide) (by decide)⟩
        · show own_S p e below s₁ (mkF m 0 (own_loc1 q0 p1 p2) []) _
          refine cp23 _ ?_
          show own_S p e below T21 (mkF m 151 (own_loc10 q0 p1 p2 nn mm) [(.int nn), (.int (own_bk q0 mm))]) _
          refine XS.icmpYes X21.here hx rfl (pc0 := 151) (pc' := 163) rfl (hb hby at_151) rfl (flt hc22).2.1 (by decide) (by decide) ?_
          show own_S p e below T21 (mkF m 163 (own_loc10 q0 p1 p2 nn mm) []) _
          refine XS.iload X21.here hx rfl (hb hby at_163) rfl ?_
          show own_S p e below T21 (mkF m 165 (own_loc10 q0 p1 p2 nn mm) [(.int (own_bk q0 mm))]) _
          refine XS.iload X21.here hx rfl (hb hby at_165) rfl ?_
          show own_S p e below T21 (mkF m 167 (own_loc10 q0 p1 p2 nn mm) [(.int (own_bk q0 nn)), (.int (own_bk q0 mm))]) _
          refine XS.icmpYes X21.here hx rfl (pc0 := 167) (pc' := 172) rfl (hb hby at_167) rfl (flt (show ¬ ((own_bk q0 mm) < (own_bk q0 nn)) from own_c6 q0 nn mm hn1 hnm)).2.1 (by decide) (by decide) ?_
          show own_S p e below T21 (mkF m 172 (own_loc10 q0 p1 p2 nn mm) []) _
          refine XS.iconst X21.here hx rfl (hb hby at_172) ?_
          show own_S p e below T21 (mkF m 173 (own_loc10 q0 p1 p2 nn mm) [.int 1]) _
          exact retN X21 hx (t := .boolean) Bd.returns (by simp) (hb hby at_173) hr
        · exact ⟨rfl, N21⟩
  · have cp25 : ∀ target, own_S p e below T7 (mkF m 96 (own_loc8 q0 p1 p2 nn mm) [.int 2147483647, (.int nn)]) target → own_S p e below s₁ (mkF m 0 (own_loc1 q0 p1 p2) []) target := by
      intro target kt
      show own_S p e below s₁ (mkF m 0 (own_loc1 q0 p1 p2) []) _
      refine cp9 _ ?_
      show own_S p e below T7 (mkF m 71 (own_loc8 q0 p1 p2 nn mm) [(.int (lcmpW ((2147483648 : Int64) / ((own_ushrL ((q0 * (2862933555777941757 : Int64)) + (1 : Int64)) (33 : Int32)) + (1 : Int64))) (nn.toInt64)))]) _
      refine XS.ifNo X7.here hx rfl (hb hby at_71) rfl ((if0 _ _).trans (flt (fun q => hc8 ((lw_lt ((2147483648 : Int64) / ((own_ushrL ((q0 * (2862933555777941757 : Int64)) + (1 : Int64)) (33 : Int32)) + (1 : Int64))) (nn.toInt64)).mp q))).1) ?_
      show own_S p e below T7 (mkF m 74 (own_loc8 q0 p1 p2 nn mm) []) _
      refine XS.iload X7.here hx rfl (hb hby at_74) rfl ?_
      show own_S p e below T7 (mkF m 76 (own_loc8 q0 p1 p2 nn mm) [(.int (own_bk q0 nn))]) _
      refine XS.ifYes X7.here hx rfl (pc0 := 76) (pc' := 92) rfl (hb hby at_76) rfl ((if0 _ _).trans (teq (show (own_bk q0 nn) = (0 : Int32) from own_c2 q0 nn hn1 hc8)).1) (by decide) (by decide) ?_
      show own_S p e below T7 (mkF m 92 (own_loc8 q0 p1 p2 nn mm) []) _
      refine XS.iload X7.here hx rfl (hb hby at_92) rfl ?_
      show own_S p e below T7 (mkF m 94 (own_loc8 q0 p1 p2 nn mm) [(.int nn)]) _
      refine X7.ldcInt hx hown (mvT hZ (hw _ (List.mem_of_getElem? (i := 0) rfl))) (g := (mkF m 94 (own_loc8 q0 p1 p2 nn mm) [(.int nn)])) rfl (hb hby at_94) _ ?_
      exact kt
    by_cases hc24 : nn < (2147483647 : Int32)
    · obtain ⟨_, _, ⟨T26, L26, k26, n26⟩, -, X26, ⟨Lc26, hQ26, l26, y26, z26⟩, st26⟩ := Jvm.LawKit.callS X7 hx (y := (⟨"com/example/eraztun/eraztun/JumpHash", "bucket", "(JI)I"⟩ : MethodName)) hown (mvT hZ (hw _ (List.mem_of_getElem? (i := 5) rfl))) (mvT hZ (hw _ (List.mem_of_getElem? (i := 6) rfl))) (mvT hZ (hw _ (List.mem_of_getElem? (i := 7) rfl))) (mvT hZ (hw _ (List.mem_of_getElem? (i := 8) rfl))) (by decide) (backOf (W := 0) (rm2 l Z ag hw [] q0 (nn + (1 : Int32))  h0 n0 Z0 (own_n1p nn hn1 hc24)) hZ (hw _ (List.mem_of_getElem? (i := 8) rfl)) (hw _ (List.mem_of_getElem? (i := 7) rfl)) (by decide) (by decide)) (g := (mkF m 104 (own_loc8 q0 p1 p2 nn mm) [(.int (nn + (1 : Int32))), (.long q0)])) rfl (by rw [hml]; rfl) (argsL := [(.long q0), (.int (nn + (1 : Int32)))]) (rest := []) (lenOf pd_1 rfl) rfl (by show 2 * 0 + _ ≤ _; exact Nat.le_of_eq rfl) (hb hby at_104) (fun _ _ => ⟨rfl, e7, (by decide : 0 + 0 ≤ _), (by decide : 0 + 0 ≤ _)⟩)
      dsimp only [Pt.U, Pt.locs, Pt.cells, Pt.slots] at X26 l26 y26 z26 st26 hQ26
      subst l26 y26 z26
      obtain ⟨rfl, N26q, e26⟩ := hQ26
      have N26 := Fr.app N7 N26q
      have cp28 : ∀ target, own_S p e below T26 (mkF m 113 (own_loc9 q0 p1 p2 nn mm) [(.int (own_bk q0 nn)), (.int (own_bk q0 (nn + (1 : Int32))))]) target → own_S p e below s₁ (mkF m 0 (own_loc1 q0 p1 p2) []) target := by
        intro target kt
        show own_S p e below s₁ (mkF m 0 (own_loc1 q0 p1 p2) []) _
        refine cp25 _ ?_
        show own_S p e below T7 (mkF m 96 (own_loc8 q0 p1 p2 nn mm) [.int 2147483647, (.int nn)]) _
        refine XS.icmpNo X7.here hx rfl (hb hby at_96) rfl (tlt hc24).2.1 ?_
        show own_S p e below T7 (mkF m 99 (own_loc8 q0 p1 p2 nn mm) []) _
        refine XS.lloadN X7.here hx rfl (hb hby at_99) rfl ?_
        show own_S p e below T7 (mkF m 100 (own_loc8 q0 p1 p2 nn mm) [(.long q0)]) _
        refine XS.iload X7.here hx rfl (hb hby at_100) rfl ?_
        show own_S p e below T7 (mkF m 102 (own_loc8 q0 p1 p2 nn mm) [(.int nn), (.long q0)]) _
        refine XS.iconst X7.here hx rfl (hb hby at_102) ?_
        show own_S p e below T7 (mkF m 103 (own_loc8 q0 p1 p2 nn mm) [.int 1, (.int nn), (.long q0)]) _
        refine XS.iadd X7.here hx rfl (hb hby at_103) rfl ?_
        show own_S p e below T7 (mkF m 104 (own_loc8 q0 p1 p2 nn mm) [(.int (nn + (1 : Int32))), (.long q0)]) _
        refine st26 _ ?_
        show own_S p e below T26 (mkF m 107 (own_loc8 q0 p1 p2 nn mm) [(.int (own_bk q0 (nn + (1 : Int32))))]) _
        refine XS.istore X26.here hx rfl (hb hby at_107) rfl (l' := (own_loc9 q0 p1 p2 nn mm)) rfl ?_
        show own_S p e below T26 (mkF m 109 (own_loc9 q0 p1 p2 nn mm) []) _
        refine XS.iload X26.here hx rfl (hb hby at_109) rfl ?_
        show own_S p e below T26 (mkF m 111 (own_loc9 q0 p1 p2 nn mm) [(.int (own_bk q0 (nn + (1 : Int32))))]) _
        refine XS.iload X26.here hx rfl (hb hby at_111) rfl ?_
        exact kt
      by_cases hc27 : (own_bk q0 (nn + (1 : Int32))) = (own_bk q0 nn)
      · obtain ⟨_, _, ⟨T29, L29, k29, n29⟩, -, X29, ⟨Lc29, hQ29, l29, y29, z29⟩, st29⟩ := Jvm.LawKit.callS X26 hx (y := (⟨"com/example/eraztun/eraztun/JumpHash", "bucket", "(JI)I"⟩ : MethodName)) hown (mvT hZ (hw _ (List.mem_of_getElem? (i := 5) rfl))) (mvT hZ (hw _ (List.mem_of_getElem? (i := 6) rfl))) (mvT hZ (hw _ (List.mem_of_getElem? (i := 7) rfl))) (mvT hZ (hw _ (List.mem_of_getElem? (i := 8) rfl))) (by decide) (backOf (W := 0) (rm2 l Z ag hw [] q0 mm  h0 n0 Z0 hm1) hZ (hw _ (List.mem_of_getElem? (i := 8) rfl)) (hw _ (List.mem_of_getElem? (i := 7) rfl)) (by decide) (by decide)) (g := (mkF m 128 (own_loc9 q0 p1 p2 nn mm) [(.int mm), (.long q0)])) rfl (by rw [hml]; rfl) (argsL := [(.long q0), (.int mm)]) (rest := []) (lenOf pd_1 rfl) rfl (by show 2 * 0 + _ ≤ _; exact Nat.le_of_eq rfl) (hb hby at_128) (fun _ _ => ⟨rfl, e26, (by decide : 0 + 0 ≤ _), (by decide : 0 + 0 ≤ _)⟩)
        dsimp only [Pt.U, Pt.locs, Pt.cells, Pt.slots] at X29 l29 y29 z29 st29 hQ29
        subst l29 y29 z29
        obtain ⟨rfl, N29q, e29⟩ := hQ29
        have N29 := Fr.app N26 N29q
        have cp31 : ∀ target, own_S p e below T29 (mkF m 151 (own_loc10 q0 p1 p2 nn mm) [(.int nn), (.int (own_bk q0 mm))]) target → own_S p e below s₁ (mkF m 0 (own_loc1 q0 p1 p2) []) target := by
          intro target kt
          show own_S p e below s₁ (mkF m 0 (own_loc1 q0 p1 p2) []) _
          refine cp28 _ ?_
          show own_S p e below T26 (mkF m 113 (own_loc9 q0 p1 p2 nn mm) [(.int (own_bk q0 nn)), (.int (own_bk q0 (nn + (1 : Int32))))]) _
          refine XS.icmpYes X26.here hx rfl (pc0 := 113) (pc' := 125) rfl (hb hby at_113) rfl (teq hc27).1 (by decide) (by decide) ?_
          show own_S p e below T26 (mkF m 125 (own_loc9 q0 p1 p2 nn mm) []) _
          refine XS.lloadN X26.here hx rfl (hb hby at_125) rfl ?_
          show own_S p e below T26 (mkF m 126 (own_loc9 q0 p1 p2 nn mm) [(.long q0)]) _
          refine XS.iload X26.here hx rfl (hb hby at_126) rfl ?_
          show own_S p e below T26 (mkF m 128 (own_loc9 q0 p1 p2 nn mm) [(.int mm), (.long q0)]) _
          refine st29 _ ?_
          show own_S p e below T29 (mkF m 131 (own_loc9 q0 p1 p2 nn mm) [(.int (own_bk q0 mm))]) _
          refine XS.istore X29.here hx rfl (hb hby at_131) rfl (l' := (own_loc10 q0 p1 p2 nn mm)) rfl ?_
          show own_S p e below T29 (mkF m 133 (own_loc10 q0 p1 p2 nn mm) []) _
          refine XS.iload X29.here hx rfl (hb hby at_133) rfl ?_
          show own_S p e below T29 (mkF m 135 (own_loc10 q0 p1 p2 nn mm) [(.int (own_bk q0 mm))]) _
          refine XS.ifNo X29.here hx rfl (hb hby at_135) rfl ((if0 _ _).trans (flt (show ¬ ((own_bk q0 mm) < (0 : Int32)) from own_c0 q0 mm hm1)).1) ?_
          show own_S p e below T29 (mkF m 138 (own_loc10 q0 p1 p2 nn mm) []) _
          refine XS.iload X29.here hx rfl (hb hby at_138) rfl ?_
          show own_S p e below T29 (mkF m 140 (own_loc10 q0 p1 p2 nn mm) [(.int (own_bk q0 mm))]) _
          refine XS.iload X29.here hx rfl (hb hby at_140) rfl ?_
          show own_S p e below T29 (mkF m 142 (own_loc10 q0 p1 p2 nn mm) [(.int mm), (.int (own_bk q0 mm))]) _
          refine XS.icmpYes X29.here hx rfl (pc0 := 142) (pc' := 147) rfl (hb hby at_142) rfl (tlt (show (own_bk q0 mm) < mm from own_c1 q0 mm hm1)).1 (by decide) (by decide) ?_
          show own_S p e below T29 (mkF m 147 (own_loc10 q0 p1 p2 nn mm) []) _
          refine XS.iload X29.here hx rfl (hb hby at_147) rfl ?_
          show own_S p e below T29 (mkF m 149 (own_loc10 q0 p1 p2 nn mm) [(.int (own_bk q0 mm))]) _
          refine XS.iload X29.here hx rfl (hb hby at_149) rfl ?_
          exact kt
        by_cases hc30 : (own_bk q0 mm) < nn
        · obtain ⟨fs, hr, hrun, hended, hW, hsame⟩ := X29.leave (v := some (.int (1 : Int32))) (fun h => by rw [Bd.returns] at h; cases h)
          refine ⟨_, _, pre0 _ ?_, hrun, hended, _, _, rfl, ?_, ⟨_, rfl⟩, hW, hsame.mono (by decide) (by decide)⟩
          · show own_S p e below s₁ (mkF m 0 (own_loc1 q0 p1 p2) []) _
            refine cp31 _ ?_
            show own_S p e below T29 (mkF m 151 (own_loc10 q0 p1 p2 nn mm) [(.int nn), (.int (own_bk q0 mm))]) _
            refine XS.icmpNo X29.here hx rfl (hb hby at_151) rfl (tlt hc30).2.1 ?_
            show own_S p e below T29 (mkF m 154 (own_loc10 q0 p1 p2 nn mm) []) _
            refine XS.iload X29.here hx rfl (hb hby at_154) rfl ?_
            show own_S p e below T29 (mkF m 156 (own_loc10 q0 p1 p2 nn mm) [(.int (own_bk q0 mm))]) _
            refine XS.iload X29.here hx rfl (hb hby at_156) rfl ?_
            show own_S p e below T29 (mkF m 158 (own_loc10 q0 p1 p2 nn mm) [(.int (own_bk q0 nn)), (.int (own_bk q0 mm))]) _
            refine XS.icmpYes X29.here hx rfl (pc0 := 158) (pc' := 163) rfl (hb hby at_158) rfl (teq (show (own_bk q0 mm) = (own_bk q0 nn) from own_c5 q0 nn mm hn1 hnm hc30)).1 (by decide) (by decide) ?_
            show own_S p e below T29 (mkF m 163 (own_loc10 q0 p1 p2 nn mm) []) _
            refine XS.iload X29.here hx rfl (hb hby at_163) rfl ?_
            show own_S p e below T29 (mkF m 165 (own_loc10 q0 p1 p2 nn mm) [(.int (own_bk q0 mm))]) _
            refine XS.iload X29.here hx rfl (hb hby at_165) rfl ?_
            show own_S p e below T29 (mkF m 167 (own_loc10 q0 p1 p2 nn mm) [(.int (own_bk q0 nn)), (.int (own_bk q0 mm))]) _
            refine XS.icmpYes X29.here hx rfl (pc0 := 167) (pc' := 172) rfl (hb hby at_167) rfl (flt (show ¬ ((own_bk q0 mm) < (own_bk q0 nn)) from own_c6 q0 nn mm hn1 hnm)).2.1 (by decide) (by decide) ?_
            show own_S p e below T29 (mkF m 172 (own_loc10 q0 p1 p2 nn mm) []) _
            refine XS.iconst X29.here hx rfl (hb hby at_172) ?_
            show own_S p e below T29 (mkF m 173 (own_loc10 q0 p1 p2 nn mm) [.int 1]) _
            exact retN X29 hx (t := .boolean) Bd.returns (by simp) (hb hby at_173) hr
          · exact ⟨rfl, N29⟩
        · obtain ⟨fs, hr, hrun, hended, hW, hsame⟩ := X29.leave (v := some (.int (1 : Int32))) (fun h => by rw [Bd.returns] at h; cases h)
          refine ⟨_, _, pre0 _ ?_, hrun, hended, _, _, rfl, ?_, ⟨_, rfl⟩, hW, hsame.mono (by decide) (by decide)⟩
          · show own_S p e below s₁ (mkF m 0 (own_loc1 q0 p1 p2) []) _
            refine cp31 _ ?_
            show own_S p e below T29 (mkF m 151 (own_loc10 q0 p1 p2 nn mm) [(.int nn), (.int (own_bk q0 mm))]) _
            refine XS.icmpYes X29.here hx rfl (pc0 := 151) (pc' := 163) rfl (hb hby at_151) rfl (flt hc30).2.1 (by decide) (by decide) ?_
            show own_S p e below T29 (mkF m 163 (own_loc10 q0 p1 p2 nn mm) []) _
            refine XS.iload X29.here hx rfl (hb hby at_163) rfl ?_
            show own_S p e below T29 (mkF m 165 (own_loc10 q0 p1 p2 nn mm) [(.int (own_bk q0 mm))]) _
            refine XS.iload X29.here hx rfl (hb hby at_165) rfl ?_
            show own_S p e below T29 (mkF m 167 (own_loc10 q0 p1 p2 nn mm) [(.int (own_bk q0 nn)), (.int (own_bk q0 mm))]) _
            refine XS.icmpYes X29.here hx rfl (pc0 := 167) (pc' := 172) rfl (hb hby at_167) rfl (flt (show ¬ ((own_bk q0 mm) < (own_bk q0 nn)) from own_c6 q0 nn mm hn1 hnm)).2.1 (by decide) (by decide) ?_
            show own_S p e below T29 (mkF m 172 (own_loc10 q0 p1 p2 nn mm) []) _
            refine XS.iconst X29.here hx rfl (hb hby at_172) ?_
            show own_S p e below T29 (mkF m 173 (own_loc10 q0 p1 p2 nn mm) [.int 1]) _
            exact retN X29 hx (t := .boolean) Bd.returns (by simp) (hb hby at_173) hr
          · exact ⟨rfl, N29⟩
      · obtain ⟨_, _, ⟨T32, L32, k32, n32⟩, -, X32, ⟨Lc32, hQ32, l32, y32, z32⟩, st32⟩ := Jvm.LawKit.callS X26 hx (y := (⟨"com/example/eraztun/eraztun/JumpHash", "bucket", "(JI)I"⟩ : MethodName)) hown (mvT hZ (hw _ (List.mem_of_getElem? (i := 5) rfl))) (mvT hZ (hw _ (List.mem_of_getElem? (i := 6) rfl))) (mvT hZ (hw _ (List.mem_of_getElem? (i := 7) rfl))) (mvT hZ (hw _ (List.mem_of_getElem? (i := 8) rfl))) (by decide) (backOf (W := 0) (rm2 l Z ag hw [] q0 mm  h0 n0 Z0 hm1) hZ (hw _ (List.mem_of_getElem? (i := 8) rfl)) (hw _ (List.mem_of_getElem? (i := 7) rfl)) (by decide) (by decide)) (g := (mkF m 128 (own_loc9 q0 p1 p2 nn mm) [(.int mm), (.long q0)])) rfl (by rw [hml]; rfl) (argsL := [(.long q0), (.int mm)]) (rest := []) (lenOf pd_1 rfl) rfl (by show 2 * 0 + _ ≤ _; exact Nat.le_of_eq rfl) (hb hby at_128) (fun _ _ => ⟨rfl, e26, (by decide : 0 + 0 ≤ _), (by decide : 0 + 0 ≤ _)⟩)
        dsimp only [Pt.U, Pt.locs, Pt.cells, Pt.slots] at X32 l32 y32 z32 st32 hQ32
        subst l32 y32 z32
        obtain ⟨rfl, N32q, e32⟩ := hQ32
        have N32 := Fr.app N26 N32q
        have cp34 : ∀ target, own_S p e below T32 (mkF m 151 (own_loc10 q0 p1 p2 nn mm) [(.int nn), (.int (own_bk q0 mm))]) target → own_S p e below s₁ (mkF m 0 (own_loc1 q0 p1 p2) []) target := by
          intro target kt
          show own_S p e below s₁ (mkF m 0 (own_loc1 q0 p1 p2) []) _
          refine cp28 _ ?_
          show own_S p e below T26 (mkF m 113 (own_loc9 q0 p1 p2 nn mm) [(.int (own_bk q0 nn)), (.int (own_bk q0 (nn + (1 : Int32))))]) _
          refine XS.icmpNo X26.here hx rfl (hb hby at_113) rfl (feq hc27).1 ?_
          show own_S p e below T26 (mkF m 116 (own_loc9 q0 p1 p2 nn mm) []) _
          refine XS.iload X26.here hx rfl (hb hby at_116) rfl ?_
          show own_S p e below T26 (mkF m 118 (own_loc9 q0 p1 p2 nn mm) [(.int (own_bk q0 (nn + (1 : Int32))))]) _
          refine XS.iload X26.here hx rfl (hb hby at_118) rfl ?_
          show own_S p e below T26 (mkF m 120 (own_loc9 q0 p1 p2 nn mm) [(.int nn), (.int (own_bk q0 (nn + (1 : Int32))))]) _
          refine XS.icmpYes X26.here hx rfl (pc0 := 120) (pc' := 125) rfl (hb hby at_120) rfl (teq (show (own_bk q0 (nn + (1 : Int32))) = nn from own_c4 q0 nn hn1 hc24 hc27)).1 (by decide) (by decide) ?_
          show own_S p e below T26 (mkF m 125 (own_loc9 q0 p1 p2 nn mm) []) _
          refine XS.lloadN X26.here hx rfl (hb hby at_125) rfl ?_
          show own_S p e below T26 (mkF m 126 (own_loc9 q0 p1 p2 nn mm) [(.long q0)]) _
          refine XS.iload X26.here hx rfl (hb hby at_126) rfl ?_
          show own_S p e below T26 (mkF m 128 (own_loc9 q0 p1 p2 nn mm) [(.int mm), (.long q0)]) _
          refine st32 _ ?_
          show own_S p e below T32 (mkF m 131 (own_loc9 q0 p1 p2 nn mm) [(.int (own_bk q0 mm))]) _
          refine XS.istore X32.here hx rfl (hb hby at_131) rfl (l' := (own_loc10 q0 p1 p2 nn mm)) rfl ?_
          show own_S p e below T32 (mkF m 133 (own_loc10 q0 p1 p2 nn mm) []) _
          refine XS.iload X32.here hx rfl (hb hby at_133) rfl ?_
          show own_S p e below T32 (mkF m 135 (own_loc10 q0 p1 p2 nn mm) [(.int (own_bk q0 mm))]) _
          refine XS.ifNo X32.here hx rfl (hb hby at_135) rfl ((if0 _ _).trans (flt (show ¬ ((own_bk q0 mm) < (0 : Int32)) from own_c0 q0 mm hm1)).1) ?_
          show own_S p e below T32 (mkF m 138 (own_loc10 q0 p1 p2 nn mm) []) _
          refine XS.iload X32.here hx rfl (hb hby at_138) rfl ?_
          show own_S p e below T32 (mkF m 140 (own_loc10 q0 p1 p2 nn mm) [(.int (own_bk q0 mm))]) _
          refine XS.iload X32.here hx rfl (hb hby at_140) rfl ?_
          show own_S p e below T32 (mkF m 142 (own_loc10 q0 p1 p2 nn mm) [(.int mm), (.int (own_bk q0 mm))]) _
          refine XS.icmpYes X32.here hx rfl (pc0 := 142) (pc' := 147) rfl (hb hby at_142) rfl (tlt (show (own_bk q0 mm) < mm from own_c1 q0 mm hm1)).1 (by decide) (by decide) ?_
          show own_S p e below T32 (mkF m 147 (own_loc10 q0 p1 p2 nn mm) []) _
          refine XS.iload X32.here hx rfl (hb hby at_147) rfl ?_
          show own_S p e below T32 (mkF m 149 (own_loc10 q0 p1 p2 nn mm) [(.int (own_bk q0 mm))]) _
          refine XS.iload X32.here hx rfl (hb hby at_149) rfl ?_
          exact kt
        by_cases hc33 : (own_bk q0 mm) < nn
        · obtain ⟨fs, hr, hrun, hended, hW, hsame⟩ := X32.leave (v := some (.int (1 : Int32))) (fun h => by rw [Bd.returns] at h; cases h)
          refine ⟨_, _, pre0 _ ?_, hrun, hended, _, _, rfl, ?_, ⟨_, rfl⟩, hW, hsame.mono (by decide) (by decide)⟩
          · show own_S p e below s₁ (mkF m 0 (own_loc1 q0 p1 p2) []) _
            refine cp34 _ ?_
            show own_S p e below T32 (mkF m 151 (own_loc10 q0 p1 p2 nn mm) [(.int nn), (.int (own_bk q0 mm))]) _
            refine XS.icmpNo X32.here hx rfl (hb hby at_151) rfl (tlt hc33).2.1 ?_
            show own_S p e below T32 (mkF m 154 (own_loc10 q0 p1 p2 nn mm) []) _
            refine XS.iload X32.here hx rfl (hb hby at_154) rfl ?_
            show own_S p e below T32 (mkF m 156 (own_loc10 q0 p1 p2 nn mm) [(.int (own_bk q0 mm))]) _
            refine XS.iload X32.here hx rfl (hb hby at_156) rfl ?_
            show own_S p e below T32 (mkF m 158 (own_loc10 q0 p1 p2 nn mm) [(.int (own_bk q0 nn)), (.int (own_bk q0 mm))]) _
            refine XS.icmpYes X32.here hx rfl (pc0 := 158) (pc' := 163) rfl (hb hby at_158) rfl (teq (show (own_bk q0 mm) = (own_bk q0 nn) from own_c5 q0 nn mm hn1 hnm hc33)).1 (by decide) (by decide) ?_
            show own_S p e below T32 (mkF m 163 (own_loc10 q0 p1 p2 nn mm) []) _
            refine XS.iload X32.here hx rfl (hb hby at_163) rfl ?_
            show own_S p e below T32 (mkF m 165 (own_loc10 q0 p1 p2 nn mm) [(.int (own_bk q0 mm))]) _
            refine XS.iload X32.here hx rfl (hb hby at_165) rfl ?_
            show own_S p e below T32 (mkF m 167 (own_loc10 q0 p1 p2 nn mm) [(.int (own_bk q0 nn)), (.int (own_bk q0 mm))]) _
            refine XS.icmpYes X32.here hx rfl (pc0 := 167) (pc' := 172) rfl (hb hby at_167) rfl (flt (show ¬ ((own_bk q0 mm) < (own_bk q0 nn)) from own_c6 q0 nn mm hn1 hnm)).2.1 (by decide) (by decide) ?_
            show own_S p e below T32 (mkF m 172 (own_loc10 q0 p1 p2 nn mm) []) _
            refine XS.iconst X32.here hx rfl (hb hby at_172) ?_
            show own_S p e below T32 (mkF m 173 (own_loc10 q0 p1 p2 nn mm) [.int 1]) _
            exact retN X32 hx (t := .boolean) Bd.returns (by simp) (hb hby at_173) hr
          · exact ⟨rfl, N32⟩
        · obtain ⟨fs, hr, hrun, hended, hW, hsame⟩ := X32.leave (v := some (.int (1 : Int32))) (fun h => by rw [Bd.returns] at h; cases h)
          refine ⟨_, _, pre0 _ ?_, hrun, hended, _, _, rfl, ?_, ⟨_, rfl⟩, hW, hsame.mono (by decide) (by decide)⟩
          · show own_S p e below s₁ (mkF m 0 (own_loc1 q0 p1 p2) []) _
            refine cp34 _ ?_
            show own_S p e below T32 (mkF m 151 (own_loc10 q0 p1 p2 nn mm) [(.int nn), (.int (own_bk q0 mm))]) _
            refine XS.icmpYes X32.here hx rfl (pc0 := 151) (pc' := 163) rfl (hb hby at_151) rfl (flt hc33).2.1 (by decide) (by decide) ?_
            show own_S p e below T32 (mkF m 163 (own_loc10 q0 p1 p2 nn mm) []) _
            refine XS.iload X32.here hx rfl (hb hby at_163) rfl ?_
            show own_S p e below T32 (mkF m 165 (own_loc10 q0 p1 p2 nn mm) [(.int (own_bk q0 mm))]) _
            refine XS.iload X32.here hx rfl (hb hby at_165) rfl ?_
            show own_S p e below T32 (mkF m 167 (own_loc10 q0 p1 p2 nn mm) [(.int (own_bk q0 nn)), (.int (own_bk q0 mm))]) _
            refine XS.icmpYes X32.here hx rfl (pc0 := 167) (pc' := 172) rfl (hb hby at_167) rfl (flt (show ¬ ((own_bk q0 mm) < (own_bk q0 nn)) from own_c6 q0 nn mm hn1 hnm)).2.1 (by decide) (by decide) ?_
            show own_S p e below T32 (mkF m 172 (own_loc10 q0 p1 p2 nn mm) []) _
            refine XS.iconst X32.here hx rfl (hb hby at_172) ?_
            show own_S p e below T32 (mkF m 173 (own_loc10 q0 p1 p2 nn mm) [.int 1]) _
            exact retN X32 hx (t := .boolean) Bd.returns (by simp) (hb hby at_173) hr
          · exact ⟨rfl, N32⟩
    · obtain ⟨_, _, ⟨T35, L35, k35, n35⟩, -, X35, ⟨Lc35, hQ35, l35, y35, z35⟩, st35⟩ := Jvm.LawKit.callS X7 hx (y := (⟨"com/example/eraztun/eraztun/JumpHash", "bucket", "(JI)I"⟩ : MethodName)) hown (mvT hZ (hw _ (List.mem_of_getElem? (i := 5) rfl))) (mvT hZ (hw _ (List.mem_of_getElem? (i := 6) rfl))) (mvT hZ (hw _ (List.mem_of_getElem? (i := 7) rfl))) (mvT hZ (hw _ (List.mem_of_getElem? (i := 8) rfl))) (by decide) (backOf (W := 0) (rm2 l Z ag hw [] q0 mm  h0 n0 Z0 hm1) hZ (hw _ (List.mem_of_getElem? (i := 8) rfl)) (hw _ (List.mem_of_getElem? (i := 7) rfl)) (by decide) (by decide)) (g := (mkF m 128 (own_loc8 q0 p1 p2 nn mm) [(.int mm), (.long q0)])) rfl (by rw [hml]; rfl) (argsL := [(.long q0), (.int mm)]) (rest := []) (lenOf pd_1 rfl) rfl (by show 2 * 0 + _ ≤ _; exact Nat.le_of_eq rfl) (hb hby at_128) (fun _ _ => ⟨rfl, e7, (by decide : 0 + 0 ≤ _), (by decide : 0 + 0 ≤ _)⟩)
      dsimp only [Pt.U, Pt.locs, Pt.cells, Pt.slots] at X35 l35 y35 z35 st35 hQ35
      subst l35 y35 z35
      obtain ⟨rfl, N35q, e35⟩ := hQ35
      have N35 := Fr.app N7 N35q
      have cp37 : ∀ target, own_S p e below T35 (mkF m 151 (own_loc10 q0 p1 p2 nn mm) [(.int nn), (.int (own_bk q0 mm))]) target → own_S p e below s₁ (mkF m 0 (own_loc1 q0 p1 p2) []) target := by
        intro target kt
        show own_S p e below s₁ (mkF m 0 (own_loc1 q0 p1 p2) []) _
        refine cp25 _ ?_
        show own_S p e below T7 (mkF m 96 (own_loc8 q0 p1 p2 nn mm) [.int 2147483647, (.int nn)]) _
        refine XS.icmpYes X7.here hx rfl (pc0 := 96) (pc' := 125) rfl (hb hby at_96) rfl (flt hc24).2.1 (by decide) (by decide) ?_
        show own_S p e below T7 (mkF m 125 (own_loc8 q0 p1 p2 nn mm) []) _
        refine XS.lloadN X7.here hx rfl (hb hby at_125) rfl ?_
        show own_S p e below T7 (mkF m 126 (own_loc8 q0 p1 p2 nn mm) [(.long q0)]) _
        refine XS.iload X7.here hx rfl (hb hby at_126) rfl ?_
        show own_S p e below T7 (mkF m 128 (own_loc8 q0 p1 p2 nn mm) [(.int mm), (.long q0)]) _
        refine st35 _ ?_
        show own_S p e below T35 (mkF m 131 (own_loc8 q0 p1 p2 nn mm) [(.int (own_bk q0 mm))]) _
        refine XS.istore X35.here hx rfl (hb hby at_131) rfl (l' := (own_loc10 q0 p1 p2 nn mm)) rfl ?_
        show own_S p e below T35 (mkF m 133 (own_loc10 q0 p1 p2 nn mm) []) _
        refine XS.iload X35.here hx rfl (hb hby at_133) rfl ?_
        show own_S p e below T35 (mkF m 135 (own_loc10 q0 p1 p2 nn mm) [(.int (own_bk q0 mm))]) _
        refine XS.ifNo X35.here hx rfl (hb hby at_135) rfl ((if0 _ _).trans (flt (show ¬ ((own_bk q0 mm) < (0 : Int32)) from own_c0 q0 mm hm1)).1) ?_
        show own_S p e below T35 (mkF m 138 (own_loc10 q0 p1 p2 nn mm) []) _
        refine XS.iload X35.here hx rfl (hb hby at_138) rfl ?_
        show own_S p e below T35 (mkF m 140 (own_loc10 q0 p1 p2 nn mm) [(.int (own_bk q0 mm))]) _
        refine XS.iload X35.here hx rfl (hb hby at_140) rfl ?_
        show own_S p e below T35 (mkF m 142 (own_loc10 q0 p1 p2 nn mm) [(.int mm), (.int (own_bk q0 mm))]) _
        refine XS.icmpYes X35.here hx rfl (pc0 := 142) (pc' := 147) rfl (hb hby at_142) rfl (tlt (show (own_bk q0 mm) < mm from own_c1 q0 mm hm1)).1 (by decide) (by decide) ?_
        show own_S p e below T35 (mkF m 147 (own_loc10 q0 p1 p2 nn mm) []) _
        refine XS.iload X35.here hx rfl (hb hby at_147) rfl ?_
        show own_S p e below T35 (mkF m 149 (own_loc10 q0 p1 p2 nn mm) [(.int (own_bk q0 mm))]) _
        refine XS.iload X35.here hx rfl (hb hby at_149) rfl ?_
        exact kt
      by_cases hc36 : (own_bk q0 mm) < nn
      · obtain ⟨fs, hr, hrun, hended, hW, hsame⟩ := X35.leave (v := some (.int (1 : Int32))) (fun h => by rw [Bd.returns] at h; cases h)
        refine ⟨_, _, pre0 _ ?_, hrun, hended, _, _, rfl, ?_, ⟨_, rfl⟩, hW, hsame.mono (by decide) (by decide)⟩
        · show own_S p e below s₁ (mkF m 0 (own_loc1 q0 p1 p2) []) _
          refine cp37 _ ?_
          show own_S p e below T35 (mkF m 151 (own_loc10 q0 p1 p2 nn mm) [(.int nn), (.int (own_bk q0 mm))]) _
          refine XS.icmpNo X35.here hx rfl (hb hby at_151) rfl (tlt hc36).2.1 ?_
          show own_S p e below T35 (mkF m 154 (own_loc10 q0 p1 p2 nn mm) []) _
          refine XS.iload X35.here hx rfl (hb hby at_154) rfl ?_
          show own_S p e below T35 (mkF m 156 (own_loc10 q0 p1 p2 nn mm) [(.int (own_bk q0 mm))]) _
          refine XS.iload X35.here hx rfl (hb hby at_156) rfl ?_
          show own_S p e below T35 (mkF m 158 (own_loc10 q0 p1 p2 nn mm) [(.int (own_bk q0 nn)), (.int (own_bk q0 mm))]) _
          refine XS.icmpYes X35.here hx rfl (pc0 := 158) (pc' := 163) rfl (hb hby at_158) rfl (teq (show (own_bk q0 mm) = (own_bk q0 nn) from own_c5 q0 nn mm hn1 hnm hc36)).1 (by decide) (by decide) ?_
          show own_S p e below T35 (mkF m 163 (own_loc10 q0 p1 p2 nn mm) []) _
          refine XS.iload X35.here hx rfl (hb hby at_163) rfl ?_
          show own_S p e below T35 (mkF m 165 (own_loc10 q0 p1 p2 nn mm) [(.int (own_bk q0 mm))]) _
          refine XS.iload X35.here hx rfl (hb hby at_165) rfl ?_
          show own_S p e below T35 (mkF m 167 (own_loc10 q0 p1 p2 nn mm) [(.int (own_bk q0 nn)), (.int (own_bk q0 mm))]) _
          refine XS.icmpYes X35.here hx rfl (pc0 := 167) (pc' := 172) rfl (hb hby at_167) rfl (flt (show ¬ ((own_bk q0 mm) < (own_bk q0 nn)) from own_c6 q0 nn mm hn1 hnm)).2.1 (by decide) (by decide) ?_
          show own_S p e below T35 (mkF m 172 (own_loc10 q0 p1 p2 nn mm) []) _
          refine XS.iconst X35.here hx rfl (hb hby at_172) ?_
          show own_S p e below T35 (mkF m 173 (own_loc10 q0 p1 p2 nn mm) [.int 1]) _
          exact retN X35 hx (t := .boolean) Bd.returns (by simp) (hb hby at_173) hr
        · exact ⟨rfl, N35⟩
      · obtain ⟨fs, hr, hrun, hended, hW, hsame⟩ := X35.leave (v := some (.int (1 : Int32))) (fun h => by rw [Bd.returns] at h; cases h)
        refine ⟨_, _, pre0 _ ?_, hrun, hended, _, _, rfl, ?_, ⟨_, rfl⟩, hW, hsame.mono (by decide) (by decide)⟩
        · show own_S p e below s₁ (mkF m 0 (own_loc1 q0 p1 p2) []) _
          refine cp37 _ ?_
          show own_S p e below T35 (mkF m 151 (own_loc10 q0 p1 p2 nn mm) [(.int nn), (.int (own_bk q0 mm))]) _
          refine XS.icmpYes X35.here hx rfl (pc0 := 151) (pc' := 163) rfl (hb hby at_151) rfl (flt hc36).2.1 (by decide) (by decide) ?_
          show own_S p e below T35 (mkF m 163 (own_loc10 q0 p1 p2 nn mm) []) _
          refine XS.iload X35.here hx rfl (hb hby at_163) rfl ?_
          show own_S p e below T35 (mkF m 165 (own_loc10 q0 p1 p2 nn mm) [(.int (own_bk q0 mm))]) _
          refine XS.iload X35.here hx rfl (hb hby at_165) rfl ?_
          show own_S p e below T35 (mkF m 167 (own_loc10 q0 p1 p2 nn mm) [(.int (own_bk q0 nn)), (.int (own_bk q0 mm))]) _
          refine XS.icmpYes X35.here hx rfl (pc0 := 167) (pc' := 172) rfl (hb hby at_167) rfl (flt (show ¬ ((own_bk q0 mm) < (own_bk q0 nn)) from own_c6 q0 nn mm hn1 hnm)).2.1 (by decide) (by decide) ?_
          show own_S p e below T35 (mkF m 172 (own_loc10 q0 p1 p2 nn mm) []) _
          refine XS.iconst X35.here hx rfl (hb hby at_172) ?_
          show own_S p e below T35 (mkF m 173 (own_loc10 q0 p1 p2 nn mm) [.int 1]) _
          exact retN X35 hx (t := .boolean) Bd.returns (by simp) (hb hby at_173) hr
        · exact ⟨rfl, N35⟩
set_option maxRecDepth 65536 in
set_option maxHeartbeats 40000000 in
theorem comes_1 {Post : Tables → Env → Array Value → State → Outcome → State → Prop} (hpost : ∀ tb e args s v u, (limb_1_1.after args s (.returned v) u = true ∧ limb_1_2.after args s (.returned v) u = true ∧ True) → FrameEnd s (.returned v) u (Jvm.fieldLocs frame_1_writes args s ++ Jvm.arrayLocs frame_1_arrays args s ++ Jvm.staticLocs frame_1_statics s) 0 0 → Post tb e args s (.returned v) u) :
    ArmFor flags0 classFile x code maxLocals ret World_1 tables_1 room_1 Calls_1 rest_1 Pre_1 Post := by
  intro l hfl _ _ p e ha hc hk s m args below hf hA hF happ hP
  obtain ⟨hcalls, hrest, hpre⟩ := hP
  obtain ⟨-, -, -, hnamed, -, -, -, hat⟩ := (Spec.applies_iff hf).mp happ
  obtain ⟨hg, hn⟩ := and_e (Cond.before_iff.mp (show (Jvm.Cond.and given_1 narrow_1).before args s = true from hpre))
  obtain ⟨g38, g39⟩ := and_e hg
  obtain ⟨g40, g41⟩ := and_e g39
  obtain ⟨g42, g43⟩ := and_e g41
  obtain ⟨w0, w1, w2, rfl⟩ : ∃ w0 w1 w2 : Value, args = #[w0, w1, w2] := by
    have hs : args.size = 3 := by simpa [Cond.value, given_1] using g38
    obtain ⟨L⟩ := args
    match L, hs with
    | [w0, w1, w2], _ => exact ⟨w0, w1, w2, rfl⟩
  have hw := fun d (hd : d ∈ tables_1) => atoms_spec (ws := Jvm.Cond.code x code maxLocals ret :: tables_1) hat d (List.mem_cons_of_mem _ hd)
  have hfit : Fit s := fun {y c} hc i hi => by
    obtain ⟨ha, rfl⟩ := Array.getElem?_eq_some_iff.mp hc
    have q := List.all_eq_true.mp ((Array.all_eq_true_iff_forall_mem.mp hF) _ (Array.getElem_mem ha)) i (List.mem_range.mpr hi)
    simpa [Array.getElem?_eq_getElem hi] using q
  obtain ⟨i0, ei0⟩ := isL_v g40
  obtain rfl : w0 = (.long i0) := Option.some.inj ei0
  obtain ⟨i1, ei1⟩ := is_v g42
  obtain rfl : w1 = (.int i1) := Option.some.inj ei1
  obtain ⟨i2, ei2⟩ := is_v g43
  obtain rfl : w2 = (.int i2) := Option.some.inj ei2
  obtain ⟨n, o, h1, h2, h3, _, L, rfl, ⟨rfl, N⟩, hq⟩ := rm0 l s _ hw tables_1 i0 i1 i2 s.heap s.heap.size (Nat.le_refl _)  p e ha hc hk s m _ below hf ((Spec.applies_iff_loose hf).mp happ).1 ⟨rfl, State.Warmed39.refl s, rfl⟩ trivial
  refine ⟨n, _, h1, h2, h3, hpost _ _ _ _ _ _ ⟨Cond.after_iff.mpr rfl, Cond.after_iff.mpr (eq_i res_at (Term.int_eval (1)) rfl), trivial⟩ ⟨hq.1, hq.2.1, (hq.2.2.sift fun y hy => Or.inr (N y hy)).mono (by decide) (by decide)⟩⟩
theorem main_1_1 : Claimed_1_1 := comes_1 fun _ _ _ _ _ _ h hF => ⟨h.1, hF⟩
theorem main_1_2 : Claimed_1_2 := comes_1 fun _ _ _ _ _ _ h hF => ⟨h.2.1, hF⟩
end Jvm.Pilot.@@N@@
namespace Jvm.Pilot.@@N@@
open Jvm Jvm.ClassFile Sem Op Lib Jvm.Free Jvm.Stand Jvm.Pilot.@@N@@.Jvm.D
/-! MADE BY PROGRAM (witnessworld.py) out of the Statement's table words and the real class files: 11 classes; the members and pool entries that the words name. The judged class is class 1, her method 1. -/
namespace start1
open Jvm.ClassFile
def u (s : String) : CpInfo := .utf8 (stringToUtf16 s)
/-- a pool by its gaps: so many unusable entries, then the entry; so many at the end -/
def gap : Nat → List CpInfo → List CpInfo
  | 0, r => r
  | n + 1, r => .unusable :: gap n r
def poolList (es : List (Nat × CpInfo)) (last : Nat) : List CpInfo := es.foldr (fun e r => gap e.1 (e.2 :: r)) (gap last [])
def pool (es : List (Nat × CpInfo)) (last : Nat) : Array CpInfo := ⟨poolList es last⟩
def fileOf (pool : Array CpInfo) (this : Nat) (attrs : Array Attribute := #[]) (ms : Array MethodInfo := #[]) (fl : Nat := 33) (sup : Nat := 0) (ifs : Array Nat := #[]) (fds : Array FieldInfo := #[]) : ClassFile where
  minorVersion := 0
  majorVersion := 65
  constantPool := pool
  accessFlags := fl
  thisClass := this
  superClass := sup
  interfaces := ifs
  fields := fds
  methods := ms
  attributes := attrs
def plain (name : String) (sup : Option ClassId) : Class where
  name := name
  kind := .ordinary
  loader := none
  accessFlags := 33
  super := sup
  interfaces := #[]
  cf := none
  fields := #[]
  methods := #[]
  instanceTypes := #[]
  staticTypes := #[]
  resolved := #[]
  callSites := []
  init := .initialized
  statics := none
  mirror := none

def pool0 : Array CpInfo := pool [(5, u "<init>"), (0, u "()V"), (1, .class_ 10), (1, u "java/lang/Object")] 113

def k0m0 : Method := { name := "<init>", desc := "()V", sig := { parameters := [], returnType := none }, accessFlags := 1, code := none }
/-- java/lang/Object -/
def k0 : Class := { plain "java/lang/Object" none with
  accessFlags := 33
  interfaces := #[]
  cf := some (fileOf pool0 8 #[] #[{ accessFlags := 1, nameIndex := 5, descriptorIndex := 6, attributes := #[] }] 33 0 #[] #[])
  fields := #[]
  methods := #[k0m0]
  instanceTypes := #[]
  staticTypes := #[]
  resolved := Array.replicate 124 none
  statics := none }

def pool1 : Array CpInfo := pool [(2, .class_ 4), (1, u "java/lang/Object"), (0, u "<init>"), (0, u "()V"), (0, .integer 2147483647), (0, .methodref 9 10), (0, .class_ 11), (0, .nameAndType 12 13), (0, u "java/lang/Math"), (0, u "max"), (0, u "(II)I"), (0, .methodref 15 16), (0, .class_ 17), (0, .nameAndType 18 19), (0, u "com/example/eraztun/eraztun/JumpHash"), (0, u "bucket"), (0, u "(JI)I"), (0, .long 2862933555777941757), (1, .long 2147483648), (3, .class_ 27), (0, u "com/example/eraztun/eraztun/JumpHashBucketPinLaw"), (2, u "law"), (0, u "(JII)Z")] 3

def k1m0 : Method := { name := "<init>", desc := "()V", sig := { parameters := [], returnType := none }, accessFlags := 2, code := none }
def k1c1 : Code := { maxStack := 6, maxLocals := 12, code := code, exceptionTable := #[], attributes := #[] }
def k1m1 : Method := { name := "law", desc := "(JII)Z", sig := { parameters := [.long, .int, .int], returnType := some .boolean }, accessFlags := 9, code := some k1c1 }
/-- com/example/eraztun/eraztun/JumpHashBucketPinLaw -/
def k1 : Class := { plain "com/example/eraztun/eraztun/JumpHashBucketPinLaw" (some 0) with
  accessFlags := 49
  interfaces := #[]
  cf := some (fileOf pool1 26 #[] #[{ accessFlags := 2, nameIndex := 5, descriptorIndex := 6, attributes := #[] }, { accessFlags := 9, nameIndex := 30, descriptorIndex := 31, attributes := #[] }] 49 2 #[] #[])
  fields := #[]
  methods := #[k1m0, k1m1]
  instanceTypes := #[]
  staticTypes := #[]
  resolved := Array.replicate 35 none
  statics := none }

def pool2 : Array CpInfo := pool [(1, .class_ 2), (0, u "java/lang/Math"), (1, .class_ 6), (1, u "java/lang/Object"), (0, u "<init>"), (0, u "()V"), (89, .class_ 100), (1, u "java/lang/Math$RandomNumberGeneratorHolder"), (71, u "negativeZeroFloatBits"), (0, u "J"), (2, u "negativeZeroDoubleBits"), (21, u "max"), (46, u "$assertionsDisabled"), (0, u "Z"), (88, u "(II)I"), (2, u "twoToTheDoubleScaleDown"), (0, u "D"), (4, u "twoToTheDoubleScaleUp"), (9, u "E"), (3, u "PI"), (2, u "TAU"), (2, u "DEGREES_TO_RADIANS"), (0, u "RADIANS_TO_DEGREES")] 94

def k2m0 : Method := { name := "<init>", desc := "()V", sig := { parameters := [], returnType := none }, accessFlags := 2, code := none }
def k2c1 : Code := { maxStack := 2, maxLocals := 2, code := jdk_29_method_65_code, exceptionTable := #[], attributes := #[] }
def k2m1 : Method := { name := "max", desc := "(II)I", sig := { parameters := [.int, .int], returnType := some .int }, accessFlags := 9, code := some k2c1 }
/-- java/lang/Math -/
def k2 : Class := { plain "java/lang/Math" (some 0) with
  accessFlags := 49
  interfaces := #[]
  cf := some (fileOf pool2 1 #[.nestMembers #[98]] #[{ accessFlags := 2, nameIndex := 7, descriptorIndex := 8, attributes := #[] }, { accessFlags := 9, nameIndex := 198, descriptorIndex := 335, attributes := #[] }] 49 4 #[] #[{ accessFlags := 25, nameIndex := 354, descriptorIndex := 339, attributes := #[] }, { accessFlags := 25, nameIndex := 358, descriptorIndex := 339, attributes := #[] }, { accessFlags := 25, nameIndex := 361, descriptorIndex := 339, attributes := #[] }, { accessFlags := 26, nameIndex := 364, descriptorIndex := 339, attributes := #[] }, { accessFlags := 26, nameIndex := 365, descriptorIndex := 339, attributes := #[] }, { accessFlags := 26, nameIndex := 172, descriptorIndex := 173, attributes := #[] }, { accessFlags := 26, nameIndex := 176, descriptorIndex := 173, attributes := #[] }, { accessFlags := 8, nameIndex := 344, descriptorIndex := 339, attributes := #[] }, { accessFlags := 8, nameIndex := 338, descriptorIndex := 339, attributes := #[] }, { accessFlags := 4120, nameIndex := 245, descriptorIndex := 246, attributes := #[] }])
  fields := #[{ name := "E", type := .double, accessFlags := 25, slot := 0, constantValue := 0 }, { name := "PI", type := .double, accessFlags := 25, slot := 1, constantValue := 0 }, { name := "TAU", type := .double, accessFlags := 25, slot := 2, constantValue := 0 }, { name := "DEGREES_TO_RADIANS", type := .double, accessFlags := 26, slot := 3, constantValue := 0 }, { name := "RADIANS_TO_DEGREES", type := .double, accessFlags := 26, slot := 4, constantValue := 0 }, { name := "negativeZeroFloatBits", type := .long, accessFlags := 26, slot := 5, constantValue := 0 }, { name := "negativeZeroDoubleBits", type := .long, accessFlags := 26, slot := 6, constantValue := 0 }, { name := "twoToTheDoubleScaleUp", type := .double, accessFlags := 8, slot := 7, constantValue := 0 }, { name := "twoToTheDoubleScaleDown", type := .double, accessFlags := 8, slot := 8, constantValue := 0 }, { name := "$assertionsDisabled", type := .boolean, accessFlags := 4120, slot := 9, constantValue := 0 }]
  methods := #[k2m0, k2m1]
  instanceTypes := #[]
  staticTypes := #[.double, .double, .double, .double, .double, .long, .long, .double, .double, .boolean]
  resolved := Array.replicate 460 none
  statics := none }

def pool3 : Array CpInfo := pool [(22, .class_ 24), (1, u "com/example/eraztun/eraztun/Placement"), (2, .class_ 28), (0, u "java/lang/Object")] 12

/-- com/example/eraztun/eraztun/Placement -/
def k3 : Class := { plain "com/example/eraztun/eraztun/Placement" (some 0) with
  accessFlags := 1537
  interfaces := #[]
  cf := some (fileOf pool3 22 #[] #[] 1537 27 #[] #[])
  fields := #[]
  methods := #[]
  instanceTypes := #[]
  staticTypes := #[]
  resolved := Array.replicate 41 none
  statics := none }

def pool4 : Array CpInfo := pool [(2, .class_ 4), (1, u "java/lang/Object"), (3, .class_ 10), (1, u "com/example/eraztun/eraztun/JumpHash"), (0, u "members"), (0, u "Ljava/util/List;"), (55, u "bucket"), (41, .long 18446744073709551615), (1, .long 2862933555777941757), (1, .double 4746794007248502784), (11, u "(JI)I"), (17, .class_ 145), (0, u "com/example/eraztun/eraztun/Placement"), (0, u "MULTIPLIER"), (0, u "J"), (1, u "TWO_TO_THE_31"), (0, u "D")] 37

def k4c0 : Code := { maxStack := 8, maxLocals := 9, code := prog_2_method_8_code, exceptionTable := #[], attributes := #[] }
def k4m0 : Method := { name := "bucket", desc := "(JI)I", sig := { parameters := [.long, .int], returnType := some .int }, accessFlags := 9, code := some k4c0 }
/-- com/example/eraztun/eraztun/JumpHash -/
def k4 : Class := { plain "com/example/eraztun/eraztun/JumpHash" (some 0) with
  accessFlags := 33
  interfaces := #[3]
  cf := some (fileOf pool4 8 #[] #[{ accessFlags := 9, nameIndex := 68, descriptorIndex := 126, attributes := #[] }] 33 2 #[144] #[{ accessFlags := 26, nameIndex := 146, descriptorIndex := 147, attributes := #[] }, { accessFlags := 26, nameIndex := 149, descriptorIndex := 150, attributes := #[] }, { accessFlags := 18, nameIndex := 11, descriptorIndex := 12, attributes := #[] }])
  fields := #[{ name := "MULTIPLIER", type := .long, accessFlags := 26, slot := 0, constantValue := 0 }, { name := "TWO_TO_THE_31", type := .double, accessFlags := 26, slot := 1, constantValue := 0 }, { name := "members", type := (.object "java/util/List"), accessFlags := 18, slot := 0, constantValue := 0 }]
  methods := #[k4m0]
  instanceTypes := #[(.object "java/util/List")]
  staticTypes := #[.long, .double]
  resolved := Array.replicate 188 none
  statics := none }

def pool5 : Array CpInfo := pool [(1, u "java/lang/Cloneable"), (0, .class_ 1), (0, u "java/lang/Object"), (0, .class_ 3)] 3

/-- java/lang/Cloneable -/
def k5 : Class := { plain "java/lang/Cloneable" (some 0) with
  accessFlags := 1537
  interfaces := #[]
  cf := some (fileOf pool5 2 #[] #[] 1537 4 #[] #[])
  fields := #[]
  methods := #[]
  instanceTypes := #[]
  staticTypes := #[]
  resolved := Array.replicate 8 none
  statics := none }

def pool6 : Array CpInfo := pool [(1, u "java/io/Serializable"), (0, .class_ 1), (0, u "java/lang/Object"), (0, .class_ 3)] 3

/-- java/io/Serializable -/
def k6 : Class := { plain "java/io/Serializable" (some 0) with
  accessFlags := 1537
  interfaces := #[]
  cf := some (fileOf pool6 2 #[] #[] 1537 4 #[] #[])
  fields := #[]
  methods := #[]
  instanceTypes := #[]
  staticTypes := #[]
  resolved := Array.replicate 8 none
  statics := none }

/-- the primitive byte -/
def k7 : Class := { plain "byte" none with kind := .primitive 'B', accessFlags := 0x411 }
/-- [B -/
def k8 : Class := { plain "[B" (some 0) with kind := .array 7 .byte, interfaces := #[5, 6], accessFlags := 1041 }

/-- the primitive int -/
def k9 : Class := { plain "int" none with kind := .primitive 'I', accessFlags := 0x411 }
/-- [I -/
def k10 : Class := { plain "[I" (some 0) with kind := .array 9 .int, interfaces := #[5, 6], accessFlags := 1041 }

def heap : Heap := #[]
def classes : Array Class := #[k0, k1, k2, k3, k4, k5, k6, k7, k8, k9, k10]
def interned : List (Array UInt16 × Addr) := []
def slotsUsed : Nat := 0
def theMethod : MethodId := ⟨1, 1⟩
def args0 : Array Value := #[.long 5, .int 3, .int 7]
def aboutOver (below : List Frame) : State where
  vm := { classes := classes, interned := interned.toArray }
  heap := heap
  slotsUsed := slotsUsed
  threads := #[{ frames := .invoking theMethod args0 :: below }]
def below0 : List Frame := [.native { method := ⟨0, 0⟩, args := #[] }]
def about1 : State := aboutOver below0
def p0 : Program := .bare "" "" ""
def e0 : Env := launch0.env 0 0 0
theorem w_frames : about1.frames = Frame.invoking theMethod args0 :: below0 := rfl
set_option maxRecDepth 65536 in
theorem w_args : argsFit about1.vm theMethod args0 = true := by decide +kernel
set_option maxRecDepth 65536 in
theorem w_heap : heapFits about1 = true := by decide +kernel
set_option maxRecDepth 65536 in
theorem w_runnable : about1.curStatus? = some .runnable := by decide +kernel
set_option maxRecDepth 65536 in
theorem w_alone : about1.alone = true := by decide +kernel
set_option maxRecDepth 65536 in
theorem w_named : about1.methodNamed? x = some theMethod := by decide +kernel
set_option maxRecDepth 65536 in
theorem w_hears : about1.hears theMethod below0 = true := by decide +kernel
set_option maxRecDepth 65536 in
theorem w_ripe : about1.ripe theMethod args0 below0 = true := by decide +kernel
theorem w_running : about1.status = .running := rfl
set_option maxRecDepth 65536 in
theorem w_room : about1.hasRoom e0.platform room_1 = true :=
  launch0.hasRoom_least _ room_1 (by decide +kernel) (by decide +kernel) (by decide +kernel) (by decide +kernel) (by decide +kernel) (by decide +kernel)
theorem allAtoms_all (ts : List Jvm.Cond) (a : Array Jvm.Value) (st : Jvm.State) : (allAtoms ts).before a st = ts.all (fun c => c.before a st) := by
  induction ts with
  | nil => rfl
  | cons c t ih =>
    show (Jvm.Cond.and c (allAtoms t)).before a st = _
    rw [Jvm.Cond.before_and, ih, List.all_cons]
def words1 : List Jvm.Cond := Jvm.Cond.code x code maxLocals ret :: tables_1
/-- a 'code' word, met by the world's own term for the bytes: nothing is compared byte by byte -/
theorem code_word {y : MethodName} {bytes : ByteArray} {mx : Nat} {rt : Option FieldType} {a : Array Value} {s : State} {m : MethodId} {meth : Method} {c : Code} (h1 : s.methodNamed? y = some m) (h2 : s.vm.method? m = some meth) (h3 : meth.code = some c) (h4 : c.code = bytes)
    (h5 : (c.maxLocals == mx && c.exceptionTable.isEmpty && decide (c.maxStack ≤ mostOperands) && decide (meth.sig.returnType = rt) && !meth.locks && decide (parseMethodDescriptor y.desc = some meth.sig)) = true) : (Jvm.Cond.code y bytes mx rt).before a s = true := by
  simp only [Bool.and_eq_true, beq_iff_eq, Bool.not_eq_true', decide_eq_true_eq] at h5
  obtain ⟨⟨⟨⟨⟨g1, g2⟩, g3⟩, g4⟩, g5⟩, g6⟩ := h5
  simp [Cond.before, Cond.holds, Cond.value, h1, h2, h3, h4, g1, g2, g3, g4, g5, g6]
def isCode : Jvm.Cond → Bool
  | .code _ _ _ _ => true
  | _ => false
theorem all_split {L : List Jvm.Cond} {P : Jvm.Cond → Bool} (h1 : L.all (fun c => isCode c || P c) = true) (h2 : ∀ c ∈ L.filter isCode, P c = true) : L.all P = true := by
  refine List.all_eq_true.mpr fun c hc => ?_
  have h := List.all_eq_true.mp h1 c hc
  rcases Bool.eq_false_or_eq_true (isCode c) with hi | hi
  · exact h2 c (List.mem_filter.mpr ⟨hc, hi⟩)
  · simpa [hi] using h
set_option maxRecDepth 65536 in
theorem w_c0 : (Jvm.Cond.code x code maxLocals ret).before args0 about1 = true := code_word (m := ⟨1, 1⟩) (meth := k1m1) (c := k1c1) (by decide +kernel) rfl rfl rfl (by decide +kernel)
set_option maxRecDepth 65536 in
theorem w_c1 : (Jvm.Cond.code ({ cls := "java/lang/Math", name := "max", desc := "(II)I" } : Jvm.MethodName) jdk_29_method_65_code (2 : Nat) (Option.some Jvm.ClassFile.FieldType.int)).before args0 about1 = true := code_word (m := ⟨2, 1⟩) (meth := k2m1) (c := k2c1) (by decide +kernel) rfl rfl rfl (by decide +kernel)
set_option maxRecDepth 65536 in
theorem w_c2 : (Jvm.Cond.code ({ cls := "com/example/eraztun/eraztun/JumpHash", name := "bucket", desc := "(JI)I" } : Jvm.MethodName) prog_2_method_8_code (9 : Nat) (Option.some Jvm.ClassFile.FieldType.int)).before args0 about1 = true := code_word (m := ⟨4, 0⟩) (meth := k4m0) (c := k4c0) (by decide +kernel) rfl rfl rfl (by decide +kernel)
def codes1 : List Jvm.Cond := [Jvm.Cond.code x code maxLocals ret, Jvm.Cond.code ({ cls := "java/lang/Math", name := "max", desc := "(II)I" } : Jvm.MethodName) jdk_29_method_65_code (2 : Nat) (Option.some Jvm.ClassFile.FieldType.int), Jvm.Cond.code ({ cls := "com/example/eraztun/eraztun/JumpHash", name := "bucket", desc := "(JI)I" } : Jvm.MethodName) prog_2_method_8_code (9 : Nat) (Option.some Jvm.ClassFile.FieldType.int)]
set_option maxRecDepth 65536 in
theorem codes_eq : words1.filter isCode = codes1 := rfl
theorem w_codes : ∀ c ∈ words1.filter isCode, c.before args0 about1 = true := by
  rw [codes_eq]
  intro c hc
  simp only [codes1, List.mem_cons, List.not_mem_nil, or_false] at hc
  rcases hc with rfl | rfl | rfl
  · exact w_c0
  · exact w_c1
  · exact w_c2
set_option maxRecDepth 65536 in
theorem w_t1 : words1.all (fun c => isCode c || c.before args0 about1) = true := by decide +kernel
theorem w_tables : (allAtoms (Jvm.Cond.code x code maxLocals ret :: tables_1)).before args0 about1 = true := by
  rw [allAtoms_all]
  show words1.all (fun c => c.before args0 about1) = true
  refine all_split ?_ w_codes
  rw [w_t1]
set_option maxRecDepth 65536 in
theorem w_case : (Jvm.Cond.and given_1 narrow_1).before args0 about1 = true := by decide +kernel
theorem w_applies : (headSpec (Jvm.Cond.code x code maxLocals ret :: tables_1) room_1).applies x e0.platform about1 = true :=
  (Spec.applies_iff w_frames).mpr ⟨w_running, w_runnable, w_alone, w_named, w_hears, w_ripe, w_room, w_tables⟩
theorem atStart : AtStart classFile x code maxLocals ret World_1 tables_1 room_1 Calls_1 rest_1 Pre_1 launch0 p0 e0 about1 theMethod args0 below0 :=
  ⟨lists_1, trivial, launch0.admits_env _ _ _, launch0.least_env, fairChoices_fair.cas, fairChoices_fair.clock, w_frames, w_args, w_heap, w_applies, trivial, trivial, w_case⟩
end start1
theorem witness_1 : WitnessClaimed_1 := ⟨start1.p0, start1.e0, start1.about1, start1.theMethod, start1.args0, start1.below0, start1.atStart⟩
end Jvm.Pilot.@@N@@
