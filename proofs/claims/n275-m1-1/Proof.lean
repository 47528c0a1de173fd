import JvmDerived
import JvmDerived.Pilot.@@N@@Statement
import JvmDerived.Pilot.@@N@@Code
set_option linter.unusedVariables false
set_option linter.unusedSimpArgs false
namespace Jvm.RoadKit
open Sem ClassFile Op Lib Jvm.Stand Jvm.Free Jvm.LawKit
section New
variable {p : Program} {l : Launch} {e : Env} {R : Room} {s : State} {m : MethodId} {args : Array Value} {below : List Frame} {meth : Method} {c : Code} {T : State} {locs : List Loc} {cells slots : Nat}
theorem retI (X : Stand p l e R s m args below meth c T locs cells slots) (hx : p.tables.exec = Jvm.exec) {pc : Nat} {Ls : Array Slot} {z : Int32} {rest : List Value} (hret : meth.sig.returnType = some .int) (hd : decode c.code pc = .ok (.ireturn, 1)) {fs : List Frame}
    (hl : ∀ (f : JFrame) (acts : List Action), f.method = m → f.locked = none → f.entered = [] → (doReturn e (T.setTop f) acts (some (.int z))).1 = T.setFrames fs) : Steps p.tables e below (T.setTop (mkF m pc Ls (.int z :: rest))) (T.setFrames fs) := by
  have hm' : T.vm.method? m = some meth := X.method'
  have hn : narrow .int (.int z) = .int z := rfl
  show Steps p.tables e below (T.setTop { method := m, pc := pc, locals := Ls, stack := _ :: rest, locked := none }) _
  jvm_step X.here [X.here.top, hx, hd, hm', hret, hn]
  first | (intro acts; rw [hl _ acts rfl rfl rfl]) | rw [hl _ _ rfl rfl rfl]
  exact Steps.refl _
end New
end Jvm.RoadKit
/- laws to paste: Road.backV, Road.eqW, Road.codOf (cut by pick.py; bodies as the Statement names them) -/
namespace Jvm.Pilot.@@N@@
namespace StrChars
open Jvm Sem ClassFile Op Lib Jvm.Stand Jvm.Free.XT Jvm.Free.ALB Jvm.Free.JM Jvm.Free
open Jvm.Lib.Cold (StaticIs)
/-- a char array whose places are chars -/
def Ch (a : Addr) (A : Cell) (U : State) : Prop := Arr .char a A U ∧ Typed .char A
theorem Ch.mv {a : Addr} {A : Cell} {U U' : State} (h : Ch a A U) (hal : U.vm.Alike U'.vm) (hh : U'.heap = U.heap) : Ch a A U' := ⟨h.1.mv hal hh, h.2⟩
theorem Ch.keep {a : Addr} {A : Cell} {U U' : State} (h : Ch a A U) (hal : U.vm.Alike U'.vm) (hk : U'.heap[a]? = some A) : Ch a A U' := ⟨h.1.keep hal hk, h.2⟩
/-- what place i of a char[]'s cell holds -/
def cv (A : Cell) (i : Nat) : Int32 := match A.slots[i]? with | some (.int x) => x | _ => 0
theorem Ch.get {a : Addr} {A : Cell} {U : State} (h : Ch a A U) {i : Nat} (hi : i < A.slots.size) : A.slots[i]? = some (.int (cv A i)) := by
  have e := Array.getElem?_eq_getElem hi
  have f := h.2 i _ e
  unfold cv; rw [e]
  generalize A.slots[i] = v at f
  cases v <;> simp [fits] at f ⊢
/-- the byte that i2b leaves of a char -/
def lo8 (x : Int32) : Int32 := x.toInt8.toInt32
theorem fits_lo8 (y : Int32) : fits .byte (.int (lo8 y)) = true := by
  have h1 := y.toInt8.le_toInt
  have h2 := y.toInt8.toInt_lt
  simp only [lo8, fits, Bool.and_eq_true, decide_eq_true_eq, Int32.le_iff_toInt_le, Int8.toInt_toInt32, show (-128 : Int32).toInt = -128 from by decide, show (127 : Int32).toInt = 127 from by decide]
  omega
/-- A' is A but that each place j of lo .. hi - 1 holds f j -/
def Laid (A A' : Cell) (lo hi : Nat) (f : Nat → Value) : Prop := A'.cls = A.cls ∧ A'.vm = A.vm ∧ A'.slots.size = A.slots.size ∧ ∀ i, A'.slots[i]? = if lo ≤ i ∧ i < hi then some (f i) else A.slots[i]?
theorem Laid.zero (A : Cell) (lo : Nat) (f : Nat → Value) : Laid A A lo (lo + 0) f := ⟨rfl, rfl, rfl, fun i => by rw [if_neg (by omega)]⟩
theorem Laid.step {A Ak : Cell} {lo k : Nat} {f : Nat → Value} {v : Value} (h : Laid A Ak lo k f) (hlo : lo ≤ k) (hk : k < Ak.slots.size) (hv : v = f k) : Laid A (Ak.setSlot k v) lo (k + 1) f := by
  refine ⟨h.1, h.2.1, by simpa [Cell.setSlot] using h.2.2.1, fun i => ?_⟩
  by_cases e : k = i
  · subst e; rw [Cell.slots_setSlot_self v hk, if_pos (by omega), hv]
  · rw [Cell.slots_setSlot_ne v e, h.2.2.2 i]
    by_cases q : lo ≤ i ∧ i < k
    · rw [if_pos q, if_pos (by omega)]
    · rw [if_neg q, if_neg (by omega)]
def U16 : String := "java/lang/StringUTF16"
namespace Cmp5
def yN : MethodName := ⟨"java/lang/StringUTF16", "compress", "([CI[BII)I"⟩
abbrev yB : ByteArray := jdk_52_method_21_code
theorem d0 : decode yB 0 = .ok (.iconst 0, 1) := by decide +kernel
theorem d1 : decode yB 1 = .ok (.istore 5, 2) := by decide +kernel
theorem d3 : decode yB 3 = .ok (.iload 5, 2) := by decide +kernel
theorem d5 : decode yB 5 = .ok (.iload 4, 2) := by decide +kernel
theorem d7 : decode yB 7 = .ok (.if_icmp (.ge) 37, 3) := by decide +kernel
theorem d10 : decode yB 10 = .ok (.aload_n 0, 1) := by decide +kernel
theorem d11 : decode yB 11 = .ok (.iload_n 1, 1) := by decide +kernel
theorem d12 : decode yB 12 = .ok (.caload, 1) := by decide +kernel
theorem d13 : decode yB 13 = .ok (.istore 6, 2) := by decide +kernel
theorem d15 : decode yB 15 = .ok (.iload 6, 2) := by decide +kernel
theorem d17 : decode yB 17 = .ok (.sipush 255, 3) := by decide +kernel
theorem d20 : decode yB 20 = .ok (.if_icmp (.le) 6, 3) := by decide +kernel
theorem d26 : decode yB 26 = .ok (.aload_n 2, 1) := by decide +kernel
theorem d27 : decode yB 27 = .ok (.iload_n 3, 1) := by decide +kernel
theorem d28 : decode yB 28 = .ok (.iload 6, 2) := by decide +kernel
theorem d30 : decode yB 30 = .ok (.i2b, 1) := by decide +kernel
theorem d31 : decode yB 31 = .ok (.bastore, 1) := by decide +kernel
theorem d32 : decode yB 32 = .ok (.iinc 1 1, 3) := by decide +kernel
theorem d35 : decode yB 35 = .ok (.iinc 3 1, 3) := by decide +kernel
theorem d38 : decode yB 38 = .ok (.iinc 5 1, 3) := by decide +kernel
theorem d41 : decode yB 41 = .ok (.goto (-38), 3) := by decide +kernel
theorem d44 : decode yB 44 = .ok (.iload 4, 2) := by decide +kernel
theorem d46 : decode yB 46 = .ok (.ireturn, 1) := by decide +kernel
def site : List Cond := []
def tab : Cond := tabOf yN yB 7 (some .int) site
def P (b : Addr) (A : Cell) (d : Addr) (B : Cell) (o q len : Nat) (args : Array Value) (s : State) : Prop := args = #[.ref b, .int (Int32.ofNat o), .ref d, .int (Int32.ofNat q), .int (Int32.ofNat len)] ∧ Ch b A s ∧ Arr .byte d B s ∧ b ≠ d ∧ o + len ≤ A.slots.size ∧ q + len ≤ B.slots.size ∧ ∀ i, i < len → ¬ 255 < cv A (o + i)
def E (b : Addr) (A : Cell) (d : Addr) (B : Cell) (o q len : Nat) (r : Option Value) (s u : State) : Prop := r = some (.int (Int32.ofNat len)) ∧ ∃ B', Put d B' s u ∧ Laid B B' q (q + len) (fun j => Value.int (lo8 (cv A (o + (j - q)))))
/-- no char of the range above 255: len; the places written hold each char's low byte -/
theorem law (l : Launch) (b : Addr) (A : Cell) (d : Addr) (B : Cell) (o q len : Nat) : Law l yN 5 5 0 0 yB 7 (some .int) site (P b A d B o q len) (E b A d B o q len) (copyLocs d q len) 0 0 := by
  refine Law.of_walk (plainFor_of_name (by decide +kernel)) (by decide +kernel) (by decide +kernel) (by decide) (fun _ _ h => by rw [h.1]; rfl) (fun _ U U' hal hh h => ⟨h.1, h.2.1.mv hal hh, h.2.2.1.mv hal hh, h.2.2.2⟩) (fun r U U' V V' h1 hal h2 h => ⟨h.1, h.2.elim fun B' q => ⟨B', q.1.mv h1 h2, q.2⟩⟩) ?_
  intro p e s m args below meth c s₁ X0 hexec hbytes hml hret hlk hnm hown hh0 W hP
  obtain ⟨rfl, hA, hB, hne, l1, l2, hp⟩ := hP
  have c1 : Steps p.tables e below (s₁.setTop (entryFrame m #[.ref b, .int (Int32.ofNat o), .ref d, .int (Int32.ofNat q), .int (Int32.ofNat len)] 7)) (s₁.setTop (mkF m 0 #[.val (.ref b), .val (.int (Int32.ofNat o)), .val (.ref d), .val (.int (Int32.ofNat q)), .val (.int (Int32.ofNat len)), .unset, .unset] [])) := entry rfl
  have hA0 := hA.1.mv X0.warmed.alike hh0
  have hB0 := hB.mv X0.warmed.alike hh0
  have a31 := hA.1.2.2.2
  have c2 : Steps p.tables e below (s₁.setTop (entryFrame m #[.ref b, .int (Int32.ofNat o), .ref d, .int (Int32.ofNat q), .int (Int32.ofNat len)] 7)) (s₁.setTop (mkF m 3 #[.val (.ref b), .val (.int (Int32.ofNat o)), .val (.ref d), .val (.int (Int32.ofNat q)), .val (.int (Int32.ofNat len)), .val (.int 0), .unset] [])) := c1.trans (by
    refine iconstV X0.here hexec rfl 0 (hb hbytes d0) (by decide) ?_
    refine XS.istore X0.here hexec rfl (hb hbytes d1) rfl rfl ?_
    exact Steps.refl _)
  have loop : ∀ (r i : Nat), i + r = len → ∀ (z : Slot), (z = .unset ∨ ∃ w, z = .val w ∧ w.category = 1) → ∀ (Tl : State) (Bk : Cell), Stand p l e { frames := 0, locals := 0, cells := 0, slots := 0 } s m #[.ref b, .int (Int32.ofNat o), .ref d, .int (Int32.ofNat q), .int (Int32.ofNat len)] below meth c Tl ([] ++ copyLocs d q i) 0 0 → Put d Bk s₁ Tl → Laid B Bk q (q + i) (fun j => Value.int (lo8 (cv A (o + (j - q))))) →
      Steps p.tables e below (s₁.setTop (entryFrame m #[.ref b, .int (Int32.ofNat o), .ref d, .int (Int32.ofNat q), .int (Int32.ofNat len)] 7)) (Tl.setTop (mkF m 3 #[.val (.ref b), .val (.int (Int32.ofNat (o + i))), .val (.ref d), .val (.int (Int32.ofNat (q + i))), .val (.int (Int32.ofNat len)), .val (.int (Int32.ofNat i)), z] [])) → ∃ (T' : State) (B' : Cell) (z' : Slot), Stand p l e { frames := 0, locals := 0, cells := 0, slots := 0 } s m #[.ref b, .int (Int32.ofNat o), .ref d, .int (Int32.ofNat q), .int (Int32.ofNat len)] below meth c T' ([] ++ copyLocs d q len) 0 0 ∧ Put d B' s₁ T' ∧ Laid B B' q (q + len) (fun j => Value.int (lo8 (cv A (o + (j - q))))) ∧
      Steps p.tables e below (s₁.setTop (entryFrame m #[.ref b, .int (Int32.ofNat o), .ref d, .int (Int32.ofNat q), .int (Int32.ofNat len)] 7)) (T'.setTop (mkF m 3 #[.val (.ref b), .val (.int (Int32.ofNat (o + len))), .val (.ref d), .val (.int (Int32.ofNat (q + len))), .val (.int (Int32.ofNat len)), .val (.int (Int32.ofNat len)), z'] [])) := by
    intro r
    induction r with
    | zero =>
      intro i hi z hz Tl Bk Xl pl fl cl
      have hil : i = len := by omega
      rw [hil] at Xl fl cl
      exact ⟨Tl, Bk, z, Xl, pl, fl, cl⟩
    | succ r ih =>
      intro i hi z hz Tl Bk Xl pl fl cl
      have all := X0.warmed.alike.symm.trans Xl.warmed.alike
      have hAl := hA0.keep all (pl.other hne hA0.1)
      have hBk := hB0.like all pl.1 fl.1 fl.2.1 fl.2.2.1
      have hlt : q + i < Bk.slots.size := by rw [fl.2.2.1]; omega
      have c3 : Steps p.tables e below (s₁.setTop (entryFrame m #[.ref b, .int (Int32.ofNat o), .ref d, .int (Int32.ofNat q), .int (Int32.ofNat len)] 7)) (Tl.setTop (mkF m 12 #[.val (.ref b), .val (.int (Int32.ofNat (o + i))), .val (.ref d), .val (.int (Int32.ofNat (q + i))), .val (.int (Int32.ofNat len)), .val (.int (Int32.ofNat i)), z] [.int (Int32.ofNat (o + i)), .ref b])) := cl.trans (by
        refine XS.iload Xl.here hexec rfl (hb hbytes d3) rfl ?_
        refine XS.iload Xl.here hexec rfl (hb hbytes d5) rfl ?_
        refine XS.icmpNo Xl.here hexec rfl (hb hbytes d7) rfl (ii_ge_f (lt32 (by omega) (by omega))) ?_
        refine XS.aloadN Xl.here hexec rfl (hb hbytes d10) rfl rfl ?_
        refine XS.iloadN Xl.here hexec rfl (hb hbytes d11) rfl ?_
        exact Steps.refl _)
      have c4 : Steps p.tables e below (s₁.setTop (entryFrame m #[.ref b, .int (Int32.ofNat o), .ref d, .int (Int32.ofNat q), .int (Int32.ofNat len)] 7)) (Tl.setTop (mkF m 13 #[.val (.ref b), .val (.int (Int32.ofNat (o + i))), .val (.ref d), .val (.int (Int32.ofNat (q + i))), .val (.int (Int32.ofNat len)), .val (.int (Int32.ofNat i)), z] [.int (cv A (o + i))])) := c3.trans (by
        refine Xl.aget hexec hAl rfl (hA.get (i := o + i) (by omega)) rfl rfl (hb hbytes d12) ?_
        exact Steps.refl _)
      have c5 : Steps p.tables e below (s₁.setTop (entryFrame m #[.ref b, .int (Int32.ofNat o), .ref d, .int (Int32.ofNat q), .int (Int32.ofNat len)] 7)) (Tl.setTop (mkF m 15 #[.val (.ref b), .val (.int (Int32.ofNat (o + i))), .val (.ref d), .val (.int (Int32.ofNat (q + i))), .val (.int (Int32.ofNat len)), .val (.int (Int32.ofNat i)), .val (.int (cv A (o + i)))] [])) := c4.trans (by
        refine XS.istoreS Xl.here hexec rfl (hb hbytes d13) rfl rfl hz ?_
        exact Steps.refl _)
      have c6 : Steps p.tables e below (s₁.setTop (entryFrame m #[.ref b, .int (Int32.ofNat o), .ref d, .int (Int32.ofNat q), .int (Int32.ofNat len)] 7)) (Tl.setTop (mkF m 31 #[.val (.ref b), .val (.int (Int32.ofNat (o + i))), .val (.ref d), .val (.int (Int32.ofNat (q + i))), .val (.int (Int32.ofNat len)), .val (.int (Int32.ofNat i)), .val (.int (cv A (o + i)))] [.int (lo8 (cv A (o + i))), .int (Int32.ofNat (q + i)), .ref d])) := c5.trans (by
        refine XS.iload Xl.here hexec rfl (hb hbytes d15) rfl ?_
        refine sipushV Xl.here hexec rfl 255 (hb hbytes d17) (by decide) ?_
        refine XS.icmpYes Xl.here hexec rfl (pc0 := 20) rfl (hb hbytes d20) rfl (ii_le_t (hp i (by omega))) (by decide) rfl ?_
        refine XS.aloadN Xl.here hexec rfl (hb hbytes d26) rfl rfl ?_
        refine XS.iloadN Xl.here hexec rfl (hb hbytes d27) rfl ?_
        refine XS.iload Xl.here hexec rfl (hb hbytes d28) rfl ?_
        refine i2b Xl.here hexec rfl (hb hbytes d30) rfl ?_
        exact Steps.refl _)
      obtain ⟨T7, X7, p7, st7⟩ := Xl.aput hexec hBk rfl hlt rfl (fits_lo8 (cv A (o + i))) (g := (mkF m 31 #[.val (.ref b), .val (.int (Int32.ofNat (o + i))), .val (.ref d), .val (.int (Int32.ofNat (q + i))), .val (.int (Int32.ofNat len)), .val (.int (Int32.ofNat i)), .val (.int (cv A (o + i)))] [.int (lo8 (cv A (o + i))), .int (Int32.ofNat (q + i)), .ref d])) rfl (rest := []) rfl (hb hbytes d31)
      have c8 : Steps p.tables e below (s₁.setTop (entryFrame m #[.ref b, .int (Int32.ofNat o), .ref d, .int (Int32.ofNat q), .int (Int32.ofNat len)] 7)) (T7.setTop (mkF m 32 #[.val (.ref b), .val (.int (Int32.ofNat (o + i))), .val (.ref d), .val (.int (Int32.ofNat (q + i))), .val (.int (Int32.ofNat len)), .val (.int (Int32.ofNat i)), .val (.int (cv A (o + i)))] [])) := c6.trans (st7 _ (Steps.refl _))
      have c9 : Steps p.tables e below (s₁.setTop (entryFrame m #[.ref b, .int (Int32.ofNat o), .ref d, .int (Int32.ofNat q), .int (Int32.ofNat len)] 7)) (T7.setTop (mkF m 3 #[.val (.ref b), .val (.int (Int32.ofNat (o + i) + 1)), .val (.ref d), .val (.int (Int32.ofNat (q + i) + 1)), .val (.int (Int32.ofNat len)), .val (.int (Int32.ofNat i + 1)), .val (.int (cv A (o + i)))] [])) := c8.trans (by
        refine iincV X7.here hexec rfl 1 (hb hbytes d32) (by decide) rfl rfl ?_
        refine iincV X7.here hexec rfl 1 (hb hbytes d35) (by decide) rfl rfl ?_
        refine iincV X7.here hexec rfl 1 (hb hbytes d38) (by decide) rfl rfl ?_
        refine XS.goto X7.here hexec rfl (pc0 := 41) rfl (hb hbytes d41) (by decide) rfl ?_
        exact Steps.refl _)
      have c10 : Steps p.tables e below (s₁.setTop (entryFrame m #[.ref b, .int (Int32.ofNat o), .ref d, .int (Int32.ofNat q), .int (Int32.ofNat len)] 7)) (T7.setTop (mkF m 3 #[.val (.ref b), .val (.int (Int32.ofNat (o + (i + 1)))), .val (.ref d), .val (.int (Int32.ofNat (q + (i + 1)))), .val (.int (Int32.ofNat len)), .val (.int (Int32.ofNat (i + 1))), .val (.int (cv A (o + i)))] [])) := by
        have := c9
        rw [succ32, succ32, succ32] at this
        exact this
      exact ih (i + 1) (by omega) _ (Or.inr ⟨_, rfl, rfl⟩) T7 _ (by rw [copyLocs_step, ← List.append_assoc]; exact X7) (pl.trans p7) (fl.step (by omega) hlt (by simp)) c10
  obtain ⟨T9, B9, z9, X9, p9, f9, g9⟩ := loop len 0 (by omega) .unset (Or.inl rfl) s₁ B (by simpa [copyLocs] using X0) ⟨hB0.1, fun _ _ => rfl, rfl⟩ (Laid.zero _ _ _) c2
  have c11 : Steps p.tables e below (s₁.setTop (entryFrame m #[.ref b, .int (Int32.ofNat o), .ref d, .int (Int32.ofNat q), .int (Int32.ofNat len)] 7)) (T9.setTop (mkF m 46 #[.val (.ref b), .val (.int (Int32.ofNat (o + len))), .val (.ref d), .val (.int (Int32.ofNat (q + len))), .val (.int (Int32.ofNat len)), .val (.int (Int32.ofNat len)), z9] [.int (Int32.ofNat len)])) := g9.trans (by
    refine XS.iload X9.here hexec rfl (hb hbytes d3) rfl ?_
    refine XS.iload X9.here hexec rfl (hb hbytes d5) rfl ?_
    refine XS.icmpYes X9.here hexec rfl (pc0 := 7) rfl (hb hbytes d7) rfl (ii_ge_t (nlt32 (by omega) (Nat.le_refl _))) (by decide) rfl ?_
    refine XS.iload X9.here hexec rfl (hb hbytes d44) rfl ?_
    exact Steps.refl _)
  exact ⟨T9, some (.int (Int32.ofNat len)), _, _, _, X9, by simp, rfl, rfl, (fun h => by cases h), ⟨rfl, B9, p9.from hh0, f9⟩, fun fs hl => c11.trans (X9.ireturnOut hexec hret rfl (Or.inl rfl) (hb hbytes d46) hl)⟩
end Cmp5
namespace Cmp3
def yN : MethodName := ⟨"java/lang/StringUTF16", "compress", "([CII)[B"⟩
abbrev yB : ByteArray := jdk_52_method_16_code
theorem d0 : decode yB 0 = .ok (.iload_n 2, 1) := by decide +kernel
theorem d1 : decode yB 1 = .ok (.newarray .byte, 2) := by decide +kernel
theorem d3 : decode yB 3 = .ok (.astore_n 3, 1) := by decide +kernel
theorem d4 : decode yB 4 = .ok (.aload_n 0, 1) := by decide +kernel
theorem d5 : decode yB 5 = .ok (.iload_n 1, 1) := by decide +kernel
theorem d6 : decode yB 6 = .ok (.aload_n 3, 1) := by decide +kernel
theorem d7 : decode yB 7 = .ok (.iconst 0, 1) := by decide +kernel
theorem d8 : decode yB 8 = .ok (.iload_n 2, 1) := by decide +kernel
theorem d9 : decode yB 9 = .ok (.invokestatic 115, 3) := by decide +kernel
theorem d12 : decode yB 12 = .ok (.istore 4, 2) := by decide +kernel
theorem d14 : decode yB 14 = .ok (.iload 4, 2) := by decide +kernel
theorem d16 : decode yB 16 = .ok (.iload_n 2, 1) := by decide +kernel
theorem d17 : decode yB 17 = .ok (.if_icmp (.eq) 40, 3) := by decide +kernel
theorem d57 : decode yB 57 = .ok (.aload_n 3, 1) := by decide +kernel
theorem d58 : decode yB 58 = .ok (.areturn, 1) := by decide +kernel
def site : List Cond := [.arrayClass .byte, Cmp5.tab] ++ staticW U16 115 Cmp5.yN
def tab : Cond := tabOf yN yB 6 (some (.array .byte)) site
def P (b : Addr) (A : Cell) (o len : Nat) (args : Array Value) (s : State) : Prop := args = #[.ref b, .int (Int32.ofNat o), .int (Int32.ofNat len)] ∧ Ch b A s ∧ o + len ≤ A.slots.size ∧ len ≤ 536870912 ∧ ∀ i, i < len → ¬ 255 < cv A (o + i)
def E (b : Addr) (A : Cell) (o len : Nat) (r : Option Value) (s u : State) : Prop := NewArr .byte "[B" len (fun j => .int (lo8 (cv A (o + j)))) r s u ∧ u.heap.size = s.heap.size + 1
/-- no char of the range above 255: a new byte[] of their low bytes -/
theorem law (l : Launch) (b : Addr) (A : Cell) (o len : Nat) : Law l yN 3 3 1 18 yB 6 (some (.array .byte)) site (P b A o len) (E b A o len) [] 1 len := by
  refine Law.of_walk (plainFor_of_name (by decide +kernel)) (by decide +kernel) (by decide +kernel) (by decide) (fun _ _ h => by rw [h.1]; rfl) (fun _ U U' hal hh h => ⟨h.1, h.2.1.mv hal hh, h.2.2⟩) (fun r U U' V V' h1 hal h2 h => ⟨NewArr.mv r U U' V V' h1 hal h2 h.1, by rw [h1, h2]; exact h.2⟩) ?_
  intro p e s m args below meth c s₁ X0 hexec hbytes hml hret hlk hnm hown hh0 W hP
  obtain ⟨rfl, hA, l1, l2, hp⟩ := hP
  have a31 := hA.1.2.2.2
  have c1 : Steps p.tables e below (s₁.setTop (entryFrame m #[.ref b, .int (Int32.ofNat o), .int (Int32.ofNat len)] 6)) (s₁.setTop (mkF m 0 #[.val (.ref b), .val (.int (Int32.ofNat o)), .val (.int (Int32.ofNat len)), .unset, .unset, .unset] [])) := entry rfl
  have c2 : Steps p.tables e below (s₁.setTop (entryFrame m #[.ref b, .int (Int32.ofNat o), .int (Int32.ofNat len)] 6)) (s₁.setTop (mkF m 1 #[.val (.ref b), .val (.int (Int32.ofNat o)), .val (.int (Int32.ofNat len)), .unset, .unset, .unset] [.int (Int32.ofNat len)])) := c1.trans (by
    refine XS.iloadN X0.here hexec rfl (hb hbytes d0) rfl ?_
    exact Steps.refl _)
  obtain ⟨T3, B3, X3, ba3, bs3, bv3, bh3, bf3, st3⟩ := X0.anew hexec (atype := .byte) (wk W (.arrayClass .byte)) rfl (by show len * 1 ≤ _; omega) (by omega) (g := (mkF m 1 #[.val (.ref b), .val (.int (Int32.ofNat o)), .val (.int (Int32.ofNat len)), .unset, .unset, .unset] [.int (Int32.ofNat len)])) rfl (hb hbytes d1) (rest := []) rfl (Nat.le_refl _) (by show 0 + len ≤ len; omega)
  rw [hh0] at ba3 st3
  have kp3 : XT.Kept s T3 := (XT.Kept.of_eq hh0).push bh3
  have hA3 := hA.keep X3.warmed.alike (kp3 _ _ hA.1.1)
  have hne : b ≠ s.heap.size := hA.1.ne
  have c4 : Steps p.tables e below (s₁.setTop (entryFrame m #[.ref b, .int (Int32.ofNat o), .int (Int32.ofNat len)] 6)) (T3.setTop (mkF m 3 #[.val (.ref b), .val (.int (Int32.ofNat o)), .val (.int (Int32.ofNat len)), .unset, .unset, .unset] [.ref s.heap.size])) := c2.trans (st3 _ (Steps.refl _))
  have c5 : Steps p.tables e below (s₁.setTop (entryFrame m #[.ref b, .int (Int32.ofNat o), .int (Int32.ofNat len)] 6)) (T3.setTop (mkF m 9 #[.val (.ref b), .val (.int (Int32.ofNat o)), .val (.int (Int32.ofNat len)), .val (.ref s.heap.size), .unset, .unset] [.int (Int32.ofNat len), .int 0, .ref s.heap.size, .int (Int32.ofNat o), .ref b])) := c4.trans (by
    refine XS.astoreN X3.here hexec rfl (hb hbytes d3) rfl rfl rfl ?_
    refine XS.aloadN X3.here hexec rfl (hb hbytes d4) rfl rfl ?_
    refine XS.iloadN X3.here hexec rfl (hb hbytes d5) rfl ?_
    refine XS.aloadN X3.here hexec rfl (hb hbytes d6) rfl rfl ?_
    refine iconstV X3.here hexec rfl 0 (hb hbytes d7) (by decide) ?_
    refine XS.iloadN X3.here hexec rfl (hb hbytes d8) rfl ?_
    exact Steps.refl _)
  obtain ⟨v6, T6, X6, E6, g6⟩ := X3.callS hexec (Cmp5.law l b A s.heap.size B3 o 0 len) hown (wks W (staticW U16 115 Cmp5.yN)) (wk W Cmp5.tab) (W := 0) (Nat.le_of_ble_eq_true rfl) (Nat.le_of_ble_eq_true rfl) (Nat.le_refl _) (by show 0 + len + 0 ≤ len; omega) (g := (mkF m 9 #[.val (.ref b), .val (.int (Int32.ofNat o)), .val (.int (Int32.ofNat len)), .val (.ref s.heap.size), .unset, .unset] [.int (Int32.ofNat len), .int (Int32.ofNat 0), .ref s.heap.size, .int (Int32.ofNat o), .ref b])) rfl (by rw [hml]; rfl) c5 (argsL := [.ref b, .int (Int32.ofNat o), .ref s.heap.size, .int (Int32.ofNat 0), .int (Int32.ofNat len)]) (rest := []) rfl rfl (by show 2 * 0 + 0 ≤ _; decide) (hb hbytes d9) (⟨rfl, hA3, ba3, hne, l1, by rw [bs3]; simp, hp⟩)
  obtain ⟨rfl, B6, p6, f6⟩ := E6
  have c7 : Steps p.tables e below (s₁.setTop (entryFrame m #[.ref b, .int (Int32.ofNat o), .int (Int32.ofNat len)] 6)) (T6.setTop (mkF m 12 #[.val (.ref b), .val (.int (Int32.ofNat o)), .val (.int (Int32.ofNat len)), .val (.ref s.heap.size), .unset, .unset] [.int (Int32.ofNat len)])) := g6
  have c8 : Steps p.tables e below (s₁.setTop (entryFrame m #[.ref b, .int (Int32.ofNat o), .int (Int32.ofNat len)] 6)) (T6.setTop (mkF m 58 #[.val (.ref b), .val (.int (Int32.ofNat o)), .val (.int (Int32.ofNat len)), .val (.ref s.heap.size), .val (.int (Int32.ofNat len)), .unset] [.ref s.heap.size])) := c7.trans (by
    refine XS.istore X6.here hexec rfl (hb hbytes d12) rfl rfl ?_
    refine XS.iload X6.here hexec rfl (hb hbytes d14) rfl ?_
    refine XS.iloadN X6.here hexec rfl (hb hbytes d16) rfl ?_
    refine XS.icmpYes X6.here hexec rfl (pc0 := 17) rfl (hb hbytes d17) rfl (ii_eq_t rfl) (by decide) rfl ?_
    refine XS.aloadN X6.here hexec rfl (hb hbytes d57) rfl rfl ?_
    exact Steps.refl _)
  have X8 := X6.wide (L' := []) (cells' := 1) (slots' := len) (fun x hx hlt => by
    simp only [List.nil_append, copyLocs, List.mem_map, List.mem_range] at hx
    obtain ⟨i, -, rfl⟩ := hx
    exact absurd hlt (Nat.lt_irrefl _)) (Nat.le_refl _) (by omega)
  exact ⟨T6, some (.ref s.heap.size), _, _, _, X8, rfl, rfl, rfl, (fun h => by cases h), ⟨⟨rfl, B6, ba3.like (X3.warmed.alike.symm.trans X6.warmed.alike) p6.1 f6.1 f6.2.1 f6.2.2.1, f6.2.1.trans bv3, by rw [X6.warmed.alike.findClass, f6.1]; exact bf3, by rw [f6.2.2.1, bs3]; simp, fun j hj => by rw [f6.2.2.2 j, if_pos (by omega)]; rfl, kp3.put p6 (Nat.le_refl _)⟩, by rw [p6.2.2, bh3, hh0]; simp⟩, fun fs hl => c8.trans (X8.areturnOut hexec rfl hret rfl (hb hbytes d58) hl)⟩
end Cmp3
namespace CodL
def yN : MethodName := ⟨"java/lang/StringUTF16", "coderFromArrayLen", "([BI)B"⟩
abbrev yB : ByteArray := jdk_52_method_15_code
theorem d0 : decode yB 0 = .ok (.iload_n 1, 1) := by decide +kernel
theorem d1 : decode yB 1 = .ok (.aload_n 0, 1) := by decide +kernel
theorem d2 : decode yB 2 = .ok (.arraylength, 1) := by decide +kernel
theorem d3 : decode yB 3 = .ok (.isub, 1) := by decide +kernel
theorem d4 : decode yB 4 = .ok (.bipush 31, 2) := by decide +kernel
theorem d6 : decode yB 6 = .ok (.iushr, 1) := by decide +kernel
theorem d7 : decode yB 7 = .ok (.i2b, 1) := by decide +kernel
theorem d8 : decode yB 8 = .ok (.ireturn, 1) := by decide +kernel
def site : List Cond := []
def tab : Cond := tabOf yN yB 2 (some .byte) site
def P (d : Addr) (B : Cell) (args : Array Value) (s : State) : Prop := args = #[.ref d, .int (Int32.ofNat B.slots.size)] ∧ Arr .byte d B s
def E (r : Option Value) (s u : State) : Prop := XT.PureE (some (.int 0)) r s u
/-- an array as long as the number of chars: LATIN1 -/
theorem law (l : Launch) (d : Addr) (B : Cell) : Law l yN 2 2 0 0 yB 2 (some .byte) site (P d B) E [] 0 0 := by
  refine Law.of_walk (plainFor_of_name (by decide +kernel)) (by decide +kernel) (by decide +kernel) (by decide) (fun _ _ h => by rw [h.1]; rfl) (fun _ U U' hal hh h => ⟨h.1, h.2.mv hal hh⟩) (fun r U U' V V' h1 hal h2 h => XT.PureE.mv r U U' V V' h1 hal h2 h) ?_
  intro p e s m args below meth c s₁ X0 hexec hbytes hml hret hlk hnm hown hh0 W hP
  obtain ⟨rfl, hB⟩ := hP
  have hB0 := hB.mv X0.warmed.alike hh0
  have c1 : Steps p.tables e below (s₁.setTop (entryFrame m #[.ref d, .int (Int32.ofNat B.slots.size)] 2)) (s₁.setTop (mkF m 0 #[.val (.ref d), .val (.int (Int32.ofNat B.slots.size))] [])) := entry rfl
  have c2 : Steps p.tables e below (s₁.setTop (entryFrame m #[.ref d, .int (Int32.ofNat B.slots.size)] 2)) (s₁.setTop (mkF m 2 #[.val (.ref d), .val (.int (Int32.ofNat B.slots.size))] [.ref d, .int (Int32.ofNat B.slots.size)])) := c1.trans (by
    refine XS.iloadN X0.here hexec rfl (hb hbytes d0) rfl ?_
    refine XS.aloadN X0.here hexec rfl (hb hbytes d1) rfl rfl ?_
    exact Steps.refl _)
  have c3 : Steps p.tables e below (s₁.setTop (entryFrame m #[.ref d, .int (Int32.ofNat B.slots.size)] 2)) (s₁.setTop (mkF m 8 #[.val (.ref d), .val (.int (Int32.ofNat B.slots.size))] [.int (lo8 (ushr (Int32.ofNat B.slots.size - Int32.ofNat B.slots.size) 31))])) := c2.trans (by
    refine X0.alen hexec hB0 rfl rfl (hb hbytes d2) ?_
    refine XS.isub X0.here hexec rfl (hb hbytes d3) rfl ?_
    refine bipushV X0.here hexec rfl 31 (hb hbytes d4) (by decide) ?_
    refine iushr X0.here hexec rfl (hb hbytes d6) rfl ?_
    refine i2b X0.here hexec rfl (hb hbytes d7) rfl ?_
    exact Steps.refl _)
  have e0 : lo8 (ushr (Int32.ofNat B.slots.size - Int32.ofNat B.slots.size) 31) = 0 := by rw [Int32.sub_self]; decide
  rw [e0] at c3
  exact ⟨s₁, some (.int 0), _, _, _, X0, rfl, rfl, rfl, (fun h => by cases h), ⟨rfl, hh0⟩, fun fs hl => c3.trans (X0.ireturnOut hexec hret rfl (Or.inr (Or.inr (Or.inl rfl))) (hb hbytes d8) hl)⟩
end CodL
/-- the String at a is Latin-1 over a new byte[] (the heap's one new cell): the low bytes of the len chars of A from o on; every cell but a is kept -/
def Got (a : Addr) (D : Cell) (fV fC : Field) (A : Cell) (o len : Nat) (r : Option Value) (s u : State) : Prop := r = none ∧ ∃ D' V : Cell, Blank "java/lang/String" a D' u ∧ Same D D' [fV.slot, fC.slot] ∧ D'.slots[fV.slot]? = some (.ref s.heap.size) ∧ D'.slots[fC.slot]? = some (.int 0) ∧ Arr .byte s.heap.size V u ∧ V.vm = .none ∧ u.vm.findClass "[B" = some V.cls ∧ V.slots.size = len ∧ (∀ j, j < len → V.slots[j]? = some (.int (lo8 (cv A (o + j))))) ∧ (∀ (y : Addr) (c : Cell), y ≠ a → s.heap[y]? = some c → u.heap[y]? = some c) ∧ u.heap.size = s.heap.size + 1
theorem Got.mv {a : Addr} {D A : Cell} {fV fC : Field} {o len : Nat} : ∀ r (U U' V V' : State), U'.heap = U.heap → V.vm.Alike V'.vm → V'.heap = V.heap → Got a D fV fC A o len r U V → Got a D fV fC A o len r U' V' :=
  fun r U U' V V' h1 hal h2 ⟨e0, D', X, a1, a2, a3, a4, a5, a6, a7, a8, a9, a10, a11⟩ => ⟨e0, D', X, a1.mv hal h2, a2, by rw [h1]; exact a3, a4, by rw [h1]; exact a5.mv hal h2, a6, by rw [hal.findClass]; exact a7, a8, a9, by rw [h1, h2]; exact a10, by rw [h1, h2]; exact a11⟩
namespace New4
def yN : MethodName := ⟨"java/lang/String", "<init>", "([CIILjava/lang/Void;)V"⟩
abbrev yB : ByteArray := jdk_42_method_149_code
theorem d0 : decode yB 0 = .ok (.aload_n 0, 1) := by decide +kernel
theorem d1 : decode yB 1 = .ok (.invokespecial 1, 3) := by decide +kernel
theorem d4 : decode yB 4 = .ok (.iload_n 3, 1) := by decide +kernel
theorem d5 : decode yB 5 = .ok (.ifCond (.ne) 22, 3) := by decide +kernel
theorem d27 : decode yB 27 = .ok (.getstatic 38, 3) := by decide +kernel
theorem d30 : decode yB 30 = .ok (.ifCond (.eq) 28, 3) := by decide +kernel
theorem d33 : decode yB 33 = .ok (.aload_n 1, 1) := by decide +kernel
theorem d34 : decode yB 34 = .ok (.iload_n 2, 1) := by decide +kernel
theorem d35 : decode yB 35 = .ok (.iload_n 3, 1) := by decide +kernel
theorem d36 : decode yB 36 = .ok (.invokestatic 177, 3) := by decide +kernel
theorem d39 : decode yB 39 = .ok (.astore 5, 2) := by decide +kernel
theorem d41 : decode yB 41 = .ok (.aload_n 0, 1) := by decide +kernel
theorem d42 : decode yB 42 = .ok (.aload 5, 2) := by decide +kernel
theorem d44 : decode yB 44 = .ok (.iload_n 3, 1) := by decide +kernel
theorem d45 : decode yB 45 = .ok (.invokestatic 47, 3) := by decide +kernel
theorem d48 : decode yB 48 = .ok (.putfield 15, 3) := by decide +kernel
theorem d51 : decode yB 51 = .ok (.aload_n 0, 1) := by decide +kernel
theorem d52 : decode yB 52 = .ok (.aload 5, 2) := by decide +kernel
theorem d54 : decode yB 54 = .ok (.putfield 9, 3) := by decide +kernel
theorem d57 : decode yB 57 = .ok (.return_, 1) := by decide +kernel
def site : List Cond := [.fieldLink "java/lang/String" 38 "java/lang/String" "COMPACT_STRINGS" "Z", Cmp3.tab, CodL.tab, .laysFinal "java/lang/String" "java/lang/String" "value" "[B", .fieldLink "java/lang/String" 9 "java/lang/String" "value" "[B", .laysFinal "java/lang/String" "java/lang/String" "coder" "B", .fieldLink "java/lang/String" 15 "java/lang/String" "coder" "B"] ++ objW "java/lang/String" 1 ++ staticW "java/lang/String" 177 Cmp3.yN ++ staticW "java/lang/String" 47 CodL.yN
def tab : Cond := tabOf yN yB 6 none site
def P (a : Addr) (D : Cell) (fV fC : Field) (b : Addr) (A : Cell) (z : Int32) (o len : Nat) (args : Array Value) (s : State) : Prop := args = #[.ref a, .ref b, .int (Int32.ofNat o), .int (Int32.ofNat len), .null] ∧ Blank "java/lang/String" a D s ∧ Found "java/lang/String" "value" "[B" fV s ∧ Found "java/lang/String" "coder" "B" fC s ∧ Ch b A s ∧ StaticIs s "java/lang/String" "COMPACT_STRINGS" "Z" (.int z) ∧ ¬ z = 0 ∧ 0 < len ∧ o + len ≤ A.slots.size ∧ len ≤ 536870912 ∧ ∀ i, i < len → ¬ 255 < cv A (o + i)
def E (a : Addr) (D : Cell) (fV fC : Field) (A : Cell) (o len : Nat) (r : Option Value) (s u : State) : Prop := Got a D fV fC A o len r s u
/-- len > 0, no char of the range above 255: a Latin-1 String of their low bytes -/
theorem law (l : Launch) (a : Addr) (D : Cell) (fV fC : Field) (b : Addr) (A : Cell) (z : Int32) (o len : Nat) : Law l yN 5 4 2 35 yB 6 none site (P a D fV fC b A z o len) (E a D fV fC A o len) [⟨a, fC.slot⟩, ⟨a, fV.slot⟩] 1 len := by
  refine Law.of_walk (plainFor_of_name (by decide +kernel)) (by decide +kernel) (by decide +kernel) (by decide) (fun _ _ h => by rw [h.1]; rfl) (fun _ U U' hal hh h => ⟨h.1, h.2.1.mv hal hh, h.2.2.1.al hal, h.2.2.2.1.al hal, h.2.2.2.2.1.mv hal hh, h.2.2.2.2.2.1.there hal hh, h.2.2.2.2.2.2⟩) (fun r U U' V V' h1 hal h2 h => Got.mv r U U' V V' h1 hal h2 h) ?_
  intro p e s m args below meth c s₁ X0 hexec hbytes hml hret hlk hnm hown hh0 W hP
  obtain ⟨rfl, hB, f1, f2, hA, s1, hz, l0, l1, l2, hp⟩ := hP
  have a31 := hA.1.2.2.2
  have c1 : Steps p.tables e below (s₁.setTop (entryFrame m #[.ref a, .ref b, .int (Int32.ofNat o), .int (Int32.ofNat len), .null] 6)) (s₁.setTop (mkF m 0 #[.val (.ref a), .val (.ref b), .val (.int (Int32.ofNat o)), .val (.int (Int32.ofNat len)), .val .null, .unset] [])) := entry rfl
  have c2 : Steps p.tables e below (s₁.setTop (entryFrame m #[.ref a, .ref b, .int (Int32.ofNat o), .int (Int32.ofNat len), .null] 6)) (s₁.setTop (mkF m 1 #[.val (.ref a), .val (.ref b), .val (.int (Int32.ofNat o)), .val (.int (Int32.ofNat len)), .val .null, .unset] [.ref a])) := c1.trans (by
    refine XS.aloadN X0.here hexec rfl (hb hbytes d0) rfl rfl ?_
    exact Steps.refl _)
  obtain ⟨T3, X3, q3, st3⟩ := X0.oinit hexec hown (wks W (objW "java/lang/String" 1)) (g := (mkF m 1 #[.val (.ref a), .val (.ref b), .val (.int (Int32.ofNat o)), .val (.int (Int32.ofNat len)), .val .null, .unset] [.ref a])) rfl (by rw [hml]; rfl) (rest := []) rfl (hb hbytes d1) (W := 0) (by show 2 * 0 + 0 ≤ _; decide) (Nat.le_of_ble_eq_true rfl) (Nat.le_of_ble_eq_true rfl)
  have hh3 := q3.trans hh0
  have c4 : Steps p.tables e below (s₁.setTop (entryFrame m #[.ref a, .ref b, .int (Int32.ofNat o), .int (Int32.ofNat len), .null] 6)) (T3.setTop (mkF m 27 #[.val (.ref a), .val (.ref b), .val (.int (Int32.ofNat o)), .val (.int (Int32.ofNat len)), .val .null, .unset] [])) := (c2.trans (st3 _ (Steps.refl _))).trans (by
    refine XS.iloadN X3.here hexec rfl (hb hbytes d4) rfl ?_
    refine XS.ifYes X3.here hexec rfl (pc0 := 5) rfl (hb hbytes d5) rfl (i0_ne_t (nz32 (by omega) l0)) (by decide) rfl ?_
    exact Steps.refl _)
  obtain ⟨T5, X5, q5, st5⟩ := X3.sget hexec hown (wk W (.fieldLink "java/lang/String" 38 "java/lang/String" "COMPACT_STRINGS" "Z")) s1 (fun _ _ h => by rw [hh3]; exact h) (g := (mkF m 27 #[.val (.ref a), .val (.ref b), .val (.int (Int32.ofNat o)), .val (.int (Int32.ofNat len)), .val .null, .unset] [])) rfl (hb hbytes d27)
  have hh5 := q5.trans hh3
  have c6 : Steps p.tables e below (s₁.setTop (entryFrame m #[.ref a, .ref b, .int (Int32.ofNat o), .int (Int32.ofNat len), .null] 6)) (T5.setTop (mkF m 30 #[.val (.ref a), .val (.ref b), .val (.int (Int32.ofNat o)), .val (.int (Int32.ofNat len)), .val .null, .unset] [.int z])) := c4.trans (st5 _ (Steps.refl _))
  have c7 : Steps p.tables e below (s₁.setTop (entryFrame m #[.ref a, .ref b, .int (Int32.ofNat o), .int (Int32.ofNat len), .null] 6)) (T5.setTop (mkF m 36 #[.val (.ref a), .val (.ref b), .val (.int (Int32.ofNat o)), .val (.int (Int32.ofNat len)), .val .null, .unset] [.int (Int32.ofNat len), .int (Int32.ofNat o), .ref b])) := c6.trans (by
    refine XS.ifNo X5.here hexec rfl (hb hbytes d30) rfl (i0_eq_f hz) ?_
    refine XS.aloadN X5.here hexec rfl (hb hbytes d33) rfl rfl ?_
    refine XS.iloadN X5.here hexec rfl (hb hbytes d34) rfl ?_
    refine XS.iloadN X5.here hexec rfl (hb hbytes d35) rfl ?_
    exact Steps.refl _)
  obtain ⟨v8, T8, X8, E8, g8⟩ := X5.callS hexec (Cmp3.law l b A o len) hown (wks W (staticW "java/lang/String" 177 Cmp3.yN)) (wk W Cmp3.tab) (W := 0) (Nat.le_of_ble_eq_true rfl) (Nat.le_of_ble_eq_true rfl) (Nat.le_refl _) (by show 0 + len ≤ len; omega) (g := (mkF m 36 #[.val (.ref a), .val (.ref b), .val (.int (Int32.ofNat o)), .val (.int (Int32.ofNat len)), .val .null, .unset] [.int (Int32.ofNat len), .int (Int32.ofNat o), .ref b])) rfl (by rw [hml]; rfl) c7 (argsL := [.ref b, .int (Int32.ofNat o), .int (Int32.ofNat len)]) (rest := []) rfl rfl (by show 2 * 0 + 0 ≤ _; decide) (hb hbytes d36) (⟨rfl, hA.mv X5.warmed.alike hh5, l1, l2, hp⟩)
  obtain ⟨e8, z8⟩ := E8
  obtain ⟨rfl, N, n1, n2, n3, n4, n5, n6⟩ := NewArr.mv _ T5 s _ _ hh5.symm (Vm.Alike.refl _) rfl e8
  rw [hh5] at z8
  have hB1 := hB.keep X8.warmed.alike (n6 _ _ hB.1)
  have hne : s.heap.size ≠ a := (Nat.ne_of_lt (Array.getElem?_eq_some_iff.mp hB.1).1).symm
  have c9 : Steps p.tables e below (s₁.setTop (entryFrame m #[.ref a, .ref b, .int (Int32.ofNat o), .int (Int32.ofNat len), .null] 6)) (T8.setTop (mkF m 39 #[.val (.ref a), .val (.ref b), .val (.int (Int32.ofNat o)), .val (.int (Int32.ofNat len)), .val .null, .unset] [.ref s.heap.size])) := g8
  have c10 : Steps p.tables e below (s₁.setTop (entryFrame m #[.ref a, .ref b, .int (Int32.ofNat o), .int (Int32.ofNat len), .null] 6)) (T8.setTop (mkF m 45 #[.val (.ref a), .val (.ref b), .val (.int (Int32.ofNat o)), .val (.int (Int32.ofNat len)), .val .null, .val (.ref s.heap.size)] [.int (Int32.ofNat N.slots.size), .ref s.heap.size, .ref a])) := by
    have hc : Steps p.tables e below (s₁.setTop (entryFrame m #[.ref a, .ref b, .int (Int32.ofNat o), .int (Int32.ofNat len), .null] 6)) (T8.setTop (mkF m 45 #[.val (.ref a), .val (.ref b), .val (.int (Int32.ofNat o)), .val (.int (Int32.ofNat len)), .val .null, .val (.ref s.heap.size)] [.int (Int32.ofNat len), .ref s.heap.size, .ref a])) := c9.trans (by
      refine XS.astore X8.here hexec rfl (hb hbytes d39) rfl rfl rfl ?_
      refine XS.aloadN X8.here hexec rfl (hb hbytes d41) rfl rfl ?_
      refine XS.aload X8.here hexec rfl (hb hbytes d42) rfl rfl ?_
      refine XS.iloadN X8.here hexec rfl (hb hbytes d44) rfl ?_
      exact Steps.refl _)
    rw [n4]; exact hc
  obtain ⟨v11, T11, X11, E11, g11⟩ := X8.callS hexec (CodL.law l s.heap.size N) hown (wks W (staticW "java/lang/String" 47 CodL.yN)) (wk W CodL.tab) (W := 1) (Nat.le_of_ble_eq_true rfl) (Nat.le_of_ble_eq_true rfl) (Nat.le_refl _) (by show 0 + len + 0 ≤ len; omega) (g := (mkF m 45 #[.val (.ref a), .val (.ref b), .val (.int (Int32.ofNat o)), .val (.int (Int32.ofNat len)), .val .null, .val (.ref s.heap.size)] [.int (Int32.ofNat N.slots.size), .ref s.heap.size, .ref a])) rfl (by rw [hml]; rfl) c10 (argsL := [.ref s.heap.size, .int (Int32.ofNat N.slots.size)]) (rest := [.ref a]) rfl rfl (by show 2 * 0 + (1 + 0) ≤ _; decide) (hb hbytes d45) (⟨rfl, n1⟩)
  obtain ⟨rfl, q11⟩ := E11
  have hB11 := hB1.mv (X8.warmed.alike.symm.trans X11.warmed.alike) q11
  have c12 : Steps p.tables e below (s₁.setTop (entryFrame m #[.ref a, .ref b, .int (Int32.ofNat o), .int (Int32.ofNat len), .null] 6)) (T11.setTop (mkF m 48 #[.val (.ref a), .val (.ref b), .val (.int (Int32.ofNat o)), .val (.int (Int32.ofNat len)), .val .null, .val (.ref s.heap.size)] [.int 0, .ref a])) := g11
  obtain ⟨T13, X13, p13, bl13, sl13, st13⟩ := X11.finit hexec hown (wk W (.fieldLink "java/lang/String" 15 "java/lang/String" "coder" "B")) (Or.inr ⟨_, (wk W (.laysFinal "java/lang/String" "java/lang/String" "coder" "B"))⟩) (Or.inl ⟨rfl, hnm⟩) f2 (Or.inl rfl) hB11 (t := .byte) (by decide +kernel) rfl (g := (mkF m 48 #[.val (.ref a), .val (.ref b), .val (.int (Int32.ofNat o)), .val (.int (Int32.ofNat len)), .val .null, .val (.ref s.heap.size)] [.int 0, .ref a])) rfl (rest := []) rfl (hb hbytes d48)
  have c14 : Steps p.tables e below (s₁.setTop (entryFrame m #[.ref a, .ref b, .int (Int32.ofNat o), .int (Int32.ofNat len), .null] 6)) (T13.setTop (mkF m 54 #[.val (.ref a), .val (.ref b), .val (.int (Int32.ofNat o)), .val (.int (Int32.ofNat len)), .val .null, .val (.ref s.heap.size)] [.ref s.heap.size, .ref a])) := (c12.trans (st13 _ (Steps.refl _))).trans (by
    refine XS.aloadN X13.here hexec rfl (hb hbytes d51) rfl rfl ?_
    refine XS.aload X13.here hexec rfl (hb hbytes d52) rfl rfl ?_
    exact Steps.refl _)
  obtain ⟨T15, X15, p15, bl15, sl15, st15⟩ := X13.finit hexec hown (wk W (.fieldLink "java/lang/String" 9 "java/lang/String" "value" "[B")) (Or.inr ⟨_, (wk W (.laysFinal "java/lang/String" "java/lang/String" "value" "[B"))⟩) (Or.inl ⟨rfl, hnm⟩) f1 (Or.inl rfl) bl13 (t := (.array .byte)) (by decide +kernel) rfl (g := (mkF m 54 #[.val (.ref a), .val (.ref b), .val (.int (Int32.ofNat o)), .val (.int (Int32.ofNat len)), .val .null, .val (.ref s.heap.size)] [.ref s.heap.size, .ref a])) rfl (rest := []) rfl (hb hbytes d54)
  have c16 : Steps p.tables e below (s₁.setTop (entryFrame m #[.ref a, .ref b, .int (Int32.ofNat o), .int (Int32.ofNat len), .null] 6)) (T15.setTop (mkF m 57 #[.val (.ref a), .val (.ref b), .val (.int (Int32.ofNat o)), .val (.int (Int32.ofNat len)), .val .null, .val (.ref s.heap.size)] [])) := c14.trans (st15 _ (Steps.refl _))
  have ap := apart (Or.inr ⟨_, (wk W (.laysFinal "java/lang/String" "java/lang/String" "value" "[B"))⟩) (Or.inr ⟨_, (wk W (.laysFinal "java/lang/String" "java/lang/String" "coder" "B"))⟩) f1 f2 (t₁ := .array .byte) (t₂ := .byte) (by decide +kernel) (by decide +kernel) (by decide)
  have al := X8.warmed.alike.symm.trans X15.warmed.alike
  have n7 : T11.heap[s.heap.size]? = some N := by rw [q11]; exact n1.1
  exact ⟨T15, none, _, _, _, X15, by simp, rfl, by omega, (fun _ => rfl), ⟨rfl, _, N, bl15, ((Same.refl D _).set _ (by simp)).set _ (by simp), sl15, (Cell.slots_setSlot_ne _ ap).trans sl13, n1.keep al (p15.other hne (p13.other hne n7)), n2, by rw [al.findClass]; exact n3, n4, n5, fun y c h1 h2 => p15.other h1 (p13.other h1 (by rw [q11]; exact n6 y c h2)), by rw [p15.2.2, p13.2.2, q11]; exact z8⟩, fun fs hl => c16.trans (X15.returnOut hexec hret (hb hbytes d57) hl)⟩
end New4
namespace New1
def yN : MethodName := ⟨"java/lang/String", "<init>", "([C)V"⟩
abbrev yB : ByteArray := jdk_42_method_3_code
theorem d0 : decode yB 0 = .ok (.aload_n 0, 1) := by decide +kernel
theorem d1 : decode yB 1 = .ok (.aload_n 1, 1) := by decide +kernel
theorem d2 : decode yB 2 = .ok (.iconst 0, 1) := by decide +kernel
theorem d3 : decode yB 3 = .ok (.aload_n 1, 1) := by decide +kernel
theorem d4 : decode yB 4 = .ok (.arraylength, 1) := by decide +kernel
theorem d5 : decode yB 5 = .ok (.aconst_null, 1) := by decide +kernel
theorem d6 : decode yB 6 = .ok (.invokespecial 27, 3) := by decide +kernel
theorem d9 : decode yB 9 = .ok (.return_, 1) := by decide +kernel
def site : List Cond := [New4.tab] ++ initW "java/lang/String" 27 New4.yN
def tab : Cond := tabOf yN yB 2 none site
def P (a : Addr) (D : Cell) (fV fC : Field) (b : Addr) (A : Cell) (z : Int32) (args : Array Value) (s : State) : Prop := args = #[.ref a, .ref b] ∧ Blank "java/lang/String" a D s ∧ Found "java/lang/String" "value" "[B" fV s ∧ Found "java/lang/String" "coder" "B" fC s ∧ Ch b A s ∧ StaticIs s "java/lang/String" "COMPACT_STRINGS" "Z" (.int z) ∧ ¬ z = 0 ∧ 0 < A.slots.size ∧ A.slots.size ≤ 536870912 ∧ ∀ i, i < A.slots.size → ¬ 255 < cv A i
def E (a : Addr) (D : Cell) (fV fC : Field) (A : Cell) (r : Option Value) (s u : State) : Prop := Got a D fV fC A 0 A.slots.size r s u
/-- new String(chars), not empty, no char above 255: a Latin-1 String of their low bytes -/
theorem law (l : Launch) (a : Addr) (D : Cell) (fV fC : Field) (b : Addr) (A : Cell) (z : Int32) : Law l yN 2 1 3 52 yB 2 none site (P a D fV fC b A z) (E a D fV fC A) [⟨a, fC.slot⟩, ⟨a, fV.slot⟩] 1 A.slots.size := by
  refine Law.of_walk (plainFor_of_name (by decide +kernel)) (by decide +kernel) (by decide +kernel) (by decide) (fun _ _ h => by rw [h.1]; rfl) (fun _ U U' hal hh h => ⟨h.1, h.2.1.mv hal hh, h.2.2.1.al hal, h.2.2.2.1.al hal, h.2.2.2.2.1.mv hal hh, h.2.2.2.2.2.1.there hal hh, h.2.2.2.2.2.2⟩) (fun r U U' V V' h1 hal h2 h => Got.mv r U U' V V' h1 hal h2 h) ?_
  intro p e s m args below meth c s₁ X0 hexec hbytes hml hret hlk hnm hown hh0 W hP
  obtain ⟨rfl, hB, f1, f2, hA, s1, hz, l0, l2, hp⟩ := hP
  have c1 : Steps p.tables e below (s₁.setTop (entryFrame m #[.ref a, .ref b] 2)) (s₁.setTop (mkF m 0 #[.val (.ref a), .val (.ref b)] [])) := entry rfl
  have c2 : Steps p.tables e below (s₁.setTop (entryFrame m #[.ref a, .ref b] 2)) (s₁.setTop (mkF m 6 #[.val (.ref a), .val (.ref b)] [.null, .int (Int32.ofNat A.slots.size), .int 0, .ref b, .ref a])) := c1.trans (by
    refine XS.aloadN X0.here hexec rfl (hb hbytes d0) rfl rfl ?_
    refine XS.aloadN X0.here hexec rfl (hb hbytes d1) rfl rfl ?_
    refine iconstV X0.here hexec rfl 0 (hb hbytes d2) (by decide) ?_
    refine XS.aloadN X0.here hexec rfl (hb hbytes d3) rfl rfl ?_
    refine X0.alen hexec (hA.1.mv X0.warmed.alike hh0) rfl rfl (hb hbytes d4) ?_
    refine XS.aconstNull X0.here hexec rfl (hb hbytes d5) ?_
    exact Steps.refl _)
  obtain ⟨v3, T3, X3, E3, g3⟩ := X0.callN hexec (New4.law l a D fV fC b A z 0 A.slots.size) rfl hown (wks W (initW "java/lang/String" 27 New4.yN)) (W New4.tab (by simp only [site, List.mem_cons, List.mem_append, true_or, or_true])) (W := 0) (Nat.le_of_ble_eq_true rfl) (Nat.le_of_ble_eq_true rfl) (Nat.le_refl _) (by show 0 + A.slots.size ≤ A.slots.size; omega) (g := (mkF m 6 #[.val (.ref a), .val (.ref b)] [.null, .int (Int32.ofNat A.slots.size), .int (Int32.ofNat 0), .ref b, .ref a])) rfl (by rw [hml]; rfl) c2 (argsL := [.ref b, .int (Int32.ofNat 0), .int (Int32.ofNat A.slots.size), .null]) (rest := []) rfl rfl (by show 2 * 0 + 0 ≤ _; decide) (hb hbytes d6) (⟨rfl, hB.mv X0.warmed.alike hh0, f1.al X0.warmed.alike, f2.al X0.warmed.alike, hA.mv X0.warmed.alike hh0, s1.there X0.warmed.alike hh0, hz, l0, by omega, l2, fun i hi => by rw [Nat.zero_add]; exact hp i hi⟩)
  have e0 := Got.mv _ s₁ s _ _ hh0.symm (Vm.Alike.refl _) rfl E3
  obtain rfl := e0.1
  have c4 : Steps p.tables e below (s₁.setTop (entryFrame m #[.ref a, .ref b] 2)) (T3.setTop (mkF m 9 #[.val (.ref a), .val (.ref b)] [])) := g3
  exact ⟨T3, none, _, _, _, X3, by simp, rfl, by omega, (fun _ => rfl), e0, fun fs hl => c4.trans (X3.returnOut hexec hret (hb hbytes d9) hl)⟩
theorem pays {l : Launch} {R : Room} {p : Program} {e : Env} {below : List Frame} {s : State} {sargs : Array Value} {len W : Nat} (a : Addr) (D : Cell) (fV fC : Field) (b : Addr) (A : Cell) (z : Int32) (htab : tab.before sargs s = true) (hfr : 4 ≤ R.frames) (hlo : W + 65 ≤ R.locals) :
    Back l R p e below s sargs yN len W (fun A₁ a₁ => A₁.cells + 1 ≤ R.cells ∧ A₁.slots + A.slots.size ≤ R.slots ∧ P a D fV fC b A z a₁ A₁.U) (fun A₁ _ v₁ B₁ => E a D fV fC A v₁ A₁.U B₁.U ∧ B₁.locs = A₁.locs ++ [⟨a, fC.slot⟩, ⟨a, fV.slot⟩] ∧ B₁.cells = A₁.cells + 1 ∧ B₁.slots = A₁.slots + A.slots.size) :=
  (law l a D fV fC b A z).pays htab hfr (by omega)
end New1
/-- the byte, read back as charAt reads it, is the char -/
theorem lo8_mask {x : Int32} (h0 : ¬ x < 0) (h1 : ¬ 255 < x) : lo8 x &&& 255 = x := by
  have t : ∀ k : Fin 256, lo8 (Int32.ofNat k.val) &&& 255 = Int32.ofNat k.val := by decide +kernel
  rw [Int32.lt_iff_toInt_lt] at h0 h1
  have e0 : (0 : Int32).toInt = 0 := rfl
  have e1 : (255 : Int32).toInt = 255 := rfl
  obtain ⟨k, hk⟩ : ∃ k : Nat, x.toInt = k := ⟨x.toInt.toNat, by omega⟩
  have hx : x = Int32.ofNat k := Int32.toInt_inj.mp (by rw [hk, Int32.toInt_ofNat_small (by omega)])
  rw [hx]
  exact t ⟨k, by omega⟩
end StrChars
namespace StrChars.Road
open Jvm Sem ClassFile Op Lib Jvm.Stand Jvm.Free Jvm.Free.XT
open Jvm.Lib.Cold (StaticIs)
abbrev ST : String := "java/lang/String"
/-- every table word that New1's law asks, flat -/
abbrev words : List Jvm.Cond := [.code New1.yN New1.yB 2 none, .initialized ST, .methodLink ST 27 New4.yN, .instanceMethod New4.yN,
  .code New4.yN New4.yB 6 none, .fieldLink ST 38 ST "COMPACT_STRINGS" "Z", .laysFinal ST ST "value" "[B", .fieldLink ST 9 ST "value" "[B", .laysFinal ST ST "coder" "B", .fieldLink ST 15 ST "coder" "B",
  .methodLink ST 1 Lib.objectInit, .instanceMethod Lib.objectInit, .code Lib.objectInit ⟨#[0xb1]⟩ 1 none, .methodLink ST 177 Cmp3.yN, .static Cmp3.yN, .methodLink ST 47 CodL.yN, .static CodL.yN,
  .code Cmp3.yN Cmp3.yB 6 (some (.array .byte)), .initialized U16, .arrayClass .byte, .methodLink U16 115 Cmp5.yN, .static Cmp5.yN, .code Cmp5.yN Cmp5.yB 7 (some .int), .code CodL.yN CodL.yB 2 (some .byte)]
theorem tab_of {a : Array Value} {s : State} (h : ∀ w ∈ words, w.before a s = true) : New1.tab.before a s = true := by
  have h5 : Cmp5.tab.before a s = true := unparts (wk h (.code Cmp5.yN Cmp5.yB 7 (some .int))) (wks h (.initialized Cmp5.yN.cls :: Cmp5.site))
  have hc : CodL.tab.before a s = true := unparts (wk h (.code CodL.yN CodL.yB 2 (some .byte))) (wks h (.initialized CodL.yN.cls :: CodL.site))
  have q5 : ∀ w ∈ Cmp5.tab :: words, w.before a s = true := fun w hw => (List.mem_cons.mp hw).elim (fun e => e ▸ h5) (h w)
  have h3 : Cmp3.tab.before a s = true := unparts (wk q5 (.code Cmp3.yN Cmp3.yB 6 (some (.array .byte)))) (wks q5 (.initialized Cmp3.yN.cls :: Cmp3.site))
  have q3 : ∀ w ∈ Cmp3.tab :: CodL.tab :: words, w.before a s = true := fun w hw => (List.mem_cons.mp hw).elim (fun e => e ▸ h3) fun hw => (List.mem_cons.mp hw).elim (fun e => e ▸ hc) (h w)
  have h4 : New4.tab.before a s = true := unparts (wk q3 (.code New4.yN New4.yB 6 none)) (wks q3 (.initialized New4.yN.cls :: New4.site))
  have q4 : ∀ w ∈ New4.tab :: words, w.before a s = true := fun w hw => (List.mem_cons.mp hw).elim (fun e => e ▸ h4) (h w)
  exact unparts (wk q4 (.code New1.yN New1.yB 2 none)) (wks q4 (.initialized New1.yN.cls :: New1.site))
/-- the words ride from the start Z to the walk's own state -/
theorem moved {Z s : State} {a0 args : Array Value} (hZ : Z.Warmed39 s.vm) (hw : ∀ d ∈ words, d.before a0 Z = true) : ∀ d ∈ words, d.before args s = true := fun d hd => by
  have q := hw d hd
  have t : ∀ d ∈ words, d = .arrayClass .byte ∨ (d.onTables && d.keepsFace) = true := by decide +kernel
  rcases t d hd with rfl | t
  · exact RoadKit.mvA hZ q
  · exact RoadKit.mv hZ q t
/-- WHAT COMES BACK, over the tables of the start Z: h the heap at the call, h' behind it -/
def Q (Z : State) (x : Addr) (A : Cell) (h : Heap) (v : Option Value) (h' : Heap) (L : List Loc) : Prop := v = none ∧ (∀ y ∈ L, y.base = x) ∧ RoadKit.Keep h h' [x] ∧ h'.size = h.size + 1 ∧ RoadKit.Exa Z h' x ST ∧ RoadKit.Fld Z h' x ST "value" "[B" (.ref h.size) ∧ RoadKit.Fld Z h' x ST "coder" "B" (.int 0) ∧
  (∃ V : Cell, RoadKit.Arr Z h' h.size V .byte ∧ V.vm = .none ∧ Z.vm.findClass "[B" = some V.cls ∧ V.slots.size = A.slots.size ∧ ∀ j, j < A.slots.size → V.slots[j]? = some (.int (lo8 (cv A j)))) ∧
  ∀ (O n d : String) (w : Value), RoadKit.Fld Z h x O n d w → RoadKit.slotOf Z O n d ≠ RoadKit.slotOf Z ST "value" "[B" → RoadKit.slotOf Z O n d ≠ RoadKit.slotOf Z ST "coder" "B" → RoadKit.Fld Z h' x O n d w
/-- **new String(chars) AT A CALL, IN THE ROAD'S FORM**: for specialBack behind newO: x the fresh String, b the char[] with the cell A -/
theorem back {p : Program} {l : Launch} {e : Env} {R : Room} {s : State} {args : Array Value} {below : List Frame} {len W : Nat} {Z : State} {a0 : Array Value} {h : Heap} (hZ : Z.Warmed39 s.vm) (hw : ∀ d ∈ words, d.before a0 Z = true) {kI : Nat} (wi : (Jvm.Cond.instantiable ST kI).before a0 Z = true)
    {x b : Addr} {A : Cell} {z : Int32} {v0 c0 : Value} (E : RoadKit.Exa Z h x ST) (V : RoadKit.Fld Z h x ST "value" "[B" v0) (C : RoadKit.Fld Z h x ST "coder" "B" c0) (K : RoadKit.Arr Z h b A .char) (hty : Typed .char A) (S : RoadKit.Sta Z h ST "COMPACT_STRINGS" "Z" (.int z)) (hz : ¬ z = 0)
    (l0 : 0 < A.slots.size) (l2 : A.slots.size ≤ 536870912) (hp : ∀ i, i < A.slots.size → ¬ 255 < cv A i) (hfr : 4 ≤ R.frames) (hlo : W + 65 ≤ R.locals) :
    Back l R p e below s args New1.yN len W (fun P a => a = #[.ref x, .ref b] ∧ P.U.heap = h ∧ P.cells + 1 ≤ R.cells ∧ P.slots + A.slots.size ≤ R.slots)
      (fun P _ v B => ∃ L, Q Z x A h v B.U.heap L ∧ B.locs = P.locs ++ L ∧ B.cells = P.cells + 1 ∧ B.slots = P.slots + A.slots.size) := by
  intro m meth c P g ig mk a X hg hsize hdg hW hn hp'
  obtain ⟨rfl, rfl, r1, r2⟩ := hp'
  have al : Z.vm.Alike P.U.vm := hZ.alike.trans X.warmed.alike
  obtain ⟨D, cfV, kV, iV, fV, hD, gV, stV, knV, obV, asV, slV⟩ := id V
  obtain ⟨D', cfC, kC, iC, fC, hD', gC, stC, -, -, asC, slC⟩ := id C
  cases hD.symm.trans hD'
  obtain ⟨D2, kD, e1, e2, e3, e4, e5⟩ := id E
  cases hD.symm.trans e1
  obtain ⟨c2, k2, i1, i2, i3, -⟩ := Cond.instantiable_spec wi
  cases e2.symm.trans i1
  cases e3.symm.trans i2
  obtain ⟨kU, u1, u2⟩ := al.2.2 _ _ e3
  have hB : Blank ST x D P.U := ⟨hD, ⟨knV, fun q hq => by rw [hq] at obV; cases obV⟩, by rw [al.findClass]; exact e2, kU, u1, by rw [u2]; exact i3, by rw [u2]; exact e5 i3⟩
  have F1 : Found ST "value" "[B" fV P.U := ⟨SBG.found_only al ⟨cfV, kV, iV, gV⟩, stV⟩
  have F2 : Found ST "coder" "B" fC P.U := ⟨SBG.found_only al ⟨cfC, kC, iC, gC⟩, stC⟩
  have hA : Ch b A P.U := ⟨⟨K.1, State.isArrayOf_alike al K.2.1, K.2.2, by omega⟩, hty⟩
  have hS : StaticIs P.U ST "COMPACT_STRINGS" "Z" (.int z) := by
    obtain ⟨cfS, iS, kS, fS, st, cS, t1, t2, t3, t4, t5, t6, t7⟩ := S
    exact StaticIs.there (s := { Z with heap := P.U.heap }) ⟨cfS, iS, kS, fS, st, cS, t1, t2, t3, t4, t5, (fun q => by rw [q] at t6; cases t6), t7⟩ al rfl
  obtain ⟨v, B, X', ⟨⟨hv, E', V', q1, q2, q3, q4, q5, q6, q7, q8, q9, q10, q11⟩, hl, hc, hs⟩, st⟩ := New1.pays x D fV fC b A z (tab_of (moved hZ hw)) hfr hlo m meth c P g ig mk _ X hg hsize hdg hW hn ⟨r1, r2, rfl, hB, F1, F2, hA, hS, hz, l0, l2, hp⟩
  have al' : Z.vm.Alike B.U.vm := hZ.alike.trans X'.warmed.alike
  have hsz : E'.slots.size = D.slots.size := by
    obtain ⟨-, -, -, kB, w1, w2, w3⟩ := q1
    obtain ⟨kB', y1, y2⟩ := al'.2.2 _ _ e3
    rw [q2.2.1] at w1
    cases w1.symm.trans y1
    rw [w3, e5 i3, y2]
  refine ⟨v, B, X', ⟨_, ⟨hv, ?_, ⟨by omega, fun y cy hy hn' => q10 y cy (by simpa using hn') hy, fun y cy hy => ?_⟩, q11, ⟨E', _, q1.1, by rw [q2.2.1]; exact e2, by rw [q2.2.1]; exact e3, by rw [q2.1]; exact obV, fun _ => by rw [hsz]; exact e5 i3⟩,
    ⟨E', cfV, kV, iV, fV, q1.1, gV, stV, by rw [q2.1]; exact knV, by rw [q2.1]; exact obV, by rw [q2.2.1]; exact asV, q3⟩, ⟨E', cfC, kC, iC, fC, q1.1, gC, stC, by rw [q2.1]; exact knV, by rw [q2.1]; exact obV, by rw [q2.2.1]; exact asC, q4⟩,
    ⟨V', ⟨q5.1, State.isArrayOf_alike al'.symm q5.2.1, q5.2.2.1⟩, q6, by rw [← al'.findClass]; exact q7, q8, fun j hj => by have := q9 j hj; rwa [Nat.zero_add] at this⟩, fun O n d w F n1 n2 => ?_⟩, hl, hc, hs⟩, st⟩
  · intro y hy
    simp only [List.mem_cons, List.not_mem_nil, or_false] at hy
    rcases hy with rfl | rfl <;> rfl
  · by_cases q : y = x
    · subst q
      cases hD.symm.trans hy
      exact ⟨E', q1.1, q2.2.1, q2.1, hsz⟩
    · exact ⟨cy, q10 y cy q hy, rfl, rfl, rfl⟩
  · obtain ⟨D3, cf, k, i, f, g1, g2, g3, g4, g5, g6, g7⟩ := F
    cases hD.symm.trans g1
    simp only [RoadKit.slotOf, g2, gV, gC, Option.map_some, Option.getD_some] at n1 n2
    exact ⟨E', cf, k, i, f, q1.1, g2, g3, by rw [q2.1]; exact g4, by rw [q2.1]; exact g5, by rw [q2.2.1]; exact g6, by rw [q2.2.2 f.slot (by simp [n1, n2])]; exact g7⟩
end StrChars.Road
namespace StrChars.Road
open Jvm Sem ClassFile Op Lib Jvm.Stand Jvm.Free Jvm.Free.XT
/-- WHAT COMES BACK, the byte[] as a list of values -/
def QA (Z : State) (x : Addr) (zn : Int32) (cs : List Int32) (h : Heap) (v : Option Value) (h' : Heap) (L : List Loc) : Prop := v = none ∧ (∀ y ∈ L, y.base = x) ∧ RoadKit.Keep h h' [x] ∧ h'.size = h.size + 1 ∧ RoadKit.Exa Z h' x ST ∧ RoadKit.Fld Z h' x ST "value" "[B" (.ref h.size) ∧ RoadKit.Fld Z h' x ST "coder" "B" (.int 0) ∧
  (∃ kb, Z.vm.findClass "[B" = some kb ∧ RoadKit.Arv Z h' h.size kb .byte zn (cs.map fun c => .int (lo8 c)) (.int 0)) ∧
  ∀ (O n d : String) (w : Value), RoadKit.Fld Z h x O n d w → RoadKit.slotOf Z O n d ≠ RoadKit.slotOf Z ST "value" "[B" → RoadKit.slotOf Z O n d ≠ RoadKit.slotOf Z ST "coder" "B" → RoadKit.Fld Z h' x O n d w
/-- **new String(chars) AT A CALL, THE ARRAYS AS LISTS**: the char[] at b holds cs, not empty, no char above 255 -/
theorem backArv {p : Program} {l : Launch} {e : Env} {R : Room} {s : State} {args : Array Value} {below : List Frame} {len W : Nat} {Z : State} {a0 : Array Value} {h : Heap} (hZ : Z.Warmed39 s.vm) (hw : ∀ d ∈ words, d.before a0 Z = true) {kI : Nat} (wi : (Jvm.Cond.instantiable ST kI).before a0 Z = true)
    {x b : Addr} {k : ClassId} {zn z : Int32} {cs : List Int32} {dv v0 c0 : Value} (E : RoadKit.Exa Z h x ST) (V : RoadKit.Fld Z h x ST "value" "[B" v0) (C : RoadKit.Fld Z h x ST "coder" "B" c0) (K : RoadKit.Arv Z h b k .char zn (cs.map Value.int) dv) (S : RoadKit.Sta Z h ST "COMPACT_STRINGS" "Z" (.int z)) (hz : ¬ z = 0)
    (hlen : zn.toNatClampNeg = cs.length) (h0 : 0 < cs.length) (hbig : cs.length ≤ 536870912) (hall : ∀ c ∈ cs, ¬ 255 < c) (hfr : 4 ≤ R.frames) (hlo : W + 65 ≤ R.locals) :
    Back l R p e below s args New1.yN len W (fun P a => a = #[.ref x, .ref b] ∧ P.U.heap = h ∧ P.cells + 1 ≤ R.cells ∧ P.slots + cs.length ≤ R.slots)
      (fun P _ v B => ∃ L, QA Z x zn cs h v B.U.heap L ∧ B.locs = P.locs ++ L ∧ B.cells = P.cells + 1 ∧ B.slots = P.slots + cs.length) := by
  obtain ⟨A, K1, K2, K3, K4, K5, K6⟩ := K
  have e : A.slots.size = cs.length := K3.trans hlen
  have hat : ∀ (i : Nat) (hi : i < cs.length), A.slots[i]? = some (.int cs[i]) := fun i hi => by rw [K5 i (by omega)]; simp [List.getD_eq_getElem?_getD, hi]
  have hcv : ∀ (i : Nat) (hi : i < cs.length), cv A i = cs[i] := fun i hi => by unfold cv; rw [hat i hi]
  have hty : Typed .char A := fun i v hv => by
    have hi : i < A.slots.size := (Array.getElem?_eq_some_iff.mp hv).1
    have q := K5 i hi
    rw [hv] at q
    rw [Option.some.inj q]
    exact K6 i hi
  refine Back.mono (back hZ hw wi E V C K1 hty S hz (by omega) (by omega) (fun i hi => by rw [hcv i (by omega)]; exact hall _ (List.getElem_mem _)) hfr hlo) (fun P a hp => ⟨hp.1, hp.2.1, hp.2.2.1, by rw [e]; exact hp.2.2.2⟩) (fun P a v B hp hq => ?_)
  obtain ⟨L, ⟨q1, q2, q3, q4, q5, q6, q7, ⟨V', v1, v2, v3, v4, v5⟩, q9⟩, hl, hc, hs⟩ := hq
  refine ⟨L, ⟨q1, q2, q3, q4, q5, q6, q7, ⟨V'.cls, v3, V', v1, rfl, by rw [v4, e, hlen], K4, fun i hi => ?_, fun i hi => ?_⟩, q9⟩, hl, hc, by rw [hs, e]⟩
  · have hi' : i < cs.length := by omega
    rw [v5 i (by omega), hcv i hi']; simp [List.getD_eq_getElem?_getD, hi']
  · have hi' : i < cs.length := by omega
    simp only [List.getD_eq_getElem?_getD, List.getElem?_map, List.getElem?_eq_getElem hi', Option.map_some, Option.getD_some]
    exact fits_lo8 _
end StrChars.Road
namespace StrChars.Road
open Jvm Sem ClassFile Op Lib Jvm.Stand Jvm.Free Jvm.Free.XT
/-- WHAT COMES BACK, in the writer's own shape -/
def QV (Z : State) (x : Addr) (N : Int32) (bs : List Int32) (h : Heap) (n0 : Nat) (v : Option Value) (h' : Heap) (L : List Loc) : Prop := v = none ∧ RoadKit.Fr n0 L ∧ RoadKit.Keep h h' [x] ∧ RoadKit.Exa Z h' x ST ∧ RoadKit.Fld Z h' x ST "coder" "B" (.int 0) ∧
  ∃ (t : Addr) (kb : ClassId), n0 ≤ t ∧ h.size ≤ t ∧ ¬ t = x ∧ RoadKit.Fld Z h' x ST "value" "[B" (.ref t) ∧ RoadKit.Arv Z h' t kb .byte N (bs.map Value.int) (.int 0)
/-- **new String(chars) AT A CALL, FOR THE WRITER**: a char[] of n known ints, each 0 to 255 -/
theorem backV {p : Program} {l : Launch} {e : Env} {R : Room} {s : State} {args : Array Value} {below : List Frame} {len W : Nat} {Z : State} {a0 : Array Value} {h : Heap} (hZ : Z.Warmed39 s.vm) (hw : ∀ d ∈ words, d.before a0 Z = true) {kI : Nat} (wi : (Jvm.Cond.instantiable ST kI).before a0 Z = true)
    {x b : Addr} {kC : ClassId} {cs bs : List Int32} {d v0 c0 : Value} {z N : Int32} {n n0 : Nat} (hx0 : n0 ≤ x) (hh0 : n0 ≤ h.size) (E : RoadKit.Exa Z h x ST) (V : RoadKit.Fld Z h x ST "value" "[B" v0) (C : RoadKit.Fld Z h x ST "coder" "B" c0) (K : RoadKit.Arv Z h b kC .char N (cs.map Value.int) d) (S : RoadKit.Sta Z h ST "COMPACT_STRINGS" "Z" (.int z)) (hz : ¬ z = 0)
    (hn : cs.length = n) (hN : N = Int32.ofNat n) (l0 : 0 < n) (l2 : n ≤ 4000) (hp : ∀ c ∈ cs, ¬ c < 0 ∧ ¬ (255 : Int32) < c) (hb : bs = cs.map (fun c => c.toInt8.toInt32)) (hfr : 4 ≤ R.frames) (hlo : W + 65 ≤ R.locals) :
    Back l R p e below s args (⟨"java/lang/String", "<init>", "([C)V"⟩ : MethodName) len W (fun P a => a = #[.ref x, .ref b] ∧ P.U.heap = h ∧ P.cells + 1 ≤ R.cells ∧ P.slots + n ≤ R.slots)
      (fun P _ v B => ∃ L, QV Z x N bs h n0 v B.U.heap L ∧ B.locs = P.locs ++ L ∧ B.cells = P.cells + 1 ∧ B.slots = P.slots + n) := by
  subst hn hN hb
  refine Back.mono (backArv hZ hw wi E V C K S hz (n32 (by omega)) l0 (by omega) (fun c hc => (hp c hc).2) hfr hlo) (fun P a hp => hp) (fun P a v B hp hq => ?_)
  obtain ⟨L, ⟨q1, q2, q3, q4, q5, q6, q7, ⟨kb, v1, v2⟩, q9⟩, hl, hc, hs⟩ := hq
  exact ⟨L, ⟨q1, fun y hy => by rw [q2 y hy]; exact hx0, q3, q5, q7, h.size, kb, hh0, Nat.le_refl _, Nat.ne_of_gt E.lt, q6, by rw [List.map_map]; exact v2⟩, hl, hc, hs⟩
end StrChars.Road
namespace StrChars
open Jvm Sem ClassFile Op Lib Jvm.Stand Jvm.Free.XT Jvm.Free.ALB Jvm.Free.JM Jvm.Free
open Jvm.Lib.Cold (StaticIs)
def hi8 (x : Int32) : Int32 := lo8 (x >>> ((8 : Int32) &&& 31))
/-- what StringUTF16.getChar makes of two bytes -/
def pairCh (u v : Int32) : Int32 := (((u &&& 255) <<< ((0 : Int32) &&& 31)) ||| ((v &&& 255) <<< ((8 : Int32) &&& 31))).toUInt32.toUInt16.toUInt32.toInt32
theorem lo8_and (x : Int32) : (lo8 x &&& 255).toBitVec.toNat = x.toBitVec.toNat % 256 := by
  have h : (lo8 x).toBitVec = (x.toBitVec.signExtend 8).signExtend 32 := by rw [lo8, Int8.toBitVec_toInt32, Int32.toBitVec_toInt8]
  rw [Int32.toBitVec_and, BitVec.toNat_and, h]
  have e : ((x.toBitVec.signExtend 8).signExtend 32).toNat % 256 = x.toBitVec.toNat % 256 := by
    rw [BitVec.toNat_signExtend]
    have hlt := x.toBitVec.isLt
    simp only [BitVec.toNat_setWidth, BitVec.toNat_signExtend]
    split <;> split <;> omega
  rw [← e]
  exact Nat.and_two_pow_sub_one_eq_mod _ 8
theorem pair_says {c : Int32} (h0 : ¬ c < 0) (h1 : ¬ 65535 < c) : pairCh (lo8 c) (hi8 c) = c := by
  rw [Int32.lt_iff_toInt_lt] at h0 h1
  have e0 : (0 : Int32).toInt = 0 := rfl
  have e1 : (65535 : Int32).toInt = 65535 := rfl
  have hc : c.toInt = c.toBitVec.toNat := by
    have := c.toBitVec.isLt
    have e : c.toInt = c.toBitVec.toInt := rfl
    rw [e] at h0 h1
    rw [e]
    rw [BitVec.toInt_eq_toNat_cond] at h0 h1 ⊢
    split at h0 <;> split <;> omega
  have hn : c.toBitVec.toNat < 65536 := by omega
  have a1 := lo8_and c
  have a2 : (hi8 c &&& 255).toBitVec.toNat = c.toBitVec.toNat / 256 := by
    rw [hi8, lo8_and]
    have e : ((8 : Int32) &&& 31) = 8 := by decide
    rw [e, Int32.toBitVec_shiftRight]
    have e2 : ((8 : Int32).toBitVec.smod 32) = 8#32 := by decide
    rw [e2, BitVec.sshiftRight_eq', BitVec.toNat_sshiftRight_of_msb_false (by rw [BitVec.msb_eq_false_iff_two_mul_lt]; omega)]
    show c.toBitVec.toNat >>> 8 % 256 = _
    rw [Nat.shiftRight_eq_div_pow]
    omega
  unfold pairCh
  apply Int32.toBitVec_inj.mp
  apply BitVec.eq_of_toNat_eq
  have f0 : ((0 : Int32) &&& 31) = 0 := by decide
  have f8 : ((8 : Int32) &&& 31) = 8 := by decide
  rw [f0, f8]
  have g : (((lo8 c &&& 255) <<< (0 : Int32)) ||| ((hi8 c &&& 255) <<< (8 : Int32))).toBitVec.toNat = c.toBitVec.toNat := by
    rw [Int32.toBitVec_or, Int32.toBitVec_shiftLeft, Int32.toBitVec_shiftLeft]
    have s0 : ((0 : Int32).toBitVec.smod 32) = 0#32 := by decide
    have s8 : ((8 : Int32).toBitVec.smod 32) = 8#32 := by decide
    rw [s0, s8, BitVec.toNat_or]
    simp only [BitVec.shiftLeft_eq', BitVec.toNat_shiftLeft, a1, a2]
    show (c.toBitVec.toNat % 256) <<< 0 % 2 ^ 32 ||| (c.toBitVec.toNat / 256) <<< 8 % 2 ^ 32 = _
    rw [Nat.shiftLeft_zero, Nat.mod_eq_of_lt (show c.toBitVec.toNat % 256 < 2 ^ 32 by omega), Nat.mod_eq_of_lt (show (c.toBitVec.toNat / 256) <<< 8 < 2 ^ 32 by rw [Nat.shiftLeft_eq]; omega), Nat.or_comm, ← Nat.shiftLeft_add_eq_or_of_lt (by omega), Nat.shiftLeft_eq]
    omega
  show BitVec.toNat (((((lo8 c &&& 255) <<< (0 : Int32)) ||| ((hi8 c &&& 255) <<< (8 : Int32))).toBitVec.setWidth 16).setWidth 32) = _
  rw [BitVec.toNat_setWidth, BitVec.toNat_setWidth, g]
  omega
end StrChars
namespace StrChars
open Jvm Sem ClassFile Op Lib Jvm.Stand Jvm.Free.XT Jvm.Free.ALB Jvm.Free.JM Jvm.Free
open Jvm.Lib.Cold (StaticIs)
/-- the array's cell V codes the n chars f 0 .. f (n - 1) by the coder cd, as the JDK does: coder 1 just where some char is above 255 -/
def Cod (cd : Int32) (n : Nat) (f : Nat → Int32) (V : Cell) : Prop := (cd = 0 ∧ V.slots.size = n ∧ ∀ j, j < n → V.slots[j]? = some (.int (lo8 (f j))) ∧ ¬ 255 < f j) ∨ (cd = 1 ∧ V.slots.size = 2 * n ∧ (∀ j, j < n → V.slots[2 * j]? = some (.int (lo8 (f j))) ∧ V.slots[2 * j + 1]? = some (.int (hi8 (f j)))) ∧ ∃ j, j < n ∧ 255 < f j)
/-- **x is a String of the n chars f 0 .. f (n - 1)**, Latin-1 or UTF-16; its array at t has the cell V -/
def Txt (x t : Addr) (V : Cell) (cd : Int32) (n : Nat) (f : Nat → Int32) (U : State) : Prop := Exact "java/lang/String" x U ∧ Has x "java/lang/String" "value" "[B" (.ref t) U ∧ Has x "java/lang/String" "coder" "B" (.int cd) U ∧ XT.Arr .byte t V U ∧ Cod cd n f V ∧ ∀ j, j < n → ¬ f j < 0 ∧ ¬ 65535 < f j
theorem Txt.mv {x t : Addr} {V : Cell} {cd : Int32} {n : Nat} {f : Nat → Int32} {U U' : State} (h : Txt x t V cd n f U) (hal : U.vm.Alike U'.vm) (hh : U'.heap = U.heap) : Txt x t V cd n f U' := ⟨h.1.mv hal hh, h.2.1.mv hal hh, h.2.2.1.mv hal hh, h.2.2.2.1.mv hal hh, h.2.2.2.2⟩
end StrChars
namespace StrChars.Road
open Jvm Sem ClassFile Op Lib Jvm.Stand Jvm.Free Jvm.Free.XT
open Jvm.Lib.Cold (StaticIs)
theorem consq {a : Array Value} {s : State} {c : Jvm.Cond} {L : List Jvm.Cond} (h0 : c.before a s = true) (h : ∀ w ∈ L, w.before a s = true) : ∀ w ∈ c :: L, w.before a s = true := fun w hw => (List.mem_cons.mp hw).elim (fun e => e ▸ h0) (h w)
/-- the bytes of the chars cs, low before high -/
def wideBytes : List Int32 → List Value
  | [] => []
  | c :: cs => .int (lo8 c) :: .int (hi8 c) :: wideBytes cs
theorem wide_lo (d : Value) : ∀ (cs : List Int32) (j : Nat), j < cs.length → (wideBytes cs).getD (2 * j) d = .int (lo8 (cs.getD j 0))
  | [], j, h => absurd h (Nat.not_lt_zero j)
  | c :: cs, 0, _ => rfl
  | c :: cs, j + 1, h => by
    have q := wide_lo d cs j (by simpa using h)
    rw [show 2 * (j + 1) = 2 * j + 1 + 1 from by omega]
    simpa [wideBytes] using q
theorem wide_hi (d : Value) : ∀ (cs : List Int32) (j : Nat), j < cs.length → (wideBytes cs).getD (2 * j + 1) d = .int (hi8 (cs.getD j 0))
  | [], j, h => absurd h (Nat.not_lt_zero j)
  | c :: cs, 0, _ => rfl
  | c :: cs, j + 1, h => by
    have q := wide_hi d cs j (by simpa using h)
    rw [show 2 * (j + 1) + 1 = 2 * j + 1 + 1 + 1 from by omega]
    simpa [wideBytes] using q
theorem low_at (d : Value) (cs : List Int32) (j : Nat) (h : j < cs.length) : (cs.map fun c => Value.int (lo8 c)).getD j d = .int (lo8 (cs.getD j 0)) := by
  simp [List.getD_eq_getElem?_getD, h]
/-- an array of N2 bytes vs codes the chars cs by the coder cd -/
def CodA (cs : List Int32) (cd N2 : Int32) (vs : List Value) : Prop := (cd = 0 ∧ N2 = Int32.ofNat cs.length ∧ vs = (cs.map fun c => Value.int (lo8 c)) ∧ ∀ c ∈ cs, ¬ 255 < c) ∨ (cd = 1 ∧ N2 = Int32.ofNat (2 * cs.length) ∧ vs = wideBytes cs ∧ ∃ c ∈ cs, 255 < c)
theorem CodA.cod {cs : List Int32} {cd N2 : Int32} {vs : List Value} {V : Cell} (h : CodA cs cd N2 vs) (hn : 2 * cs.length < 2 ^ 31) (hs : V.slots.size = N2.toNatClampNeg) (hv : RoadKit.Has V vs (.int 0)) : Cod cd cs.length (fun j => cs.getD j 0) V := by
  rcases h with ⟨rfl, rfl, rfl, h⟩ | ⟨rfl, rfl, rfl, c, hc, hw⟩
  · rw [n32 (by omega)] at hs
    exact Or.inl ⟨rfl, hs, fun j hj => ⟨by rw [hv j (by omega), low_at _ _ _ hj], by
      have e : cs.getD j 0 = cs[j] := by simp [List.getD_eq_getElem?_getD, hj]
      show ¬ 255 < cs.getD j 0
      rw [e]; exact h _ (List.getElem_mem _)⟩⟩
  · rw [n32 (by omega)] at hs
    obtain ⟨j, hj, rfl⟩ := List.getElem_of_mem hc
    exact Or.inr ⟨rfl, hs, fun j hj => ⟨by rw [hv _ (by omega), wide_lo _ _ _ hj], by rw [hv _ (by omega), wide_hi _ _ _ hj]⟩, j, hj, by
      have e : cs.getD j 0 = cs[j] := by simp [List.getD_eq_getElem?_getD, hj]
      show 255 < cs.getD j 0
      rw [e]; exact hw⟩
/-- an object of exactly java/lang/String, its two fields found: as the laws ask it -/
theorem strObj {Z U : State} {a0 : Array Value} {kI : Nat} (wi : (Jvm.Cond.instantiable ST kI).before a0 Z = true) (al : Z.vm.Alike U.vm) {x : Addr} {v0 c0 : Value} (E : RoadKit.Exa Z U.heap x ST) (V : RoadKit.Fld Z U.heap x ST "value" "[B" v0) (C : RoadKit.Fld Z U.heap x ST "coder" "B" c0) :
    ∃ (D : Cell) (fV fC : Field), Blank ST x D U ∧ Found ST "value" "[B" fV U ∧ Found ST "coder" "B" fC U ∧ D.slots[fV.slot]? = some v0 ∧ D.slots[fC.slot]? = some c0 ∧ RoadKit.slotOf Z ST "value" "[B" = fV.slot ∧ RoadKit.slotOf Z ST "coder" "B" = fC.slot := by
  obtain ⟨D, cfV, kV, iV, fV, hD, gV, stV, knV, obV, asV, slV⟩ := V
  obtain ⟨D', cfC, kC, iC, fC, hD', gC, stC, -, -, asC, slC⟩ := C
  cases hD.symm.trans hD'
  obtain ⟨D2, kD, e1, e2, e3, e4, e5⟩ := E
  cases hD.symm.trans e1
  obtain ⟨c2, k2, i1, i2, i3, -⟩ := Cond.instantiable_spec wi
  cases e2.symm.trans i1
  cases e3.symm.trans i2
  obtain ⟨kU, u1, u2⟩ := al.2.2 _ _ e3
  exact ⟨D, fV, fC, ⟨hD, ⟨knV, fun q hq => by rw [hq] at obV; cases obV⟩, by rw [al.findClass]; exact e2, kU, u1, by rw [u2]; exact i3, by rw [u2]; exact e5 i3⟩, ⟨SBG.found_only al ⟨cfV, kV, iV, gV⟩, stV⟩, ⟨SBG.found_only al ⟨cfC, kC, iC, gC⟩, stC⟩, slV, slC, by simp [RoadKit.slotOf, gV], by simp [RoadKit.slotOf, gC]⟩
theorem sta_is {Z U : State} (al : Z.vm.Alike U.vm) {C n d : String} {v : Value} (S : RoadKit.Sta Z U.heap C n d v) : StaticIs U C n d v := by
  obtain ⟨cfS, iS, kS, fS, st, cS, t1, t2, t3, t4, t5, t6, t7⟩ := S
  exact StaticIs.there (s := { Z with heap := U.heap }) ⟨cfS, iS, kS, fS, st, cS, t1, t2, t3, t4, t5, (fun q => by rw [q] at t6; cases t6), t7⟩ al rfl
end StrChars.Road
namespace StrChars
open Jvm Sem ClassFile Op Lib Jvm.Stand Jvm.Free.XT Jvm.Free.ALB Jvm.Free.JM Jvm.Free
open Jvm.Lib.Cold (StaticIs)
/-- what place i of a byte[]'s cell holds -/
def yv (A : Cell) (i : Nat) : Int32 := match A.slots[i]? with | some (.int x) => x | _ => 0
theorem yv_get {a : Addr} {A : Cell} {U : State} (h : XT.Arr .byte a A U) (ht : Typed .byte A) {i : Nat} (hi : i < A.slots.size) : A.slots[i]? = some (.int (yv A i)) := by
  have e := Array.getElem?_eq_getElem hi
  have f := ht i _ e
  unfold yv; rw [e]
  generalize A.slots[i] = v at f
  cases v <;> simp [fits] at f ⊢
/-- the two arrays are equal, place for place -/
def EqC (A B : Cell) : Prop := A.slots.size = B.slots.size ∧ ∀ i, i < A.slots.size → yv A i = yv B i
/-- a boolean that says whether p -/
def Says01 (q : Prop) (r : Option Value) (s u : State) : Prop := ∃ v : Int32, r = some (.int v) ∧ u.heap = s.heap ∧ ((v = 1 ∧ q) ∨ (v = 0 ∧ ¬ q))
theorem Says01.mv {q : Prop} : ∀ r (U U' V V' : State), U'.heap = U.heap → V.vm.Alike V'.vm → V'.heap = V.heap → Says01 q r U V → Says01 q r U' V' :=
  fun r U U' V V' h1 _ h2 ⟨v, a, b, c⟩ => ⟨v, a, by rw [h1, h2]; exact b, c⟩
namespace LEq
def yN : MethodName := ⟨"java/lang/StringLatin1", "equals", "([B[B)Z"⟩
abbrev yB : ByteArray := jdk_43_method_13_code
theorem d0 : decode yB 0 = .ok (.aload_n 0, 1) := by decide +kernel
theorem d1 : decode yB 1 = .ok (.arraylength, 1) := by decide +kernel
theorem d2 : decode yB 2 = .ok (.aload_n 1, 1) := by decide +kernel
theorem d3 : decode yB 3 = .ok (.arraylength, 1) := by decide +kernel
theorem d4 : decode yB 4 = .ok (.if_icmp (.ne) 30, 3) := by decide +kernel
theorem d7 : decode yB 7 = .ok (.iconst 0, 1) := by decide +kernel
theorem d8 : decode yB 8 = .ok (.istore_n 2, 1) := by decide +kernel
theorem d9 : decode yB 9 = .ok (.iload_n 2, 1) := by decide +kernel
theorem d10 : decode yB 10 = .ok (.aload_n 0, 1) := by decide +kernel
theorem d11 : decode yB 11 = .ok (.arraylength, 1) := by decide +kernel
theorem d12 : decode yB 12 = .ok (.if_icmp (.ge) 20, 3) := by decide +kernel
theorem d15 : decode yB 15 = .ok (.aload_n 0, 1) := by decide +kernel
theorem d16 : decode yB 16 = .ok (.iload_n 2, 1) := by decide +kernel
theorem d17 : decode yB 17 = .ok (.baload, 1) := by decide +kernel
theorem d18 : decode yB 18 = .ok (.aload_n 1, 1) := by decide +kernel
theorem d19 : decode yB 19 = .ok (.iload_n 2, 1) := by decide +kernel
theorem d20 : decode yB 20 = .ok (.baload, 1) := by decide +kernel
theorem d21 : decode yB 21 = .ok (.if_icmp (.eq) 5, 3) := by decide +kernel
theorem d24 : decode yB 24 = .ok (.iconst 0, 1) := by decide +kernel
theorem d25 : decode yB 25 = .ok (.ireturn, 1) := by decide +kernel
theorem d26 : decode yB 26 = .ok (.iinc 2 1, 3) := by decide +kernel
theorem d29 : decode yB 29 = .ok (.goto (-20), 3) := by decide +kernel
theorem d32 : decode yB 32 = .ok (.iconst 1, 1) := by decide +kernel
theorem d33 : decode yB 33 = .ok (.ireturn, 1) := by decide +kernel
theorem d34 : decode yB 34 = .ok (.iconst 0, 1) := by decide +kernel
theorem d35 : decode yB 35 = .ok (.ireturn, 1) := by decide +kernel
def site : List Cond := []
def tab : Cond := tabOf yN yB 3 (some .boolean) site
def P (a : Addr) (A : Cell) (b : Addr) (B : Cell) (args : Array Value) (s : State) : Prop := args = #[.ref a, .ref b] ∧ XT.Arr .byte a A s ∧ Typed .byte A ∧ XT.Arr .byte b B s ∧ Typed .byte B
/-- whether two byte[] are equal, place for place -/
theorem law (l : Launch) (a : Addr) (A : Cell) (b : Addr) (B : Cell) : Law l yN 2 2 0 0 yB 3 (some .boolean) site (P a A b B) (Says01 (EqC A B)) [] 0 0 := by
  refine Law.of_walk (plainFor_of_name (by decide +kernel)) (by decide +kernel) (by decide +kernel) (by decide) (fun _ _ h => by rw [h.1]; rfl) (fun _ U U' hal hh h => ⟨h.1, h.2.1.mv hal hh, h.2.2.1, h.2.2.2.1.mv hal hh, h.2.2.2.2⟩) (fun r U U' V V' h1 hal h2 h => Says01.mv r U U' V V' h1 hal h2 h) ?_
  intro p e s m args below meth c s₁ X0 hexec hbytes hml hret hlk hnm hown hh0 W hP
  obtain ⟨rfl, hA, tA, hB, tB⟩ := hP
  have a31 := hA.2.2.2
  have b31 := hB.2.2.2
  have hA0 := hA.mv X0.warmed.alike hh0
  have hB0 := hB.mv X0.warmed.alike hh0
  have c1 : Steps p.tables e below (s₁.setTop (entryFrame m #[.ref a, .ref b] 3)) (s₁.setTop (mkF m 0 #[.val (.ref a), .val (.ref b), .unset] [])) := entry rfl
  have c2 : Steps p.tables e below (s₁.setTop (entryFrame m #[.ref a, .ref b] 3)) (s₁.setTop (mkF m 4 #[.val (.ref a), .val (.ref b), .unset] [.int (Int32.ofNat B.slots.size), .int (Int32.ofNat A.slots.size)])) := c1.trans (by
    refine XS.aloadN X0.here hexec rfl (hb hbytes d0) rfl rfl ?_
    refine X0.alen hexec hA0 rfl rfl (hb hbytes d1) ?_
    refine XS.aloadN X0.here hexec rfl (hb hbytes d2) rfl rfl ?_
    refine X0.alen hexec hB0 rfl rfl (hb hbytes d3) ?_
    exact Steps.refl _)
  by_cases hs : A.slots.size = B.slots.size
  · have c3 : Steps p.tables e below (s₁.setTop (entryFrame m #[.ref a, .ref b] 3)) (s₁.setTop (mkF m 9 #[.val (.ref a), .val (.ref b), .val (.int 0)] [])) := c2.trans (by
      refine XS.icmpNo X0.here hexec rfl (hb hbytes d4) rfl (ii_ne_f (by rw [hs])) ?_
      refine iconstV X0.here hexec rfl 0 (hb hbytes d7) (by decide) ?_
      refine XS.istoreN X0.here hexec rfl (hb hbytes d8) rfl rfl ?_
      exact Steps.refl _)
    have loop : ∀ (r i : Nat), i + r = A.slots.size → (∀ j, j < i → yv A j = yv B j) → Steps p.tables e below (s₁.setTop (entryFrame m #[.ref a, .ref b] 3)) (s₁.setTop (mkF m 9 #[.val (.ref a), .val (.ref b), .val (.int (Int32.ofNat i))] [])) → ∃ (pc : Nat) (Ls : Array Slot) (v : Int32), (pc = 25 ∨ pc = 33) ∧ ((v = 1 ∧ EqC A B) ∨ (v = 0 ∧ ¬ EqC A B)) ∧ Steps p.tables e below (s₁.setTop (entryFrame m #[.ref a, .ref b] 3)) (s₁.setTop (mkF m pc Ls [.int v])) := by
      intro r
      induction r with
      | zero =>
        intro i hi he cl
        exact ⟨33, _, 1, Or.inr rfl, Or.inl ⟨rfl, hs, fun j hj => he j (by omega)⟩, cl.trans (by
          refine XS.iloadN X0.here hexec rfl (hb hbytes d9) rfl ?_
          refine XS.aloadN X0.here hexec rfl (hb hbytes d10) rfl rfl ?_
          refine X0.alen hexec hA0 rfl rfl (hb hbytes d11) ?_
          refine XS.icmpYes X0.here hexec rfl (pc0 := 12) rfl (hb hbytes d12) rfl (ii_ge_t (nlt32 (by omega) (by omega))) (by decide) rfl ?_
          refine iconstV X0.here hexec rfl 1 (hb hbytes d32) (by decide) ?_
          exact Steps.refl _)⟩
      | succ r ih =>
        intro i hi he cl
        have c4 : Steps p.tables e below (s₁.setTop (entryFrame m #[.ref a, .ref b] 3)) (s₁.setTop (mkF m 21 #[.val (.ref a), .val (.ref b), .val (.int (Int32.ofNat i))] [.int (yv B i), .int (yv A i)])) := cl.trans (by
          refine XS.iloadN X0.here hexec rfl (hb hbytes d9) rfl ?_
          refine XS.aloadN X0.here hexec rfl (hb hbytes d10) rfl rfl ?_
          refine X0.alen hexec hA0 rfl rfl (hb hbytes d11) ?_
          refine XS.icmpNo X0.here hexec rfl (hb hbytes d12) rfl (ii_ge_f (lt32 (by omega) (by omega))) ?_
          refine XS.aloadN X0.here hexec rfl (hb hbytes d15) rfl rfl ?_
          refine XS.iloadN X0.here hexec rfl (hb hbytes d16) rfl ?_
          refine X0.aget hexec hA0 rfl (yv_get hA tA (i := i) (by omega)) rfl rfl (hb hbytes d17) ?_
          refine XS.aloadN X0.here hexec rfl (hb hbytes d18) rfl rfl ?_
          refine XS.iloadN X0.here hexec rfl (hb hbytes d19) rfl ?_
          refine X0.aget hexec hB0 rfl (yv_get hB tB (i := i) (by omega)) rfl rfl (hb hbytes d20) ?_
          exact Steps.refl _)
        by_cases hv : yv A i = yv B i
        · have c5 : Steps p.tables e below (s₁.setTop (entryFrame m #[.ref a, .ref b] 3)) (s₁.setTop (mkF m 9 #[.val (.ref a), .val (.ref b), .val (.int (Int32.ofNat i + 1))] [])) := c4.trans (by
            refine XS.icmpYes X0.here hexec rfl (pc0 := 21) rfl (hb hbytes d21) rfl (ii_eq_t hv) (by decide) rfl ?_
            refine iincV X0.here hexec rfl 1 (hb hbytes d26) (by decide) rfl rfl ?_
            refine XS.goto X0.here hexec rfl (pc0 := 29) rfl (hb hbytes d29) (by decide) rfl ?_
            exact Steps.refl _)
          rw [succ32] at c5
          exact ih (i + 1) (by omega) (fun j hj => by
            by_cases e : j = i
            · rw [e]; exact hv
            · exact he j (by omega)) c5
        · exact ⟨25, _, 0, Or.inl rfl, Or.inr ⟨rfl, fun q => hv (q.2 i (by omega))⟩, c4.trans (by
            refine XS.icmpNo X0.here hexec rfl (hb hbytes d21) rfl (ii_eq_f hv) ?_
            refine iconstV X0.here hexec rfl 0 (hb hbytes d24) (by decide) ?_
            exact Steps.refl _)⟩
    obtain ⟨pc, Ls, v, hpc, hv, cz⟩ := loop A.slots.size 0 (by omega) (fun j hj => absurd hj (Nat.not_lt_zero j)) c3
    have nv : narrow .boolean (.int v) = .int v := by rcases hv with ⟨rfl, -⟩ | ⟨rfl, -⟩ <;> rfl
    rcases hpc with rfl | rfl
    · exact ⟨s₁, some (.int v), _, _, _, X0, rfl, rfl, rfl, (fun h => by cases h), ⟨v, rfl, hh0, hv⟩, fun fs hl => cz.trans (X0.ireturnOut hexec hret nv (Or.inr (Or.inl rfl)) (hb hbytes d25) hl)⟩
    · exact ⟨s₁, some (.int v), _, _, _, X0, rfl, rfl, rfl, (fun h => by cases h), ⟨v, rfl, hh0, hv⟩, fun fs hl => cz.trans (X0.ireturnOut hexec hret nv (Or.inr (Or.inl rfl)) (hb hbytes d33) hl)⟩
  · have c3 : Steps p.tables e below (s₁.setTop (entryFrame m #[.ref a, .ref b] 3)) (s₁.setTop (mkF m 35 #[.val (.ref a), .val (.ref b), .unset] [.int 0])) := c2.trans (by
      refine XS.icmpYes X0.here hexec rfl (pc0 := 4) rfl (hb hbytes d4) rfl (ii_ne_t (ne32 a31 b31 hs)) (by decide) rfl ?_
      refine iconstV X0.here hexec rfl 0 (hb hbytes d34) (by decide) ?_
      exact Steps.refl _)
    exact ⟨s₁, some (.int 0), _, _, _, X0, rfl, rfl, rfl, (fun h => by cases h), ⟨0, rfl, hh0, Or.inr ⟨rfl, fun q => hs q.1⟩⟩, fun fs hl => c3.trans (X0.ireturnOut hexec hret rfl (Or.inr (Or.inl rfl)) (hb hbytes d35) hl)⟩
end LEq
theorem Cod.ty {cd : Int32} {n : Nat} {f : Nat → Int32} {V : Cell} (h : Cod cd n f V) : Typed .byte V := fun i v hv => by
  have hi : i < V.slots.size := (Array.getElem?_eq_some_iff.mp hv).1
  rcases h with ⟨-, k1, k2⟩ | ⟨-, k1, k2, -⟩
  · rw [(k2 i (by omega)).1] at hv; cases hv; exact fits_lo8 _
  · rcases Nat.mod_two_eq_zero_or_one i with e | e
    · obtain ⟨j, rfl⟩ : ∃ j, i = 2 * j := ⟨i / 2, by omega⟩
      rw [(k2 j (by omega)).1] at hv; cases hv; exact fits_lo8 _
    · obtain ⟨j, rfl⟩ : ∃ j, i = 2 * j + 1 := ⟨i / 2, by omega⟩
      rw [(k2 j (by omega)).2] at hv; cases hv; exact fits_lo8 _
/-- the same text -/
def SameT (n : Nat) (f : Nat → Int32) (k : Nat) (g : Nat → Int32) : Prop := n = k ∧ ∀ j, j < n → f j = g j
theorem lo8_inj {x y : Int32} (h0 : ¬ x < 0) (h1 : ¬ 255 < x) (k0 : ¬ y < 0) (k1 : ¬ 255 < y) (h : lo8 x = lo8 y) : x = y := by
  rw [← lo8_mask h0 h1, ← lo8_mask k0 k1, h]
/-- arrays coded by one coder are equal just where the texts are -/
theorem Cod.eqv {cd : Int32} {n k : Nat} {f g : Nat → Int32} {V V' : Cell} (h : Cod cd n f V) (h' : Cod cd k g V') (hf : ∀ j, j < n → ¬ f j < 0 ∧ ¬ 65535 < f j) (hg : ∀ j, j < k → ¬ g j < 0 ∧ ¬ 65535 < g j) : EqC V V' ↔ SameT n f k g := by
  have yvv : ∀ {W : Cell} {i : Nat} {x : Int32}, W.slots[i]? = some (.int x) → yv W i = x := fun q => by unfold yv; rw [q]
  rcases h with ⟨rfl, k1, k2⟩ | ⟨rfl, k1, k2, -⟩
  · rcases h' with ⟨-, m1, m2⟩ | ⟨e, -⟩
    · constructor
      · rintro ⟨e1, e2⟩
        refine ⟨by omega, fun j hj => ?_⟩
        have q := e2 j (by omega)
        rw [yvv (k2 j hj).1, yvv (m2 j (by omega)).1] at q
        exact lo8_inj (hf j hj).1 (k2 j hj).2 (hg j (by omega)).1 (m2 j (by omega)).2 q
      · rintro ⟨rfl, e2⟩
        refine ⟨by omega, fun j hj => ?_⟩
        rw [yvv (k2 j (by omega)).1, yvv (m2 j (by omega)).1, e2 j (by omega)]
    · exact absurd e (by decide)
  · rcases h' with ⟨e, -⟩ | ⟨-, m1, m2, -⟩
    · exact absurd e (by decide)
    · constructor
      · rintro ⟨e1, e2⟩
        refine ⟨by omega, fun j hj => ?_⟩
        have q1 := e2 (2 * j) (by omega)
        have q2 := e2 (2 * j + 1) (by omega)
        rw [yvv (k2 j hj).1, yvv (m2 j (by omega)).1] at q1
        rw [yvv (k2 j hj).2, yvv (m2 j (by omega)).2] at q2
        rw [← pair_says (hf j hj).1 (hf j hj).2, ← pair_says (hg j (by omega)).1 (hg j (by omega)).2, q1, q2]
      · rintro ⟨rfl, e2⟩
        refine ⟨by omega, fun i hi => ?_⟩
        rcases Nat.mod_two_eq_zero_or_one i with e | e
        · obtain ⟨j, rfl⟩ : ∃ j, i = 2 * j := ⟨i / 2, by omega⟩
          rw [yvv (k2 j (by omega)).1, yvv (m2 j (by omega)).1, e2 j (by omega)]
        · obtain ⟨j, rfl⟩ : ∃ j, i = 2 * j + 1 := ⟨i / 2, by omega⟩
          rw [yvv (k2 j (by omega)).2, yvv (m2 j (by omega)).2, e2 j (by omega)]
/-- two codings differ: so do the texts -/
theorem Cod.dif {cd cd' : Int32} {n k : Nat} {f g : Nat → Int32} {V V' : Cell} (h : Cod cd n f V) (h' : Cod cd' k g V') (hne : ¬ cd = cd') : ¬ SameT n f k g := by
  rintro ⟨rfl, e⟩
  rcases h with ⟨rfl, -, k2⟩ | ⟨rfl, -, -, j, hj, hw⟩
  · rcases h' with ⟨rfl, -⟩ | ⟨-, -, -, j, hj, hw⟩
    · exact hne rfl
    · exact (k2 j hj).2 (by rw [e j hj]; exact hw)
  · rcases h' with ⟨-, -, m2⟩ | ⟨rfl, -⟩
    · exact (m2 j hj).2 (by rw [← e j hj]; exact hw)
    · exact hne rfl
/-- an object of exactly C is an instance of C -/
theorem cinst {p : Program} {l : Launch} {e : Env} {R : Room} {s : State} {m : MethodId} {args : Array Value} {below : List Frame} {meth : Method} {c : Code} {T : State} {locs : List Loc} {cells slots : Nat} (X : Stand p l e R s m args below meth c T locs cells slots) (hexec : p.tables.exec = Jvm.exec) {own C : String} {index : Nat} (hown : s.vm.findClass own = some m.cls) (hlink : (Cond.classLink own index C).before args s = true) {a : Addr} (hE : Exact C a T)
    {g : JFrame} (hg : g.method = m) {rest : List Value} (hstack : g.stack = .ref a :: rest) (hdg : decode c.code g.pc = .ok (.instanceof index, 3)) :
    ∃ T', Stand p l e R s m args below meth c T' locs cells slots ∧ T'.heap = T.heap ∧ ∀ target, Steps p.tables e below (T'.setTop { g with pc := g.pc + 3, stack := .int 1 :: rest }) target → Steps p.tables e below (T.setTop g) target := by
  obtain ⟨cB, h1, D, h2, h3, h4⟩ := hE
  have h1' : s.vm.findClass C = some cB := by rw [← X.warmed.alike.findClass]; exact h1
  obtain ⟨vm', X', st⟩ := X.instanceofYes hexec hown hlink h2 h4 h1' (by rw [h3]; exact Jvm.Free.SB.assignable_self _ _) hg hstack hdg
  exact ⟨_, X', rfl, st⟩
theorem cself {p : Program} {l : Launch} {e : Env} {R : Room} {s : State} {m : MethodId} {args : Array Value} {below : List Frame} {meth : Method} {c : Code} {T : State} {locs : List Loc} {cells slots : Nat} (X : Stand p l e R s m args below meth c T locs cells slots) (hexec : p.tables.exec = Jvm.exec) {own C : String} {index : Nat} (hown : s.vm.findClass own = some m.cls) (hlink : (Cond.classLink own index C).before args s = true) {a : Addr} (hE : Exact C a T)
    {g : JFrame} (hg : g.method = m) {rest : List Value} (hstack : g.stack = .ref a :: rest) (hdg : decode c.code g.pc = .ok (.checkcast index, 3)) :
    ∃ T', Stand p l e R s m args below meth c T' locs cells slots ∧ T'.heap = T.heap ∧ ∀ target, Steps p.tables e below (T'.setTop { g with pc := g.pc + 3, stack := .ref a :: rest }) target → Steps p.tables e below (T.setTop g) target := by
  obtain ⟨cB, h1, D, h2, h3, h4⟩ := hE
  have h1' : s.vm.findClass C = some cB := by rw [← X.warmed.alike.findClass]; exact h1
  obtain ⟨vm', X', st⟩ := X.checkcastYes hexec hown hlink h2 h4 h1' (by rw [h3]; exact Jvm.Free.SB.assignable_self _ _) hg hstack hdg
  exact ⟨_, X', rfl, fun t h => st t (by rw [← hstack] at h; exact h)⟩
namespace SEq
def yN : MethodName := ⟨"java/lang/String", "equals", "(Ljava/lang/Object;)Z"⟩
abbrev yB : ByteArray := jdk_42_method_66_code
theorem d0 : decode yB 0 = .ok (.aload_n 0, 1) := by decide +kernel
theorem d1 : decode yB 1 = .ok (.aload_n 1, 1) := by decide +kernel
theorem d2 : decode yB 2 = .ok (.if_acmp (.ne) 5, 3) := by decide +kernel
theorem d5 : decode yB 5 = .ok (.iconst 1, 1) := by decide +kernel
theorem d6 : decode yB 6 = .ok (.ireturn, 1) := by decide +kernel
theorem d7 : decode yB 7 = .ok (.aload_n 1, 1) := by decide +kernel
theorem d8 : decode yB 8 = .ok (.instanceof 10, 3) := by decide +kernel
theorem d11 : decode yB 11 = .ok (.ifCond (.eq) 43, 3) := by decide +kernel
theorem d14 : decode yB 14 = .ok (.aload_n 1, 1) := by decide +kernel
theorem d15 : decode yB 15 = .ok (.checkcast 10, 3) := by decide +kernel
theorem d18 : decode yB 18 = .ok (.astore_n 2, 1) := by decide +kernel
theorem d19 : decode yB 19 = .ok (.getstatic 38, 3) := by decide +kernel
theorem d22 : decode yB 22 = .ok (.ifCond (.eq) 14, 3) := by decide +kernel
theorem d25 : decode yB 25 = .ok (.aload_n 0, 1) := by decide +kernel
theorem d26 : decode yB 26 = .ok (.getfield 15, 3) := by decide +kernel
theorem d29 : decode yB 29 = .ok (.aload_n 2, 1) := by decide +kernel
theorem d30 : decode yB 30 = .ok (.getfield 15, 3) := by decide +kernel
theorem d33 : decode yB 33 = .ok (.if_icmp (.ne) 21, 3) := by decide +kernel
theorem d36 : decode yB 36 = .ok (.aload_n 0, 1) := by decide +kernel
theorem d37 : decode yB 37 = .ok (.getfield 9, 3) := by decide +kernel
theorem d40 : decode yB 40 = .ok (.aload_n 2, 1) := by decide +kernel
theorem d41 : decode yB 41 = .ok (.getfield 9, 3) := by decide +kernel
theorem d44 : decode yB 44 = .ok (.invokestatic 541, 3) := by decide +kernel
theorem d47 : decode yB 47 = .ok (.ifCond (.eq) 7, 3) := by decide +kernel
theorem d50 : decode yB 50 = .ok (.iconst 1, 1) := by decide +kernel
theorem d51 : decode yB 51 = .ok (.goto 4, 3) := by decide +kernel
theorem d54 : decode yB 54 = .ok (.iconst 0, 1) := by decide +kernel
theorem d55 : decode yB 55 = .ok (.ireturn, 1) := by decide +kernel
def site : List Cond := [.classLink "java/lang/String" 10 "java/lang/String", .fieldLink "java/lang/String" 38 "java/lang/String" "COMPACT_STRINGS" "Z", .fieldLink "java/lang/String" 15 "java/lang/String" "coder" "B", .fieldLink "java/lang/String" 9 "java/lang/String" "value" "[B", LEq.tab] ++ staticW "java/lang/String" 541 LEq.yN
def tab : Cond := tabOf yN yB 3 (some .boolean) site
def P (x t : Addr) (V : Cell) (cd : Int32) (n : Nat) (f : Nat → Int32) (y t' : Addr) (V' : Cell) (cd' : Int32) (k : Nat) (g : Nat → Int32) (z : Int32) (args : Array Value) (s : State) : Prop := args = #[.ref x, .ref y] ∧ Txt x t V cd n f s ∧ Txt y t' V' cd' k g s ∧ StaticIs s "java/lang/String" "COMPACT_STRINGS" "Z" (.int z) ∧ ¬ z = 0
/-- equals(Object) of two Strings: whether the texts are the same -/
theorem law (l : Launch) (x t : Addr) (V : Cell) (cd : Int32) (n : Nat) (f : Nat → Int32) (y t' : Addr) (V' : Cell) (cd' : Int32) (k : Nat) (g : Nat → Int32) (z : Int32) : Law l yN 2 1 1 14 yB 3 (some .boolean) site (P x t V cd n f y t' V' cd' k g z) (Says01 (SameT n f k g)) [] 0 0 := by
  refine Law.of_walk (plainFor_of_name (by decide +kernel)) (by decide +kernel) (by decide +kernel) (by decide) (fun _ _ h => by rw [h.1]; rfl) (fun _ U U' hal hh h => ⟨h.1, h.2.1.mv hal hh, h.2.2.1.mv hal hh, h.2.2.2.1.there hal hh, h.2.2.2.2⟩) (fun r U U' V V' h1 hal h2 h => Says01.mv r U U' V V' h1 hal h2 h) ?_
  intro p e s m args below meth c s₁ X0 hexec hbytes hml hret hlk hnm hown hh0 W hP
  obtain ⟨rfl, hx, hy, s1, hz⟩ := hP
  have c1 : Steps p.tables e below (s₁.setTop (entryFrame m #[.ref x, .ref y] 3)) (s₁.setTop (mkF m 2 #[.val (.ref x), .val (.ref y), .unset] [.ref y, .ref x])) := Steps.trans (entry rfl) (by
    show Steps p.tables e below (s₁.setTop (mkF m 0 #[.val (.ref x), .val (.ref y), .unset] [])) _
    refine XS.aloadN X0.here hexec rfl (hb hbytes d0) rfl rfl ?_
    refine XS.aloadN X0.here hexec rfl (hb hbytes d1) rfl rfl ?_
    exact Steps.refl _)
  by_cases hxy : x = y
  · have c2 : Steps p.tables e below (s₁.setTop (entryFrame m #[.ref x, .ref y] 3)) (s₁.setTop (mkF m 6 #[.val (.ref x), .val (.ref y), .unset] [.int 1])) := c1.trans (by
      refine acmpNo X0.here hexec rfl (hb hbytes d2) rfl rfl rfl (by simp [acmp, hxy]) ?_
      refine iconstV X0.here hexec rfl 1 (hb hbytes d5) (by decide) ?_
      exact Steps.refl _)
    subst hxy
    have ec : cd = cd' := by
      obtain ⟨D, fd, a1, a2, a3⟩ := hx.2.2.1
      obtain ⟨D', fd', b1, b2, b3⟩ := hy.2.2.1
      cases a1.symm.trans b1
      obtain ⟨q1, q2, q3, q4⟩ := a2.1
      obtain ⟨r1, r2, r3, r4⟩ := b2.1
      cases q4.symm.trans r4
      cases a3.symm.trans b3; rfl
    have et : t = t' := by
      obtain ⟨D, fd, a1, a2, a3⟩ := hx.2.1
      obtain ⟨D', fd', b1, b2, b3⟩ := hy.2.1
      cases a1.symm.trans b1
      obtain ⟨q1, q2, q3, q4⟩ := a2.1
      obtain ⟨r1, r2, r3, r4⟩ := b2.1
      cases q4.symm.trans r4
      cases a3.symm.trans b3; rfl
    subst ec et
    have ev : V = V' := by cases hx.2.2.2.1.1.symm.trans hy.2.2.2.1.1; rfl
    subst ev
    have hs : SameT n f k g := (Cod.eqv hx.2.2.2.2.1 hy.2.2.2.2.1 hx.2.2.2.2.2 hy.2.2.2.2.2).mp ⟨rfl, fun _ _ => rfl⟩
    exact ⟨s₁, some (.int 1), _, _, _, X0, rfl, rfl, rfl, (fun h => by cases h), ⟨1, rfl, hh0, Or.inl ⟨rfl, hs⟩⟩, fun fs hl => c2.trans (X0.ireturnOut hexec hret rfl (Or.inr (Or.inl rfl)) (hb hbytes d6) hl)⟩
  · have c2 : Steps p.tables e below (s₁.setTop (entryFrame m #[.ref x, .ref y] 3)) (s₁.setTop (mkF m 8 #[.val (.ref x), .val (.ref y), .unset] [.ref y])) := c1.trans (by
      refine acmpYes X0.here hexec rfl (pc0 := 2) rfl (hb hbytes d2) rfl rfl rfl (by simp [acmp, hxy]) (by decide) rfl ?_
      refine XS.aloadN X0.here hexec rfl (hb hbytes d7) rfl rfl ?_
      exact Steps.refl _)
    obtain ⟨T3, X3, q3, st3⟩ := cinst X0 hexec hown (wk W (.classLink "java/lang/String" 10 "java/lang/String")) (hy.mv X0.warmed.alike hh0).1 (g := (mkF m 8 #[.val (.ref x), .val (.ref y), .unset] [.ref y])) rfl (rest := []) rfl (hb hbytes d8)
    have hh3 := q3.trans hh0
    have c4 : Steps p.tables e below (s₁.setTop (entryFrame m #[.ref x, .ref y] 3)) (T3.setTop (mkF m 15 #[.val (.ref x), .val (.ref y), .unset] [.ref y])) := (c2.trans (st3 _ (Steps.refl _))).trans (by
      refine XS.ifNo X3.here hexec rfl (hb hbytes d11) rfl (i0_eq_f (by decide)) ?_
      refine XS.aloadN X3.here hexec rfl (hb hbytes d14) rfl rfl ?_
      exact Steps.refl _)
    obtain ⟨T5, X5, q5, st5⟩ := cself X3 hexec hown (wk W (.classLink "java/lang/String" 10 "java/lang/String")) (hy.mv X3.warmed.alike hh3).1 (g := (mkF m 15 #[.val (.ref x), .val (.ref y), .unset] [.ref y])) rfl (rest := []) rfl (hb hbytes d15)
    have hh5 := q5.trans hh3
    have c6 : Steps p.tables e below (s₁.setTop (entryFrame m #[.ref x, .ref y] 3)) (T5.setTop (mkF m 19 #[.val (.ref x), .val (.ref y), .val (.ref y)] [])) := (c4.trans (st5 _ (Steps.refl _))).trans (by
      refine XS.astoreN X5.here hexec rfl (hb hbytes d18) rfl rfl rfl ?_
      exact Steps.refl _)
    obtain ⟨T7, X7, q7, st7⟩ := X5.sget hexec hown (wk W (.fieldLink "java/lang/String" 38 "java/lang/String" "COMPACT_STRINGS" "Z")) s1 (fun _ _ h => by rw [hh5]; exact h) (g := (mkF m 19 #[.val (.ref x), .val (.ref y), .val (.ref y)] [])) rfl (hb hbytes d19)
    have hh7 := q7.trans hh5
    have c8 : Steps p.tables e below (s₁.setTop (entryFrame m #[.ref x, .ref y] 3)) (T7.setTop (mkF m 26 #[.val (.ref x), .val (.ref y), .val (.ref y)] [.ref x])) := (c6.trans (st7 _ (Steps.refl _))).trans (by
      refine XS.ifNo X7.here hexec rfl (hb hbytes d22) rfl (i0_eq_f hz) ?_
      refine XS.aloadN X7.here hexec rfl (hb hbytes d25) rfl rfl ?_
      exact Steps.refl _)
    obtain ⟨T9, X9, q9, st9⟩ := X7.hget hexec hown (wk W (.fieldLink "java/lang/String" 15 "java/lang/String" "coder" "B")) (hx.mv X7.warmed.alike hh7).2.2.1 (g := (mkF m 26 #[.val (.ref x), .val (.ref y), .val (.ref y)] [.ref x])) rfl (rest := []) rfl (hb hbytes d26)
    have hh9 := q9.trans hh7
    have c10 : Steps p.tables e below (s₁.setTop (entryFrame m #[.ref x, .ref y] 3)) (T9.setTop (mkF m 30 #[.val (.ref x), .val (.ref y), .val (.ref y)] [.ref y, .int cd])) := (c8.trans (st9 _ (Steps.refl _))).trans (by
      refine XS.aloadN X9.here hexec rfl (hb hbytes d29) rfl rfl ?_
      exact Steps.refl _)
    obtain ⟨T11, X11, q11, st11⟩ := X9.hget hexec hown (wk W (.fieldLink "java/lang/String" 15 "java/lang/String" "coder" "B")) (hy.mv X9.warmed.alike hh9).2.2.1 (g := (mkF m 30 #[.val (.ref x), .val (.ref y), .val (.ref y)] [.ref y, .int cd])) rfl (rest := [.int cd]) rfl (hb hbytes d30)
    have hh11 := q11.trans hh9
    have c12 : Steps p.tables e below (s₁.setTop (entryFrame m #[.ref x, .ref y] 3)) (T11.setTop (mkF m 33 #[.val (.ref x), .val (.ref y), .val (.ref y)] [.int cd', .int cd])) := c10.trans (st11 _ (Steps.refl _))
    by_cases hcd : cd = cd'
    · subst hcd
      have c13 : Steps p.tables e below (s₁.setTop (entryFrame m #[.ref x, .ref y] 3)) (T11.setTop (mkF m 37 #[.val (.ref x), .val (.ref y), .val (.ref y)] [.ref x])) := c12.trans (by
        refine XS.icmpNo X11.here hexec rfl (hb hbytes d33) rfl (ii_ne_f rfl) ?_
        refine XS.aloadN X11.here hexec rfl (hb hbytes d36) rfl rfl ?_
        exact Steps.refl _)
      obtain ⟨T14, X14, q14, st14⟩ := X11.hget hexec hown (wk W (.fieldLink "java/lang/String" 9 "java/lang/String" "value" "[B")) (hx.mv X11.warmed.alike hh11).2.1 (g := (mkF m 37 #[.val (.ref x), .val (.ref y), .val (.ref y)] [.ref x])) rfl (rest := []) rfl (hb hbytes d37)
      have hh14 := q14.trans hh11
      have c15 : Steps p.tables e below (s₁.setTop (entryFrame m #[.ref x, .ref y] 3)) (T14.setTop (mkF m 41 #[.val (.ref x), .val (.ref y), .val (.ref y)] [.ref y, .ref t])) := (c13.trans (st14 _ (Steps.refl _))).trans (by
        refine XS.aloadN X14.here hexec rfl (hb hbytes d40) rfl rfl ?_
        exact Steps.refl _)
      obtain ⟨T16, X16, q16, st16⟩ := X14.hget hexec hown (wk W (.fieldLink "java/lang/String" 9 "java/lang/String" "value" "[B")) (hy.mv X14.warmed.alike hh14).2.1 (g := (mkF m 41 #[.val (.ref x), .val (.ref y), .val (.ref y)] [.ref y, .ref t])) rfl (rest := [.ref t]) rfl (hb hbytes d41)
      have hh16 := q16.trans hh14
      have c17 : Steps p.tables e below (s₁.setTop (entryFrame m #[.ref x, .ref y] 3)) (T16.setTop (mkF m 44 #[.val (.ref x), .val (.ref y), .val (.ref y)] [.ref t', .ref t])) := c15.trans (st16 _ (Steps.refl _))
      obtain ⟨v18, T18, X18, E18, g18⟩ := X16.callS hexec (LEq.law l t V t' V') hown (wks W (staticW "java/lang/String" 541 LEq.yN)) (wk W LEq.tab) (W := 0) (Nat.le_of_ble_eq_true rfl) (Nat.le_of_ble_eq_true rfl) (Nat.le_refl _) (Nat.le_refl _) (g := (mkF m 44 #[.val (.ref x), .val (.ref y), .val (.ref y)] [.ref t', .ref t])) rfl (by rw [hml]; rfl) c17 (argsL := [.ref t, .ref t']) (rest := []) rfl rfl (by show 2 * 0 + 0 ≤ _; decide) (hb hbytes d44) (⟨rfl, hx.2.2.2.1.mv X16.warmed.alike hh16, hx.2.2.2.2.1.ty, hy.2.2.2.1.mv X16.warmed.alike hh16, hy.2.2.2.2.1.ty⟩)
      obtain ⟨v, rfl, q18, hv⟩ := E18
      have iff := Cod.eqv hx.2.2.2.2.1 hy.2.2.2.2.1 hx.2.2.2.2.2 hy.2.2.2.2.2
      rcases hv with ⟨rfl, he⟩ | ⟨rfl, he⟩
      · have c19 : Steps p.tables e below (s₁.setTop (entryFrame m #[.ref x, .ref y] 3)) (T18.setTop (mkF m 55 #[.val (.ref x), .val (.ref y), .val (.ref y)] [.int 1])) := Steps.trans g18 (by
          refine XS.ifNo X18.here hexec rfl (hb hbytes d47) rfl (i0_eq_f (by decide)) ?_
          refine iconstV X18.here hexec rfl 1 (hb hbytes d50) (by decide) ?_
          refine XS.goto X18.here hexec rfl (pc0 := 51) rfl (hb hbytes d51) (by decide) rfl ?_
          exact Steps.refl _)
        exact ⟨T18, some (.int 1), _, _, _, X18, rfl, rfl, rfl, (fun h => by cases h), ⟨1, rfl, q18.trans hh16, Or.inl ⟨rfl, iff.mp he⟩⟩, fun fs hl => c19.trans (X18.ireturnOut hexec hret rfl (Or.inr (Or.inl rfl)) (hb hbytes d55) hl)⟩
      · have c19 : Steps p.tables e below (s₁.setTop (entryFrame m #[.ref x, .ref y] 3)) (T18.setTop (mkF m 55 #[.val (.ref x), .val (.ref y), .val (.ref y)] [.int 0])) := Steps.trans g18 (by
          refine XS.ifYes X18.here hexec rfl (pc0 := 47) rfl (hb hbytes d47) rfl (i0_eq_t rfl) (by decide) rfl ?_
          refine iconstV X18.here hexec rfl 0 (hb hbytes d54) (by decide) ?_
          exact Steps.refl _)
        exact ⟨T18, some (.int 0), _, _, _, X18, rfl, rfl, rfl, (fun h => by cases h), ⟨0, rfl, q18.trans hh16, Or.inr ⟨rfl, fun q => he (iff.mpr q)⟩⟩, fun fs hl => c19.trans (X18.ireturnOut hexec hret rfl (Or.inr (Or.inl rfl)) (hb hbytes d55) hl)⟩
    · have c13 : Steps p.tables e below (s₁.setTop (entryFrame m #[.ref x, .ref y] 3)) (T11.setTop (mkF m 55 #[.val (.ref x), .val (.ref y), .val (.ref y)] [.int 0])) := c12.trans (by
        refine XS.icmpYes X11.here hexec rfl (pc0 := 33) rfl (hb hbytes d33) rfl (ii_ne_t hcd) (by decide) rfl ?_
        refine iconstV X11.here hexec rfl 0 (hb hbytes d54) (by decide) ?_
        exact Steps.refl _)
      exact ⟨T11, some (.int 0), _, _, _, X11, rfl, rfl, rfl, (fun h => by cases h), ⟨0, rfl, hh11, Or.inr ⟨rfl, Cod.dif hx.2.2.2.2.1 hy.2.2.2.2.1 hcd⟩⟩, fun fs hl => c13.trans (X11.ireturnOut hexec hret rfl (Or.inr (Or.inl rfl)) (hb hbytes d55) hl)⟩
theorem pays {l : Launch} {R : Room} {p : Program} {e : Env} {below : List Frame} {s : State} {sargs : Array Value} {len W : Nat} (x t : Addr) (V : Cell) (cd : Int32) (n : Nat) (f : Nat → Int32) (y t' : Addr) (V' : Cell) (cd' : Int32) (k : Nat) (g : Nat → Int32) (z : Int32) (htab : tab.before sargs s = true) (hfr : 2 ≤ R.frames) (hlo : W + 28 ≤ R.locals) :
    Back l R p e below s sargs yN len W (fun A₁ a₁ => A₁.cells + 0 ≤ R.cells ∧ A₁.slots + 0 ≤ R.slots ∧ P x t V cd n f y t' V' cd' k g z a₁ A₁.U) (fun A₁ _ v₁ B₁ => Says01 (SameT n f k g) v₁ A₁.U B₁.U ∧ B₁.locs = A₁.locs ++ [] ∧ B₁.cells = A₁.cells + 0 ∧ B₁.slots = A₁.slots + 0) :=
  (law l x t V cd n f y t' V' cd' k g z).pays htab hfr (by omega)
end SEq
end StrChars
namespace StrChars.Road
open Jvm Sem ClassFile Op Lib Jvm.Stand Jvm.Free Jvm.Free.XT
open Jvm.Lib.Cold (StaticIs)
/-- the words of String.equals(Object) -/
abbrev wordsEq : List Jvm.Cond := [.code SEq.yN SEq.yB 3 (some .boolean), .initialized ST, .classLink ST 10 ST, .fieldLink ST 38 ST "COMPACT_STRINGS" "Z", .fieldLink ST 15 ST "coder" "B", .fieldLink ST 9 ST "value" "[B", .methodLink ST 541 LEq.yN, .static LEq.yN, .code LEq.yN LEq.yB 3 (some .boolean), .initialized "java/lang/StringLatin1"]
theorem tabEq_of {a : Array Value} {s : State} (h : ∀ w ∈ wordsEq, w.before a s = true) : SEq.tab.before a s = true := by
  have hl : LEq.tab.before a s = true := unparts (wk h (.code LEq.yN LEq.yB 3 (some .boolean))) (wks h (.initialized LEq.yN.cls :: LEq.site))
  have q := consq hl h
  exact unparts (wk q (.code SEq.yN SEq.yB 3 (some .boolean))) (wks q (.initialized SEq.yN.cls :: SEq.site))
theorem movedEq {Z s : State} {a0 args : Array Value} (hZ : Z.Warmed39 s.vm) (hw : ∀ d ∈ wordsEq, d.before a0 Z = true) : ∀ d ∈ wordsEq, d.before args s = true := fun d hd => by
  have t : ∀ d ∈ wordsEq, (d.onTables && d.keepsFace) = true := by decide +kernel
  exact RoadKit.mv hZ (hw d hd) (t d hd)
/-- the road's facts of a String, as the laws ask it -/
theorem txt_of {Z U : State} {a0 : Array Value} {kI : Nat} (wi : (Jvm.Cond.instantiable ST kI).before a0 Z = true) (al : Z.vm.Alike U.vm) {x t : Addr} {kb : ClassId} {cs : List Int32} {cd N2 : Int32} {vs : List Value} (E : RoadKit.Exa Z U.heap x ST) (V : RoadKit.Fld Z U.heap x ST "value" "[B" (.ref t)) (C : RoadKit.Fld Z U.heap x ST "coder" "B" (.int cd)) (K : RoadKit.Arv Z U.heap t kb .byte N2 vs (.int 0)) (hc : CodA cs cd N2 vs) (hb : ∀ c ∈ cs, ¬ c < 0 ∧ ¬ (65535 : Int32) < c) (l2 : cs.length ≤ 4000) :
    ∃ A, Txt x t A cd cs.length (fun j => cs.getD j 0) U := by
  obtain ⟨A, K1, K2, K3, K4, K5, K6⟩ := K
  have hcod := hc.cod (by omega) K3 K5
  obtain ⟨D, fV, fC, hB, F1, F2, g1, g2, -, -⟩ := strObj wi al E V C
  exact ⟨A, ⟨_, hB.2.2.1, D, hB.1, rfl, by cases q : D.vm <;> first | rfl | exact absurd q (hB.2.1.2 _)⟩, Has.of hB F1 g1, Has.of hB F2 g2, ⟨K1.1, State.isArrayOf_alike al K1.2.1, K1.2.2, by rcases hcod with ⟨-, q, -⟩ | ⟨-, q, -⟩ <;> omega⟩, hcod, fun j hj => by
    have e : cs.getD j 0 = cs[j] := by simp [List.getD_eq_getElem?_getD, hj]
    show ¬ cs.getD j 0 < 0 ∧ ¬ 65535 < cs.getD j 0
    rw [e]; exact hb _ (List.getElem_mem _)⟩
theorem same_list (cs ds : List Int32) : SameT cs.length (fun j => cs.getD j 0) ds.length (fun j => ds.getD j 0) ↔ cs = ds := by
  constructor
  · rintro ⟨e, q⟩
    refine List.ext_getElem e fun j h1 h2 => ?_
    have := q j h1
    simpa [List.getD_eq_getElem?_getD, h1, h2] using this
  · rintro rfl
    exact ⟨rfl, fun _ _ => rfl⟩
/-- **equals(Object) OF TWO SUCH STRINGS**: 1 just where the chars are the same -/
theorem eqW {p : Program} {l : Launch} {e : Env} {R : Room} {s : State} {args : Array Value} {below : List Frame} {len W : Nat} {Z : State} {a0 : Array Value} {h : Heap} (hZ : Z.Warmed39 s.vm) (hw : ∀ d ∈ wordsEq, d.before a0 Z = true) {kI : Nat} (wi : (Jvm.Cond.instantiable ST kI).before a0 Z = true)
    {x t : Addr} {kb : ClassId} {cs : List Int32} {cd N2 : Int32} {vs : List Value} (E : RoadKit.Exa Z h x ST) (V : RoadKit.Fld Z h x ST "value" "[B" (.ref t)) (C : RoadKit.Fld Z h x ST "coder" "B" (.int cd)) (K : RoadKit.Arv Z h t kb .byte N2 vs (.int 0)) (hc : CodA cs cd N2 vs) (hb : ∀ c ∈ cs, ¬ c < 0 ∧ ¬ (65535 : Int32) < c) (l2 : cs.length ≤ 4000)
    {y t' : Addr} {kb' : ClassId} {ds : List Int32} {cd' N2' : Int32} {vs' : List Value} (E' : RoadKit.Exa Z h y ST) (V' : RoadKit.Fld Z h y ST "value" "[B" (.ref t')) (C' : RoadKit.Fld Z h y ST "coder" "B" (.int cd')) (K' : RoadKit.Arv Z h t' kb' .byte N2' vs' (.int 0)) (hc' : CodA ds cd' N2' vs') (hb' : ∀ c ∈ ds, ¬ c < 0 ∧ ¬ (65535 : Int32) < c) (l2' : ds.length ≤ 4000)
    {z : Int32} (S : RoadKit.Sta Z h ST "COMPACT_STRINGS" "Z" (.int z)) (hz : ¬ z = 0) (hfr : 2 ≤ R.frames) (hlo : W + 28 ≤ R.locals) :
    Back l R p e below s args (⟨"java/lang/String", "equals", "(Ljava/lang/Object;)Z"⟩ : MethodName) len W (fun P a => a = #[.ref x, .ref y] ∧ P.U.heap = h ∧ P.cells + 0 ≤ R.cells ∧ P.slots + 0 ≤ R.slots)
      (fun P _ v B => ∃ L, (((v = some (.int 1) ∧ cs = ds) ∨ (v = some (.int 0) ∧ ¬ cs = ds)) ∧ L = [] ∧ B.U.heap = h) ∧ B.locs = P.locs ++ L ∧ B.cells = P.cells + 0 ∧ B.slots = P.slots + 0) := by
  intro m meth c P g ig mk a X hg hsize hdg hW hn hp'
  obtain ⟨rfl, rfl, r1, r2⟩ := hp'
  have al : Z.vm.Alike P.U.vm := hZ.alike.trans X.warmed.alike
  obtain ⟨A, hx⟩ := txt_of wi al E V C K hc hb l2
  obtain ⟨A', hy⟩ := txt_of wi al E' V' C' K' hc' hb' l2'
  obtain ⟨v, B, X', ⟨⟨w, hv, hh, hq⟩, hl, hk, hs⟩, st⟩ := SEq.pays x t A cd cs.length (fun j => cs.getD j 0) y t' A' cd' ds.length (fun j => ds.getD j 0) z (tabEq_of (movedEq hZ hw)) hfr hlo m meth c P g ig mk _ X hg hsize hdg hW hn ⟨r1, r2, rfl, hx, hy, sta_is al S, hz⟩
  refine ⟨v, B, X', ⟨[], ⟨?_, rfl, hh⟩, hl, hk, hs⟩, st⟩
  rcases hq with ⟨rfl, q⟩ | ⟨rfl, q⟩
  · exact Or.inl ⟨hv, (same_list cs ds).mp q⟩
  · exact Or.inr ⟨hv, fun e => q ((same_list cs ds).mpr e)⟩
end StrChars.Road
namespace StrChars.Road
open Jvm Sem ClassFile Op Lib Jvm.Stand Jvm.Free Jvm.Free.XT
open Jvm.Lib.Cold (StaticIs)
/-- what backV says of its String, as the contracts of this text ask it: cs's low bytes, coder 0 -/
theorem codOf {cs : List Int32} {n : Nat} (hn : cs.length = n) (hb : ∀ c ∈ cs, ¬ 255 < c) : CodA cs 0 (Int32.ofNat n) ((cs.map lo8).map Value.int) := Or.inl ⟨rfl, by rw [hn], by simp [List.map_map, Function.comp_def], hb⟩
end StrChars.Road
end Jvm.Pilot.@@N@@
namespace Jvm.Pilot.@@N@@
open Jvm Jvm.ClassFile Sem Op Lib Jvm.Free Jvm.Stand Jvm.LawKit Jvm.RoadKit Bundle Jvm.Pilot.@@N@@.Jvm.D
abbrev own_S (p : Program) (e : Env) (below : List Frame) (T : State) (f : JFrame) (t : State) : Prop := Steps p.tables e below (T.setTop f) t
abbrev own_ushr (x y : Int32) : Int32 := (x.toUInt32 >>> (y &&& 31).toUInt32).toInt32
abbrev own_ushrL (x : Int64) (y : Int32) : Int64 := (x.toUInt64 >>> (y &&& 63).toInt64.toUInt64).toInt64
def own_Qi (z : Int32) (h0 : Heap) (n0 : Nat) (v : Option Value) (h : Heap) (L : List Loc) : Prop := v = some (.int z) ∧ Fr n0 L ∧ h = h0
theorem own_wk {Z : State} {ag : Array Value} {d : Jvm.Cond} (hw : ∀ d ∈ tables_1, d.before ag Z = true) (i : Nat) (h : tables_1[i]? = some d) : d.before ag Z = true := hw d (List.mem_of_getElem? h)
theorem own_cast {α : Sort _} {P : α → Prop} {a b : α} (h : a = b) (k : P a) : P b := h ▸ k
theorem pn_1 : plainName "com/example/needle_in_json/needleinjson/MaskedDigitsResumeAfterStringPinLaw" = true := by first | (simp [plainName, overriddenIn]; done) | decide +kernel
theorem ef_2 (m : MethodId) (q0 : Int64) (p1 : Int32) : entryFrame m #[(.long q0), (.int p1)] 3 = mkF m 0 #[.val (.long q0), .second, .val (.int p1)] [] := by first | (simp [entryFrame, mkF, argsToLocals, Value.category]; done) | rfl
abbrev own_d2 (p : Nat) (i : Instr) (n : Nat) : Prop := decode method_2_code p = .ok (i, n)
theorem d2_0 : own_d2 0 (.bipush 48) 2 := by decide +kernel
theorem d2_2 : own_d2 2 (.lload_n 0) 1 := by decide +kernel
theorem d2_3 : own_d2 3 (.iload_n 2) 1 := by decide +kernel
theorem d2_4 : own_d2 4 .lushr 1 := by decide +kernel
theorem d2_5 : own_d2 5 (.ldc2_w 7) 3 := by decide +kernel
theorem d2_8 : own_d2 8 .land 1 := by decide +kernel
theorem d2_9 : own_d2 9 (.ldc2_w 9) 3 := by decide +kernel
theorem d2_12 : own_d2 12 .lrem 1 := by decide +kernel
theorem d2_13 : own_d2 13 .l2i 1 := by decide +kernel
theorem d2_14 : own_d2 14 .iadd 1 := by decide +kernel
theorem d2_15 : own_d2 15 .i2c 1 := by decide +kernel
def own_d (q0 : Int64) (p1 : Int32) : Int32 := (nar .char (((48 : Int32) + ((((own_ushrL q0 p1) &&& (15 : Int64)) - (((own_ushrL q0 p1) &&& (15 : Int64)) / (10 : Int64)) * (10 : Int64)).toInt32)).toUInt32.toUInt16.toUInt32.toInt32))
def Q2 (Z : State) (q0 : Int64) (p1 : Int32) (h0 : Heap) (n0 : Nat) (v : Option Value) (h : Heap) (L : List Loc) : Prop := v = some (.int (own_d q0 p1)) ∧ Fr n0 L ∧ h = h0
theorem d2_16 : own_d2 16 .ireturn 1 := by decide +kernel
set_option maxRecDepth 65536 in
set_option maxHeartbeats 40000000 in
theorem rm2 (l : Launch) (Z : State) (ag : Array Value) (hw : ∀ d ∈ tables_1, d.before ag Z = true) (ws : List Jvm.Cond) (q0 : Int64) (p1 : Int32) (h0 : Heap) (n0 : Nat) (Z0 : n0 ≤ h0.size) :
    MetFree l (⟨"com/example/needle_in_json/needleinjson/MaskedDigitsResumeAfterStringPinLaw", "d", "(JI)C"⟩ : MethodName) (head1 (Jvm.Cond.code (⟨"com/example/needle_in_json/needleinjson/MaskedDigitsResumeAfterStringPinLaw", "d", "(JI)C"⟩ : MethodName) method_2_code 3 (some .char) :: ws) ({ frames := 0, cells := 0, slots := 0, locals := 0 } : Room)) (fun a U => a = #[(.long q0), (.int p1)] ∧ Z.Warmed39 U.vm ∧ U.heap = h0) (fun _ _ _ _ _ => True) (fun _ U o U' => ∃ v L, o = .returned v ∧ Q2 Z q0 p1 h0 n0 v U'.heap L ∧ FrameEnd U o U' L ({ frames := 0, cells := 0, slots := 0, locals := 0 } : Room).cells ({ frames := 0, cells := 0, slots := 0, locals := 0 } : Room).slots) := by
  refine MetFree.of_bodySF (plainFor_of_name pn_1) hisR ?_
  intro p e s m args below meth c s₁ Bd hml0 hP hK
  obtain ⟨rfl, hZ, hh⟩ := hP
  have hx := Bd.exec
  have hby := Bd.bytes
  have hml : c.maxLocals = 3 := hml0
  have hown : s.vm.findClass "com/example/needle_in_json/needleinjson/MaskedDigitsResumeAfterStringPinLaw" = some m.cls := findClass_of_methodNamed Bd.named
  have hnm := (name_of_methodNamed Bd.named Bd.method).1
  have X0 : Stand p l e ({ frames := 0, cells := 0, slots := 0, locals := 0 } : Room) s m #[(.long q0), (.int p1)] below meth c s₁ [] 0 0 := Stand.of_body Bd
  have e0 : s₁.heap = h0 := by rw [← hh, Bd.state]; rfl
  have N0 := Fr.nil n0
  have pre0 : ∀ t, Steps p.tables e below (s₁.setTop (mkF m 0 #[.val (.long q0), .second, .val (.int p1)] [])) t → Steps p.tables e below (s₁.setTop (entryFrame m #[(.long q0), (.int p1)] 3)) t := fun t k => castTop (ef_2 m q0 p1) k
  obtain ⟨fs, hr, hrun, hended, hW, hsame⟩ := X0.leave (v := some (.int (own_d q0 p1))) (fun h => by rw [Bd.returns] at h; cases h)
  refine ⟨_, _, pre0 _ ?_, hrun, hended, _, _, rfl, ?_, ⟨_, rfl⟩, hW, hsame.mono (by decide) (by decide)⟩
  · show own_S p e below s₁ (mkF m 0 #[.val (.long q0), .second, .val (.int p1)] []) _
    refine XS.bipush X0.here hx rfl (hb hby d2_0) (XS.lloadN X0.here hx rfl (hb hby d2_2) rfl (XS.iloadN X0.here hx rfl (hb hby d2_3) rfl (XS.lushr X0.here hx rfl (hb hby d2_4) rfl (X0.ldc2Long hx hown (mvT hZ (own_wk hw 8 rfl)) (g := (mkF m 5 #[.val (.long q0), .second, .val (.int p1)] [(.long (own_ushrL q0 p1)), .int 48])) rfl (hb hby d2_5) _ (XS.land X0.here hx rfl (hb hby d2_8) rfl (X0.ldc2Long hx hown (mvT hZ (own_wk hw 9 rfl)) (g := (mkF m 9 #[.val (.long q0), .second, .val (.int p1)] [(.long ((own_ushrL q0 p1) &&& (15 : Int64))), .int 48])) rfl (hb hby d2_9) _ (XS.lrem X0.here hx rfl (hb hby d2_12) rfl (by decide) (XS.l2i X0.here hx rfl (hb hby d2_13) rfl (XS.iadd X0.here hx rfl (hb hby d2_14) rfl ?_)))))))))
    refine XS.i2c X0.here hx rfl (hb hby d2_15) rfl ?_
    show own_S p e below s₁ (mkF m 16 #[.val (.long q0), .second, .val (.int p1)] [(.int (((48 : Int32) + ((((own_ushrL q0 p1) &&& (15 : Int64)) - (((own_ushrL q0 p1) &&& (15 : Int64)) / (10 : Int64)) * (10 : Int64)).toInt32)).toUInt32.toUInt16.toUInt32.toInt32))]) _
    have q : (own_d q0 p1) = (nar .char (((48 : Int32) + ((((own_ushrL q0 p1) &&& (15 : Int64)) - (((own_ushrL q0 p1) &&& (15 : Int64)) / (10 : Int64)) * (10 : Int64)).toInt32)).toUInt32.toUInt16.toUInt32.toInt32)) := rfl
    have hr := own_cast (P := fun z => ∀ (f : JFrame) (acts : List Action), f.method = m → f.locked = none → f.entered = [] → (doReturn e (s₁.setTop f) acts (some (.int z))).1 = s₁.setFrames fs) q hr
    exact retN X0 hx (t := .char) Bd.returns (by simp) (hb hby d2_16) hr
  · show Q2 Z q0 p1 h0 n0 _ s₁.heap _
    rw [e0]
    exact ⟨rfl, N0, rfl⟩
theorem ef_3 (m : MethodId) (p0 : Int32) : entryFrame m #[(.int p0)] 3 = mkF m 0 #[.val (.int p0), .unset, .unset] [] := by first | (simp [entryFrame, mkF, argsToLocals, Value.category]; done) | rfl
abbrev own_d3 (p : Nat) (i : Instr) (n : Nat) : Prop := decode method_3_code p = .ok (i, n)
theorem d3_0 : own_d3 0 (.iload_n 0) 1 := by decide +kernel
theorem d3_1 : own_d3 1 (.bipush 7) 2 := by decide +kernel
theorem d3_3 : own_d3 3 .iand 1 := by decide +kernel
theorem d3_4 : own_d3 4 (.istore_n 1) 1 := by decide +kernel
theorem d3_5 : own_d3 5 (.iload_n 0) 1 := by decide +kernel
theorem d3_6 : own_d3 6 (.iconst 3) 1 := by decide +kernel
theorem d3_7 : own_d3 7 .iushr 1 := by decide +kernel
theorem d3_8 : own_d3 8 (.sipush 255) 3 := by decide +kernel
theorem d3_11 : own_d3 11 .iand 1 := by decide +kernel
theorem d3_12 : own_d3 12 (.istore_n 2) 1 := by decide +kernel
abbrev own_loc1 (p0 : Int32) : Array Slot := #[.val (.int p0), .val (.int (p0 &&& (7 : Int32))), .val (.int ((own_ushr p0 (3 : Int32)) &&& (255 : Int32)))]
theorem d3_13 : own_d3 13 (.iload_n 1) 1 := by decide +kernel
theorem d3_14 : own_d3 14 (.ifCond .ne 6) 3 := by decide +kernel
theorem d3_17 : own_d3 17 (.bipush 92) 2 := by decide +kernel
theorem d3_20 : own_d3 20 (.iload_n 1) 1 := by decide +kernel
theorem d3_21 : own_d3 21 (.iconst 1) 1 := by decide +kernel
theorem d3_22 : own_d3 22 (.if_icmp .ne 6) 3 := by decide +kernel
theorem d3_25 : own_d3 25 (.bipush 117) 2 := by decide +kernel
theorem d3_28 : own_d3 28 (.iload_n 1) 1 := by decide +kernel
theorem d3_29 : own_d3 29 (.iconst 2) 1 := by decide +kernel
theorem d3_30 : own_d3 30 (.if_icmp .ne 12) 3 := by decide +kernel
theorem d3_33 : own_d3 33 (.bipush 48) 2 := by decide +kernel
theorem d3_35 : own_d3 35 (.iload_n 2) 1 := by decide +kernel
theorem d3_36 : own_d3 36 (.bipush 10) 2 := by decide +kernel
theorem d3_38 : own_d3 38 .irem 1 := by decide +kernel
theorem d3_39 : own_d3 39 .iadd 1 := by decide +kernel
theorem d3_40 : own_d3 40 .i2c 1 := by decide +kernel
theorem d3_42 : own_d3 42 (.iload_n 1) 1 := by decide +kernel
theorem d3_43 : own_d3 43 (.iconst 3) 1 := by decide +kernel
theorem d3_44 : own_d3 44 (.if_icmp .ne 6) 3 := by decide +kernel
theorem d3_47 : own_d3 47 (.bipush 51) 2 := by decide +kernel
theorem d3_50 : own_d3 50 (.iload_n 1) 1 := by decide +kernel
theorem d3_51 : own_d3 51 (.iconst 4) 1 := by decide +kernel
theorem d3_52 : own_d3 52 (.if_icmp .ne 6) 3 := by decide +kernel
theorem d3_55 : own_d3 55 (.bipush 97) 2 := by decide +kernel
theorem d3_58 : own_d3 58 (.iload_n 1) 1 := by decide +kernel
theorem d3_59 : own_d3 59 (.iconst 5) 1 := by decide +kernel
theorem d3_60 : own_d3 60 (.if_icmp .ne 6) 3 := by decide +kernel
theorem d3_63 : own_d3 63 (.bipush 34) 2 := by decide +kernel
theorem d3_66 : own_d3 66 (.iload_n 1) 1 := by decide +kernel
theorem d3_67 : own_d3 67 (.bipush 6) 2 := by decide +kernel
theorem d3_69 : own_d3 69 (.if_icmp .ne 6) 3 := by decide +kernel
theorem d3_72 : own_d3 72 (.bipush 110) 2 := by decide +kernel
theorem d3_75 : own_d3 75 (.iload_n 2) 1 := by decide +kernel
theorem d3_76 : own_d3 76 .i2c 1 := by decide +kernel
def own_special (p0 : Int32) : Int32 := (if (p0 &&& (7 : Int32)) = (0 : Int32) then (92 : Int32) else (if (p0 &&& (7 : Int32)) = (1 : Int32) then (117 : Int32) else (if (p0 &&& (7 : Int32)) = (2 : Int32) then (nar .char (((48 : Int32) + (((own_ushr p0 (3 : Int32)) &&& (255 : Int32)) % (10 : Int32))).toUInt32.toUInt16.toUInt32.toInt32)) else (if (p0 &&& (7 : Int32)) = (3 : Int32) then (51 : Int32) else (if (p0 &&& (7 : Int32)) = (4 : Int32) then (97 : Int32) else (if (p0 &&& (7 : Int32)) = (5 : Int32) then (34 : Int32) else (if (p0 &&& (7 : Int32)) = (6 : Int32) then (110 : Int32) else (nar .char (((own_ushr p0 (3 : Int32)) &&& (255 : Int32)).toUInt32.toUInt16.toUInt32.toInt32)))))))))
def Q3 (Z : State) (p0 : Int32) (h0 : Heap) (n0 : Nat) (v : Option Value) (h : Heap) (L : List Loc) : Prop := v = some (.int (own_special p0)) ∧ Fr n0 L ∧ h = h0
theorem d3_19 : own_d3 19 .ireturn 1 := by decide +kernel
theorem d3_27 : own_d3 27 .ireturn 1 := by decide +kernel
theorem d3_41 : own_d3 41 .ireturn 1 := by decide +kernel
theorem d3_49 : own_d3 49 .ireturn 1 := by decide +kernel
theorem d3_57 : own_d3 57 .ireturn 1 := by decide +kernel
theorem d3_65 : own_d3 65 .ireturn 1 := by decide +kernel
theorem d3_74 : own_d3 74 .ireturn 1 := by decide +kernel
theorem d3_77 : own_d3 77 .ireturn 1 := by decide +kernel
set_option maxRecDepth 65536 in
set_option maxHeartbeats 40000000 in
theorem rm3 (l : Launch) (Z : State) (ag : Array Value) (hw : ∀ d ∈ tables_1, d.before ag Z = true) (ws : List Jvm.Cond) (p0 : Int32) (h0 : Heap) (n0 : Nat) (Z0 : n0 ≤ h0.size) :
    MetFree l (⟨"com/example/needle_in_json/needleinjson/MaskedDigitsResumeAfterStringPinLaw", "special", "(I)C"⟩ : MethodName) (head1 (Jvm.Cond.code (⟨"com/example/needle_in_json/needleinjson/MaskedDigitsResumeAfterStringPinLaw", "special", "(I)C"⟩ : MethodName) method_3_code 3 (some .char) :: ws) ({ frames := 0, cells := 0, slots := 0, locals := 0 } : Room)) (fun a U => a = #[(.int p0)] ∧ Z.Warmed39 U.vm ∧ U.heap = h0) (fun _ _ _ _ _ => True) (fun _ U o U' => ∃ v L, o = .returned v ∧ Q3 Z p0 h0 n0 v U'.heap L ∧ FrameEnd U o U' L ({ frames := 0, cells := 0, slots := 0, locals := 0 } : Room).cells ({ frames := 0, cells := 0, slots := 0, locals := 0 } : Room).slots) := by
  refine MetFree.of_bodySF (plainFor_of_name pn_1) hisR ?_
  intro p e s m args below meth c s₁ Bd hml0 hP hK
  obtain ⟨rfl, hZ, hh⟩ := hP
  have hx := Bd.exec
  have hby := Bd.bytes
  have hml : c.maxLocals = 3 := hml0
  have hown : s.vm.findClass "com/example/needle_in_json/needleinjson/MaskedDigitsResumeAfterStringPinLaw" = some m.cls := findClass_of_methodNamed Bd.named
  have hnm := (name_of_methodNamed Bd.named Bd.method).1
  have X0 : Stand p l e ({ frames := 0, cells := 0, slots := 0, locals := 0 } : Room) s m #[(.int p0)] below meth c s₁ [] 0 0 := Stand.of_body Bd
  have e0 : s₁.heap = h0 := by rw [← hh, Bd.state]; rfl
  have N0 := Fr.nil n0
  have pre0 : ∀ t, Steps p.tables e below (s₁.setTop (mkF m 0 #[.val (.int p0), .unset, .unset] [])) t → Steps p.tables e below (s₁.setTop (entryFrame m #[(.int p0)] 3)) t := fun t k => castTop (ef_3 m p0) k
  obtain ⟨fs, hr, hrun, hended, hW, hsame⟩ := X0.leave (v := some (.int (own_special p0))) (fun h => by rw [Bd.returns] at h; cases h)
  refine ⟨_, _, pre0 _ ?_, hrun, hended, _, _, rfl, ?_, ⟨_, rfl⟩, hW, hsame.mono (by decide) (by decide)⟩
  · show own_S p e below s₁ (mkF m 0 #[.val (.int p0), .unset, .unset] []) _
    refine XS.iloadN X0.here hx rfl (hb hby d3_0) rfl (XS.bipush X0.here hx rfl (hb hby d3_1) (XS.iand X0.here hx rfl (hb hby d3_3) rfl (XS.istoreN X0.here hx rfl (hb hby d3_4) rfl (l' := #[.val (.int p0), .val (.int (p0 &&& (7 : Int32))), .unset]) rfl (XS.iloadN X0.here hx rfl (hb hby d3_5) rfl (XS.iconst X0.here hx rfl (hb hby d3_6) (XS.iushr X0.here hx rfl (hb hby d3_7) rfl (XS.sipush X0.here hx rfl (hb hby d3_8) (XS.iand X0.here hx rfl (hb hby d3_11) rfl (XS.istoreN X0.here hx rfl (hb hby d3_12) rfl (l' := (own_loc1 p0)) rfl ?_)))))))))
    refine XS.iloadN X0.here hx rfl (hb hby d3_13) rfl ?_
    by_cases hc1 : (p0 &&& (7 : Int32)) = (0 : Int32)
    · show own_S p e below s₁ (mkF m 14 (own_loc1 p0) [(.int (p0 &&& (7 : Int32)))]) _
      refine XS.ifNo X0.here hx rfl (hb hby d3_14) rfl ((if0 _ _).trans (teq hc1).2) (XS.bipush X0.here hx rfl (hb hby d3_17) ?_)
      show own_S p e below s₁ (mkF m 19 (own_loc1 p0) [.int 92]) _
      have q : (own_special p0) = (92 : Int32) := by unfold own_special; rw [if_pos hc1]
      have hr := own_cast (P := fun z => ∀ (f : JFrame) (acts : List Action), f.method = m → f.locked = none → f.entered = [] → (doReturn e (s₁.setTop f) acts (some (.int z))).1 = s₁.setFrames fs) q hr
      exact retN X0 hx (t := .char) Bd.returns (by simp) (hb hby d3_19) hr
    · show own_S p e below s₁ (mkF m 14 (own_loc1 p0) [(.int (p0 &&& (7 : Int32)))]) _
      refine XS.ifYes X0.here hx rfl (pc0 := 14) (pc' := 20) rfl (hb hby d3_14) rfl ((if0 _ _).trans (feq hc1).2) (by decide) (by decide) (XS.iloadN X0.here hx rfl (hb hby d3_20) rfl (XS.iconst X0.here hx rfl (hb hby d3_21) ?_))
      by_cases hc2 : (p0 &&& (7 : Int32)) = (1 : Int32)
      · show own_S p e below s₁ (mkF m 22 (own_loc1 p0) [.int 1, (.int (p0 &&& (7 : Int32)))]) _
        refine XS.icmpNo X0.here hx rfl (hb hby d3_22) rfl (teq hc2).2 (XS.bipush X0.here hx rfl (hb hby d3_25) ?_)
        show own_S p e below s₁ (mkF m 27 (own_loc1 p0) [.int 117]) _
        have q : (own_special p0) = (117 : Int32) := by unfold own_special; rw [if_neg hc1, if_pos hc2]
        have hr := own_cast (P := fun z => ∀ (f : JFrame) (acts : List Action), f.method = m → f.locked = none → f.entered = [] → (doReturn e (s₁.setTop f) acts (some (.int z))).1 = s₁.setFrames fs) q hr
        exact retN X0 hx (t := .char) Bd.returns (by simp) (hb hby d3_27) hr
      · show own_S p e below s₁ (mkF m 22 (own_loc1 p0) [.int 1, (.int (p0 &&& (7 : Int32)))]) _
        refine XS.icmpYes X0.here hx rfl (pc0 := 22) (pc' := 28) rfl (hb hby d3_22) rfl (feq hc2).2 (by decide) (by decide) (XS.iloadN X0.here hx rfl (hb hby d3_28) rfl (XS.iconst X0.here hx rfl (hb hby d3_29) ?_))
        by_cases hc3 : (p0 &&& (7 : Int32)) = (2 : Int32)
        · show own_S p e below s₁ (mkF m 30 (own_loc1 p0) [.int 2, (.int (p0 &&& (7 : Int32)))]) _
          refine XS.icmpNo X0.here hx rfl (hb hby d3_30) rfl (teq hc3).2 (XS.bipush X0.here hx rfl (hb hby d3_33) (XS.iloadN X0.here hx rfl (hb hby d3_35) rfl (XS.bipush X0.here hx rfl (hb hby d3_36) (iremM X0 hx rfl (hb hby d3_38) rfl (by decide) (XS.iadd X0.here hx rfl (hb hby d3_39) rfl (XS.i2c X0.here hx rfl (hb hby d3_40) rfl ?_))))))
          show own_S p e below s₁ (mkF m 41 (own_loc1 p0) [(.int (((48 : Int32) + (((own_ushr p0 (3 : Int32)) &&& (255 : Int32)) % (10 : Int32))).toUInt32.toUInt16.toUInt32.toInt32))]) _
          have q : (own_special p0) = (nar .char (((48 : Int32) + (((own_ushr p0 (3 : Int32)) &&& (255 : Int32)) % (10 : Int32))).toUInt32.toUInt16.toUInt32.toInt32)) := by unfold own_special; rw [if_neg hc1, if_neg hc2, if_pos hc3]
          have hr := own_cast (P := fun z => ∀ (f : JFrame) (acts : List Action), f.method = m → f.locked = none → f.entered = [] → (doReturn e (s₁.setTop f) acts (some (.int z))).1 = s₁.setFrames fs) q hr
          exact retN X0 hx (t := .char) Bd.returns (by simp) (hb hby d3_41) hr
        · show own_S p e below s₁ (mkF m 30 (own_loc1 p0) [.int 2, (.int (p0 &&& (7 : Int32)))]) _
          refine XS.icmpYes X0.here hx rfl (pc0 := 30) (pc' := 42) rfl (hb hby d3_30) rfl (feq hc3).2 (by decide) (by decide) (XS.iloadN X0.here hx rfl (hb hby d3_42) rfl (XS.iconst X0.here hx rfl (hb hby d3_43) ?_))
          by_cases hc4 : (p0 &&& (7 : Int32)) = (3 : Int32)
          · show own_S p e below s₁ (mkF m 44 (own_loc1 p0) [.int 3, (.int (p0 &&& (7 : Int32)))]) _
            refine XS.icmpNo X0.here hx rfl (hb hby d3_44) rfl (teq hc4).2 (XS.bipush X0.here hx rfl (hb hby d3_47) ?_)
            show own_S p e below s₁ (mkF m 49 (own_loc1 p0) [.int 51]) _
            have q : (own_special p0) = (51 : Int32) := by unfold own_special; rw [if_neg hc1, if_neg hc2, if_neg hc3, if_pos hc4]
            have hr := own_cast (P := fun z => ∀ (f : JFrame) (acts : List Action), f.method = m → f.locked = none → f.entered = [] → (doReturn e (s₁.setTop f) acts (some (.int z))).1 = s₁.setFrames fs) q hr
            exact retN X0 hx (t := .char) Bd.returns (by simp) (hb hby d3_49) hr
          · show own_S p e below s₁ (mkF m 44 (own_loc1 p0) [.int 3, (.int (p0 &&& (7 : Int32)))]) _
            refine XS.icmpYes X0.here hx rfl (pc0 := 44) (pc' := 50) rfl (hb hby d3_44) rfl (feq hc4).2 (by decide) (by decide) (XS.iloadN X0.here hx rfl (hb hby d3_50) rfl (XS.iconst X0.here hx rfl (hb hby d3_51) ?_))
            by_cases hc5 : (p0 &&& (7 : Int32)) = (4 : Int32)
            · show own_S p e below s₁ (mkF m 52 (own_loc1 p0) [.int 4, (.int (p0 &&& (7 : Int32)))]) _
              refine XS.icmpNo X0.here hx rfl (hb hby d3_52) rfl (teq hc5).2 (XS.bipush X0.here hx rfl (hb hby d3_55) ?_)
              show own_S p e below s₁ (mkF m 57 (own_loc1 p0) [.int 97]) _
              have q : (own_special p0) = (97 : Int32) := by unfold own_special; rw [if_neg hc1, if_neg hc2, if_neg hc3, if_neg hc4, if_pos hc5]
              have hr := own_cast (P := fun z => ∀ (f : JFrame) (acts : List Action), f.method = m → f.locked = none → f.entered = [] → (doReturn e (s₁.setTop f) acts (some (.int z))).1 = s₁.setFrames fs) q hr
              exact retN X0 hx (t := .char) Bd.returns (by simp) (hb hby d3_57) hr
            · show own_S p e below s₁ (mkF m 52 (own_loc1 p0) [.int 4, (.int (p0 &&& (7 : Int32)))]) _
              refine XS.icmpYes X0.here hx rfl (pc0 := 52) (pc' := 58) rfl (hb hby d3_52) rfl (feq hc5).2 (by decide) (by decide) (XS.iloadN X0.here hx rfl (hb hby d3_58) rfl (XS.iconst X0.here hx rfl (hb hby d3_59) ?_))
              by_cases hc6 : (p0 &&& (7 : Int32)) = (5 : Int32)
              · show own_S p e below s₁ (mkF m 60 (own_loc1 p0) [.int 5, (.int (p0 &&& (7 : Int32)))]) _
                refine XS.icmpNo X0.here hx rfl (hb hby d3_60) rfl (teq hc6).2 (XS.bipush X0.here hx rfl (hb hby d3_63) ?_)
                show own_S p e below s₁ (mkF m 65 (own_loc1 p0) [.int 34]) _
                have q : (own_special p0) = (34 : Int32) := by unfold own_special; rw [if_neg hc1, if_neg hc2, if_neg hc3, if_neg hc4, if_neg hc5, if_pos hc6]
                have hr := own_cast (P := fun z => ∀ (f : JFrame) (acts : List Action), f.method = m → f.locked = none → f.entered = [] → (doReturn e (s₁.setTop f) acts (some (.int z))).1 = s₁.setFrames fs) q hr
                exact retN X0 hx (t := .char) Bd.returns (by simp) (hb hby d3_65) hr
              · show own_S p e below s₁ (mkF m 60 (own_loc1 p0) [.int 5, (.int (p0 &&& (7 : Int32)))]) _
                refine XS.icmpYes X0.here hx rfl (pc0 := 60) (pc' := 66) rfl (hb hby d3_60) rfl (feq hc6).2 (by decide) (by decide) (XS.iloadN X0.here hx rfl (hb hby d3_66) rfl (XS.bipush X0.here hx rfl (hb hby d3_67) ?_))
                by_cases hc7 : (p0 &&& (7 : Int32)) = (6 : Int32)
                · show own_S p e below s₁ (mkF m 69 (own_loc1 p0) [.int 6, (.int (p0 &&& (7 : Int32)))]) _
                  refine XS.icmpNo X0.here hx rfl (hb hby d3_69) rfl (teq hc7).2 (XS.bipush X0.here hx rfl (hb hby d3_72) ?_)
                  show own_S p e below s₁ (mkF m 74 (own_loc1 p0) [.int 110]) _
                  have q : (own_special p0) = (110 : Int32) := by unfold own_special; rw [if_neg hc1, if_neg hc2, if_neg hc3, if_neg hc4, if_neg hc5, if_neg hc6, if_pos hc7]
                  have hr := own_cast (P := fun z => ∀ (f : JFrame) (acts : List Action), f.method = m → f.locked = none → f.entered = [] → (doReturn e (s₁.setTop f) acts (some (.int z))).1 = s₁.setFrames fs) q hr
                  exact retN X0 hx (t := .char) Bd.returns (by simp) (hb hby d3_74) hr
                · show own_S p e below s₁ (mkF m 69 (own_loc1 p0) [.int 6, (.int (p0 &&& (7 : Int32)))]) _
                  refine XS.icmpYes X0.here hx rfl (pc0 := 69) (pc' := 75) rfl (hb hby d3_69) rfl (feq hc7).2 (by decide) (by decide) (XS.iloadN X0.here hx rfl (hb hby d3_75) rfl (XS.i2c X0.here hx rfl (hb hby d3_76) rfl ?_))
                  show own_S p e below s₁ (mkF m 77 (own_loc1 p0) [(.int (((own_ushr p0 (3 : Int32)) &&& (255 : Int32)).toUInt32.toUInt16.toUInt32.toInt32))]) _
                  have q : (own_special p0) = (nar .char (((own_ushr p0 (3 : Int32)) &&& (255 : Int32)).toUInt32.toUInt16.toUInt32.toInt32)) := by unfold own_special; rw [if_neg hc1, if_neg hc2, if_neg hc3, if_neg hc4, if_neg hc5, if_neg hc6, if_neg hc7]
                  have hr := own_cast (P := fun z => ∀ (f : JFrame) (acts : List Action), f.method = m → f.locked = none → f.entered = [] → (doReturn e (s₁.setTop f) acts (some (.int z))).1 = s₁.setFrames fs) q hr
                  exact retN X0 hx (t := .char) Bd.returns (by simp) (hb hby d3_77) hr
  · show Q3 Z p0 h0 n0 _ s₁.heap _
    rw [e0]
    exact ⟨rfl, N0, rfl⟩
theorem ef_10 (m : MethodId) (p0 : Int32) (p1 : Int32) : entryFrame m #[(.int p0), (.int p1)] 2 = mkF m 0 #[.val (.int p0), .val (.int p1)] [] := by first | (simp [entryFrame, mkF, argsToLocals, Value.category]; done) | rfl
abbrev own_d10 (p : Nat) (i : Instr) (n : Nat) : Prop := decode jdk_29_method_69_code p = .ok (i, n)
theorem d10_0 : own_d10 0 (.iload_n 0) 1 := by decide +kernel
theorem d10_1 : own_d10 1 (.iload_n 1) 1 := by decide +kernel
theorem d10_2 : own_d10 2 (.if_icmp .gt 7) 3 := by decide +kernel
theorem d10_9 : own_d10 9 (.iload_n 1) 1 := by decide +kernel
theorem d10_5 : own_d10 5 (.iload_n 0) 1 := by decide +kernel
theorem d10_6 : own_d10 6 (.goto 4) 3 := by decide +kernel
def own_min (p0 : Int32) (p1 : Int32) : Int32 := (if p1 < p0 then p1 else p0)
def Q10 (Z : State) (p0 p1 : Int32) (h0 : Heap) (n0 : Nat) (v : Option Value) (h : Heap) (L : List Loc) : Prop := v = some (.int (own_min p0 p1)) ∧ Fr n0 L ∧ h = h0
theorem d10_10 : own_d10 10 .ireturn 1 := by decide +kernel
set_option maxRecDepth 65536 in
set_option maxHeartbeats 40000000 in
theorem rm10 (l : Launch) (Z : State) (ag : Array Value) (hw : ∀ d ∈ tables_1, d.before ag Z = true) (ws : List Jvm.Cond) (p0 p1 : Int32) (h0 : Heap) (n0 : Nat) (Z0 : n0 ≤ h0.size) :
    MetFree l (⟨"java/lang/Math", "min", "(II)I"⟩ : MethodName) (head1 (Jvm.Cond.code (⟨"java/lang/Math", "min", "(II)I"⟩ : MethodName) jdk_29_method_69_code 2 (some .int) :: ws) ({ frames := 0, cells := 0, slots := 0, locals := 0 } : Room)) (fun a U => a = #[(.int p0), (.int p1)] ∧ Z.Warmed39 U.vm ∧ U.heap = h0) (fun _ _ _ _ _ => True) (fun _ U o U' => ∃ v L, o = .returned v ∧ Q10 Z p0 p1 h0 n0 v U'.heap L ∧ FrameEnd U o U' L ({ frames := 0, cells := 0, slots := 0, locals := 0 } : Room).cells ({ frames := 0, cells := 0, slots := 0, locals := 0 } : Room).slots) := by
  refine MetFree.of_bodySF (Jvm.Free.JP.mathPlain rfl (by decide +kernel)) hisR ?_
  intro p e s m args below meth c s₁ Bd hml0 hP hK
  obtain ⟨rfl, hZ, hh⟩ := hP
  have hx := Bd.exec
  have hby := Bd.bytes
  have hml : c.maxLocals = 2 := hml0
  have hown : s.vm.findClass "java/lang/Math" = some m.cls := findClass_of_methodNamed Bd.named
  have hnm := (name_of_methodNamed Bd.named Bd.method).1
  have X0 : Stand p l e ({ frames := 0, cells := 0, slots := 0, locals := 0 } : Room) s m #[(.int p0), (.int p1)] below meth c s₁ [] 0 0 := Stand.of_body Bd
  have e0 : s₁.heap = h0 := by rw [← hh, Bd.state]; rfl
  have N0 := Fr.nil n0
  have pre0 : ∀ t, Steps p.tables e below (s₁.setTop (mkF m 0 #[.val (.int p0), .val (.int p1)] [])) t → Steps p.tables e below (s₁.setTop (entryFrame m #[(.int p0), (.int p1)] 2)) t := fun t k => castTop (ef_10 m p0 p1) k
  obtain ⟨fs, hr, hrun, hended, hW, hsame⟩ := X0.leave (v := some (.int (own_min p0 p1))) (fun h => by rw [Bd.returns] at h; cases h)
  refine ⟨_, _, pre0 _ ?_, hrun, hended, _, _, rfl, ?_, ⟨_, rfl⟩, hW, hsame.mono (by decide) (by decide)⟩
  · show own_S p e below s₁ (mkF m 0 #[.val (.int p0), .val (.int p1)] []) _
    refine XS.iloadN X0.here hx rfl (hb hby d10_0) rfl (XS.iloadN X0.here hx rfl (hb hby d10_1) rfl ?_)
    by_cases hc8 : p1 < p0
    · show own_S p e below s₁ (mkF m 2 #[.val (.int p0), .val (.int p1)] [(.int p1), (.int p0)]) _
      refine XS.icmpYes X0.here hx rfl (pc0 := 2) (pc' := 9) rfl (hb hby d10_2) rfl (tlt hc8).2.2.1 (by decide) (by decide) (XS.iloadN X0.here hx rfl (hb hby d10_9) rfl ?_)
      show own_S p e below s₁ (mkF m 10 #[.val (.int p0), .val (.int p1)] [(.int p1)]) _
      have q : (own_min p0 p1) = p1 := by unfold own_min; rw [if_pos hc8]
      have hr := own_cast (P := fun z => ∀ (f : JFrame) (acts : List Action), f.method = m → f.locked = none → f.entered = [] → (doReturn e (s₁.setTop f) acts (some (.int z))).1 = s₁.setFrames fs) q hr
      exact retI X0 hx Bd.returns (hb hby d10_10) hr
    · show own_S p e below s₁ (mkF m 2 #[.val (.int p0), .val (.int p1)] [(.int p1), (.int p0)]) _
      refine XS.icmpNo X0.here hx rfl (hb hby d10_2) rfl (flt hc8).2.2.1 (XS.iloadN X0.here hx rfl (hb hby d10_5) rfl (XS.goto X0.here hx rfl (pc0 := 6) (pc' := 10) rfl (hb hby d10_6) (by decide) (by decide) ?_))
      show own_S p e below s₁ (mkF m 10 #[.val (.int p0), .val (.int p1)] [(.int p0)]) _
      have q : (own_min p0 p1) = p0 := by unfold own_min; rw [if_neg hc8]
      have hr := own_cast (P := fun z => ∀ (f : JFrame) (acts : List Action), f.method = m → f.locked = none → f.entered = [] → (doReturn e (s₁.setTop f) acts (some (.int z))).1 = s₁.setFrames fs) q hr
      exact retI X0 hx Bd.returns (hb hby d10_10) hr
  · show Q10 Z p0 p1 h0 n0 _ s₁.heap _
    rw [e0]
    exact ⟨rfl, N0, rfl⟩
theorem pn_0 : plainName "com/example/needle_in_json/needleinjson/MaskedDigits" = true := by first | (simp [plainName, overriddenIn]; done) | decide +kernel
theorem ef_12 (m : MethodId) (p0 : Int32) : entryFrame m #[(.int p0)] 1 = mkF m 0 #[.val (.int p0)] [] := by first | (simp [entryFrame, mkF, argsToLocals, Value.category]; done) | rfl
abbrev own_d12 (p : Nat) (i : Instr) (n : Nat) : Prop := decode prog_32_method_11_code p = .ok (i, n)
theorem d12_0 : own_d12 0 (.iload_n 0) 1 := by decide +kernel
theorem d12_1 : own_d12 1 (.bipush 48) 2 := by decide +kernel
theorem d12_3 : own_d12 3 (.if_icmp .lt 13) 3 := by decide +kernel
theorem d12_16 : own_d12 16 (.iconst 0) 1 := by decide +kernel
theorem d12_6 : own_d12 6 (.iload_n 0) 1 := by decide +kernel
theorem d12_7 : own_d12 7 (.bipush 57) 2 := by decide +kernel
theorem d12_9 : own_d12 9 (.if_icmp .gt 7) 3 := by decide +kernel
theorem d12_12 : own_d12 12 (.iconst 1) 1 := by decide +kernel
theorem d12_13 : own_d12 13 (.goto 4) 3 := by decide +kernel
def own_isD (p0 : Int32) : Int32 := (if p0 < (48 : Int32) then (0 : Int32) else (if (57 : Int32) < p0 then (0 : Int32) else (1 : Int32)))
def Q12 (Z : State) (p0 : Int32) (h0 : Heap) (n0 : Nat) (v : Option Value) (h : Heap) (L : List Loc) : Prop := v = some (.int (own_isD p0)) ∧ Fr n0 L ∧ h = h0
theorem d12_17 : own_d12 17 .ireturn 1 := by decide +kernel
set_option maxRecDepth 65536 in
set_option maxHeartbeats 40000000 in
theorem rm12 (l : Launch) (Z : State) (ag : Array Value) (hw : ∀ d ∈ tables_1, d.before ag Z = true) (ws : List Jvm.Cond) (p0 : Int32) (h0 : Heap) (n0 : Nat) (Z0 : n0 ≤ h0.size) :
    MetFree l (⟨"com/example/needle_in_json/needleinjson/MaskedDigits", "isDigit", "(C)Z"⟩ : MethodName) (head1 (Jvm.Cond.code (⟨"com/example/needle_in_json/needleinjson/MaskedDigits", "isDigit", "(C)Z"⟩ : MethodName) prog_32_method_11_code 1 (some .boolean) :: ws) ({ frames := 0, cells := 0, slots := 0, locals := 0 } : Room)) (fun a U => a = #[(.int p0)] ∧ Z.Warmed39 U.vm ∧ U.heap = h0) (fun _ _ _ _ _ => True) (fun _ U o U' => ∃ v L, o = .returned v ∧ Q12 Z p0 h0 n0 v U'.heap L ∧ FrameEnd U o U' L ({ frames := 0, cells := 0, slots := 0, locals := 0 } : Room).cells ({ frames := 0, cells := 0, slots := 0, locals := 0 } : Room).slots) := by
  refine MetFree.of_bodySF (plainFor_of_name pn_0) hisR ?_
  intro p e s m args below meth c s₁ Bd hml0 hP hK
  obtain ⟨rfl, hZ, hh⟩ := hP
  have hx := Bd.exec
  have hby := Bd.bytes
  have hml : c.maxLocals = 1 := hml0
  have hown : s.vm.findClass "com/example/needle_in_json/needleinjson/MaskedDigits" = some m.cls := findClass_of_methodNamed Bd.named
  have hnm := (name_of_methodNamed Bd.named Bd.method).1
  have X0 : Stand p l e ({ frames := 0, cells := 0, slots := 0, locals := 0 } : Room) s m #[(.int p0)] below meth c s₁ [] 0 0 := Stand.of_body Bd
  have e0 : s₁.heap = h0 := by rw [← hh, Bd.state]; rfl
  have N0 := Fr.nil n0
  have pre0 : ∀ t, Steps p.tables e below (s₁.setTop (mkF m 0 #[.val (.int p0)] [])) t → Steps p.tables e below (s₁.setTop (entryFrame m #[(.int p0)] 1)) t := fun t k => castTop (ef_12 m p0) k
  obtain ⟨fs, hr, hrun, hended, hW, hsame⟩ := X0.leave (v := some (.int (own_isD p0))) (fun h => by rw [Bd.returns] at h; cases h)
  refine ⟨_, _, pre0 _ ?_, hrun, hended, _, _, rfl, ?_, ⟨_, rfl⟩, hW, hsame.mono (by decide) (by decide)⟩
  · show own_S p e below s₁ (mkF m 0 #[.val (.int p0)] []) _
    refine XS.iloadN X0.here hx rfl (hb hby d12_0) rfl (XS.bipush X0.here hx rfl (hb hby d12_1) ?_)
    by_cases hc9 : p0 < (48 : Int32)
    · show own_S p e below s₁ (mkF m 3 #[.val (.int p0)] [.int 48, (.int p0)]) _
      refine XS.icmpYes X0.here hx rfl (pc0 := 3) (pc' := 16) rfl (hb hby d12_3) rfl (tlt hc9).1 (by decide) (by decide) (XS.iconst X0.here hx rfl (hb hby d12_16) ?_)
      show own_S p e below s₁ (mkF m 17 #[.val (.int p0)] [.int 0]) _
      have q : (own_isD p0) = (0 : Int32) := by unfold own_isD; rw [if_pos hc9]
      have hr := own_cast (P := fun z => ∀ (f : JFrame) (acts : List Action), f.method = m → f.locked = none → f.entered = [] → (doReturn e (s₁.setTop f) acts (some (.int z))).1 = s₁.setFrames fs) q hr
      exact retN X0 hx (t := .boolean) Bd.returns (by simp) (hb hby d12_17) hr
    · show own_S p e below s₁ (mkF m 3 #[.val (.int p0)] [.int 48, (.int p0)]) _
      refine XS.icmpNo X0.here hx rfl (hb hby d12_3) rfl (flt hc9).1 (XS.iloadN X0.here hx rfl (hb hby d12_6) rfl (XS.bipush X0.here hx rfl (hb hby d12_7) ?_))
      by_cases hc10 : (57 : Int32) < p0
      · show own_S p e below s₁ (mkF m 9 #[.val (.int p0)] [.int 57, (.int p0)]) _
        refine XS.icmpYes X0.here hx rfl (pc0 := 9) (pc' := 16) rfl (hb hby d12_9) rfl (tlt hc10).2.2.1 (by decide) (by decide) (XS.iconst X0.here hx rfl (hb hby d12_16) ?_)
        show own_S p e below s₁ (mkF m 17 #[.val (.int p0)] [.int 0]) _
        have q : (own_isD p0) = (0 : Int32) := by unfold own_isD; rw [if_neg hc9, if_pos hc10]
        have hr := own_cast (P := fun z => ∀ (f : JFrame) (acts : List Action), f.method = m → f.locked = none → f.entered = [] → (doReturn e (s₁.setTop f) acts (some (.int z))).1 = s₁.setFrames fs) q hr
        exact retN X0 hx (t := .boolean) Bd.returns (by simp) (hb hby d12_17) hr
      · show own_S p e below s₁ (mkF m 9 #[.val (.int p0)] [.int 57, (.int p0)]) _
        refine XS.icmpNo X0.here hx rfl (hb hby d12_9) rfl (flt hc10).2.2.1 (XS.iconst X0.here hx rfl (hb hby d12_12) (XS.goto X0.here hx rfl (pc0 := 13) (pc' := 17) rfl (hb hby d12_13) (by decide) (by decide) ?_))
        show own_S p e below s₁ (mkF m 17 #[.val (.int p0)] [.int 1]) _
        have q : (own_isD p0) = (1 : Int32) := by unfold own_isD; rw [if_neg hc9, if_neg hc10]
        have hr := own_cast (P := fun z => ∀ (f : JFrame) (acts : List Action), f.method = m → f.locked = none → f.entered = [] → (doReturn e (s₁.setTop f) acts (some (.int z))).1 = s₁.setFrames fs) q hr
        exact retN X0 hx (t := .boolean) Bd.returns (by simp) (hb hby d12_17) hr
  · show Q12 Z p0 h0 n0 _ s₁.heap _
    rw [e0]
    exact ⟨rfl, N0, rfl⟩
theorem pn_7 : plainName "java/lang/StringLatin1" = true := by first | (simp [plainName, overriddenIn]; done) | decide +kernel
theorem ef_26 (m : MethodId) (p0 : Int32) : entryFrame m #[(.int p0)] 1 = mkF m 0 #[.val (.int p0)] [] := by first | (simp [entryFrame, mkF, argsToLocals, Value.category]; done) | rfl
abbrev own_d26 (p : Nat) (i : Instr) (n : Nat) : Prop := decode jdk_43_method_3_code p = .ok (i, n)
theorem d26_0 : own_d26 0 (.iload_n 0) 1 := by decide +kernel
theorem d26_1 : own_d26 1 (.sipush 255) 3 := by decide +kernel
theorem d26_4 : own_d26 4 (.if_icmp .gt 7) 3 := by decide +kernel
theorem d26_11 : own_d26 11 (.iconst 0) 1 := by decide +kernel
theorem d26_7 : own_d26 7 (.iconst 1) 1 := by decide +kernel
theorem d26_8 : own_d26 8 (.goto 4) 3 := by decide +kernel
def own_ce (p0 : Int32) : Int32 := (if (255 : Int32) < p0 then (0 : Int32) else (1 : Int32))
def Q26 (Z : State) (p0 : Int32) (h0 : Heap) (n0 : Nat) (v : Option Value) (h : Heap) (L : List Loc) : Prop := v = some (.int (own_ce p0)) ∧ Fr n0 L ∧ h = h0
theorem d26_12 : own_d26 12 .ireturn 1 := by decide +kernel
set_option maxRecDepth 65536 in
set_option maxHeartbeats 40000000 in
theorem rm26 (l : Launch) (Z : State) (ag : Array Value) (hw : ∀ d ∈ tables_1, d.before ag Z = true) (ws : List Jvm.Cond) (p0 : Int32) (h0 : Heap) (n0 : Nat) (Z0 : n0 ≤ h0.size) :
    MetFree l (⟨"java/lang/StringLatin1", "canEncode", "(C)Z"⟩ : MethodName) (head1 (Jvm.Cond.code (⟨"java/lang/StringLatin1", "canEncode", "(C)Z"⟩ : MethodName) jdk_43_method_3_code 1 (some .boolean) :: ws) ({ frames := 0, cells := 0, slots := 0, locals := 0 } : Room)) (fun a U => a = #[(.int p0)] ∧ Z.Warmed39 U.vm ∧ U.heap = h0) (fun _ _ _ _ _ => True) (fun _ U o U' => ∃ v L, o = .returned v ∧ Q26 Z p0 h0 n0 v U'.heap L ∧ FrameEnd U o U' L ({ frames := 0, cells := 0, slots := 0, locals := 0 } : Room).cells ({ frames := 0, cells := 0, slots := 0, locals := 0 } : Room).slots) := by
  refine MetFree.of_bodySF (plainFor_of_name pn_7) hisR ?_
  intro p e s m args below meth c s₁ Bd hml0 hP hK
  obtain ⟨rfl, hZ, hh⟩ := hP
  have hx := Bd.exec
  have hby := Bd.bytes
  have hml : c.maxLocals = 1 := hml0
  have hown : s.vm.findClass "java/lang/StringLatin1" = some m.cls := findClass_of_methodNamed Bd.named
  have hnm := (name_of_methodNamed Bd.named Bd.method).1
  have X0 : Stand p l e ({ frames := 0, cells := 0, slots := 0, locals := 0 } : Room) s m #[(.int p0)] below meth c s₁ [] 0 0 := Stand.of_body Bd
  have e0 : s₁.heap = h0 := by rw [← hh, Bd.state]; rfl
  have N0 := Fr.nil n0
  have pre0 : ∀ t, Steps p.tables e below (s₁.setTop (mkF m 0 #[.val (.int p0)] [])) t → Steps p.tables e below (s₁.setTop (entryFrame m #[(.int p0)] 1)) t := fun t k => castTop (ef_26 m p0) k
  obtain ⟨fs, hr, hrun, hended, hW, hsame⟩ := X0.leave (v := some (.int (own_ce p0))) (fun h => by rw [Bd.returns] at h; cases h)
  refine ⟨_, _, pre0 _ ?_, hrun, hended, _, _, rfl, ?_, ⟨_, rfl⟩, hW, hsame.mono (by decide) (by decide)⟩
  · show own_S p e below s₁ (mkF m 0 #[.val (.int p0)] []) _
    refine XS.iloadN X0.here hx rfl (hb hby d26_0) rfl (XS.sipush X0.here hx rfl (hb hby d26_1) ?_)
    by_cases hc11 : (255 : Int32) < p0
    · show own_S p e below s₁ (mkF m 4 #[.val (.int p0)] [.int 255, (.int p0)]) _
      refine XS.icmpYes X0.here hx rfl (pc0 := 4) (pc' := 11) rfl (hb hby d26_4) rfl (tlt hc11).2.2.1 (by decide) (by decide) (XS.iconst X0.here hx rfl (hb hby d26_11) ?_)
      show own_S p e below s₁ (mkF m 12 #[.val (.int p0)] [.int 0]) _
      have q : (own_ce p0) = (0 : Int32) := by unfold own_ce; rw [if_pos hc11]
      have hr := own_cast (P := fun z => ∀ (f : JFrame) (acts : List Action), f.method = m → f.locked = none → f.entered = [] → (doReturn e (s₁.setTop f) acts (some (.int z))).1 = s₁.setFrames fs) q hr
      exact retN X0 hx (t := .boolean) Bd.returns (by simp) (hb hby d26_12) hr
    · show own_S p e below s₁ (mkF m 4 #[.val (.int p0)] [.int 255, (.int p0)]) _
      refine XS.icmpNo X0.here hx rfl (hb hby d26_4) rfl (flt hc11).2.2.1 (XS.iconst X0.here hx rfl (hb hby d26_7) (XS.goto X0.here hx rfl (pc0 := 8) (pc' := 12) rfl (hb hby d26_8) (by decide) (by decide) ?_))
      show own_S p e below s₁ (mkF m 12 #[.val (.int p0)] [.int 1]) _
      have q : (own_ce p0) = (1 : Int32) := by unfold own_ce; rw [if_neg hc11]
      have hr := own_cast (P := fun z => ∀ (f : JFrame) (acts : List Action), f.method = m → f.locked = none → f.entered = [] → (doReturn e (s₁.setTop f) acts (some (.int z))).1 = s₁.setFrames fs) q hr
      exact retN X0 hx (t := .boolean) Bd.returns (by simp) (hb hby d26_12) hr
  · show Q26 Z p0 h0 n0 _ s₁.heap _
    rw [e0]
    exact ⟨rfl, N0, rfl⟩
theorem own_safe_at {Z : State} {EL : List (String × Nat)} {vm vm1 : Vm} {h h' : Heap} {x : Addr} (A : CHr Z EL vm h vm1 h') (q : h'.size ≤ x) : Safe Z EL vm1 h' x := Safe.new q
/-- a String whose array isn't laid yet is none of the booked ones -/
theorem own_safe_str {Z : State} {EL : List (String × Nat)} {vm vm1 : Vm} {h h' : Heap} {a : Addr} {a0' : Array Value} (A : CHr Z EL vm h vm1 h') (hal : Z.vm.Alike vm1) (E : Exa Z h' a "java/lang/String") (F : Fld Z h' a "java/lang/String" "value" "[B" .null) (wi : (Jvm.Cond.instantiable "java/lang/String" 4).before a0' Z = true) : Safe Z EL vm1 h' a := fun B => by
  obtain ⟨p, hp, u, a', hb, q, hq, ⟨cS, ⟨⟨s1, s2, s3, ⟨cv, kv, iv, s4, s4'⟩, ⟨cc, kc, ic, s5, s5'⟩, s6, s7, s8, s9, s10, s11, s12, s13⟩, hfS, hcS⟩, hrest⟩, hy⟩ := B
  rcases hy with rfl | rfl
  · obtain ⟨cell, cf, k, i, f, h1, h2, h3, h4, h5, h6, h7⟩ := F
    cases h1.symm.trans s1
    obtain ⟨kv', z4⟩ := ff_back (U := Wst Z vm1 h') hal s4
    cases h2.symm.trans z4
    rw [s8] at h7
    cases h7
  · have s11' : Z.isArrayOf q.SA .byte := by
      obtain ⟨hst, k9, hk9, comp, hkind9⟩ := s11
      obtain ⟨kz, hkz, ekz⟩ : ∃ kz, Z.vm.classes[q.SA.cls]? = some kz ∧ kz.kind = k9.kind := by
        obtain ⟨c2, k2, e1, e2, e3, e4, e5⟩ := E
        cases e1.symm.trans s10
        obtain ⟨k', hk', ek⟩ := hal.2.2 _ _ e3
        cases (show vm1.classes[q.SA.cls]? = some k9 from hk9).symm.trans hk'
        exact ⟨k2, e3, by rw [ek]⟩
      exact ⟨hst, kz, hkz, comp, by rw [ekz]; exact hkind9⟩
    exact ne_arr E wi ⟨s10, s11', s12⟩ rfl
abbrev own_EL : List (String × Nat) := consts_1
theorem own_ew {Z : State} {ag : Array Value} (hw : ∀ d ∈ tables_1, d.before ag Z = true) : EW Z ag own_EL := (EW.cons (own_wk hw 166 rfl) (by decide) EW.nil)
/-- the method that a superclass declares is the one that its lookup finds -/
theorem own_same {s : State} {args : Array Value} {y ym : MethodName} {K : String} (hinst : (Jvm.Cond.instanceMethod y).before args s = true) (hsel : (Jvm.Cond.selects K ym ym).before args s = true) (hy : y.cls ≠ "java/lang/invoke/MethodHandle" ∧ y.cls ≠ "java/lang/invoke/VarHandle") (hym : ym.cls = y.cls) : (Jvm.Cond.sameMethod y.cls y.cls y.name y.desc).before args s = true := by
  obtain ⟨mk, meth, hnamed, hmeth, -, -⟩ := Cond.instanceMethod_spec hinst
  have hfound : s.methodFound? y.cls y.name y.desc = some mk := State.methodFound?_of_named hnamed hy
  obtain ⟨c2, r2, m2, -, -, q3, -, kP, hkP, hkPi⟩ := Cond.selects_spec hsel
  have hc := findClass_of_methodNamed hnamed
  have hc2 := findClass_of_methodNamed q3
  rw [hym] at hc2
  have e : mk.cls = m2.cls := Option.some.inj (hc.symm.trans hc2)
  rw [← e] at hkP
  have hn : s.methodNamed? ⟨y.cls, y.name, y.desc⟩ = some mk := hnamed
  refine Cond.before_iff.mpr ?_
  simp [Cond.value, hc, hfound, hn, hkP, hkPi]
/-- a private method's own 'selects', out of another method's of her class, selected from a class below -/
theorem own_selq {s : State} {args : Array Value} {y ym : MethodName} {K : String} (hsel : (Jvm.Cond.selects K ym ym).before args s = true) (hym : ym.cls = y.cls) (hpriv : s.PrivateAt y) (hinst : (Jvm.Cond.instanceMethod y).before args s = true) (hy : y.cls ≠ "java/lang/invoke/MethodHandle" ∧ y.cls ≠ "java/lang/invoke/VarHandle") : (Jvm.Cond.selects y.cls y y).before args s = true := by
  obtain ⟨c2, r2, m2, -, -, q3, -, kP, hkP, hkPi⟩ := Cond.selects_spec hsel
  exact Jvm.Stand.selects_self_of_private (by rw [← hym]; exact findClass_of_methodNamed q3) hkP hkPi hpriv hinst hy
/-- a private method's own 'selects', out of another method's of her class -/
theorem own_selp {s : State} {args : Array Value} {y ym : MethodName} (hsel : (Jvm.Cond.selects ym.cls ym ym).before args s = true) (hym : ym.cls = y.cls) (hpriv : s.PrivateAt y) (hinst : (Jvm.Cond.instanceMethod y).before args s = true) (hy : y.cls ≠ "java/lang/invoke/MethodHandle" ∧ y.cls ≠ "java/lang/invoke/VarHandle") : (Jvm.Cond.selects y.cls y y).before args s = true := by
  obtain ⟨c2, r2, m2, -, -, q3, -, kP, hkP, hkPi⟩ := Cond.selects_spec hsel
  exact Jvm.Stand.selects_self_of_private (by rw [← hym]; exact findClass_of_methodNamed q3) hkP hkPi hpriv hinst hy
/-- an entry that is booked stays booked at a later state -/
theorem own_litU {s U : State} {own : String} {ix : Nat} {la : Addr} (hL : Lit s own ix la) (hW : s.Warmed39 U.vm) : Lit U own ix la := Lit.stays (s := s) (vm0 := s.vm) (vm1 := U.vm) hL hW
/-- 'backOf' for a callee whose law asks that a String constant be booked -/
theorem own_backL {l : Launch} {R : Room} {p : Program} {e : Env} {below : List Frame} {s : State} {args : Array Value} {Z : State} {a0 : Array Value} {h : Heap} {own : String} {ix : Nat} {la : Addr} {y : MethodName} {bytes : ByteArray} {maxL : Nat} {ret : Option FieldType} {rm : Room} {len W : Nat} {as' : Array Value} {Q : Option Value → Heap → List Loc → Prop}
    (hM : MetFree l y (head1 [Jvm.Cond.code y bytes maxL ret] rm) (fun a U => a = as' ∧ Z.Warmed39 U.vm ∧ U.heap = h ∧ Lit U own ix la) (fun _ _ _ _ _ => True) (fun _ U o U' => ∃ v L, o = .returned v ∧ Q v U'.heap L ∧ FrameEnd U o U' L rm.cells rm.slots))
    (hZ : Z.Warmed39 s.vm) (wc : (Jvm.Cond.code y bytes maxL ret).before a0 Z = true) (wz : (Jvm.Cond.initialized y.cls).before a0 Z = true) (hf : rm.frames + 1 ≤ R.frames) (hl : W + (maxL + 11) + rm.locals ≤ R.locals) (hL : Lit s own ix la) :
    Back l R p e below s args y len W (fun A a => a = as' ∧ A.U.heap = h ∧ A.cells + rm.cells ≤ R.cells ∧ A.slots + rm.slots ≤ R.slots)
      (fun A _ v B => ∃ L, Q v B.U.heap L ∧ B.locs = A.locs ++ L ∧ B.cells = A.cells + rm.cells ∧ B.slots = A.slots + rm.slots) :=
  Back.of_free (bytes := bytes) (maxL := maxL) (ret := ret) (E := fun _ _ o t L k n => k = rm.cells ∧ n = rm.slots ∧ ∃ v, o = .returned v ∧ Q v t.heap L) hM hf hl
    (fun m meth c A a Y hp => have hU : Z.Warmed39 A.U.vm := wtrans hZ Y.warmed
      ⟨by show (Jvm.Cond.and _ .tt).before a A.U = true; rw [Cond.before_and, mv hU wc]; rfl, mv hU wc, mv hU wz, hp.2.2.1, hp.2.2.2⟩)
    (fun m meth c A a g mk Y hp => ⟨hp.1, wtrans hZ Y.warmed, hp.2.1, own_litU hL Y.warmed.wide⟩) (fun _ _ _ _ _ _ _ _ _ => trivial)
    (fun _ _ _ _ ⟨v, L, h1, h2, h3⟩ => ⟨L, _, _, h3, rfl, rfl, v, h1, h2⟩)
    (fun m meth c A a g mk v t L k n Y hp _ _ ⟨e1, e2, v', e3, e4⟩ => by cases e3; subst e1 e2; exact ⟨L, e4, rfl, rfl, rfl⟩)
/-- 'backOfSH' for a callee whose law asks that an array be no constant's, and says more of the tables at its end -/
theorem own_backSL {p : Program} {l : Launch} {e : Env} {R : Room} {s : State} {args : Array Value} {below : List Frame} {Z : State} {a0 : Array Value} {EL : List (String × Nat)} {h : Heap} {vm0 : Vm} {x : Addr} {y : MethodName} {bytes : ByteArray} {maxL : Nat} {ret : Option FieldType} {rm : Room} {len W : Nat} {as' : Array Value} {Q : Option Value → Heap → List Loc → Prop} {Q2 : Vm → Heap → Prop}
    (hM : MetFree l y (head1 [Jvm.Cond.code y bytes maxL ret] rm) (fun a U => a = as' ∧ Z.Warmed39 U.vm ∧ U.heap = h ∧ CHv Z EL U.vm h ∧ Safe Z EL U.vm h x) (fun _ _ _ _ _ => True) (fun _ U o U' => ∃ v L, o = .returned v ∧ (Q v U'.heap L ∧ Q2 U'.vm U'.heap) ∧ CHr Z EL U.vm U.heap U'.vm U'.heap ∧ ReturnedEndW U o U' L rm.cells rm.slots))
    (hZ : Z.Warmed39 vm0) (wc : (Jvm.Cond.code y bytes maxL ret).before a0 Z = true) (wz : (Jvm.Cond.initialized y.cls).before a0 Z = true) (hf : rm.frames + 1 ≤ R.frames) (hl : W + (maxL + 11) + rm.locals ≤ R.locals) (hEL : EW Z a0 EL) (H : CHv Z EL vm0 h) (hxl : x < h.size) (hs : Safe Z EL vm0 h x) :
    BackS l R p e below (s.setVm vm0) args y len W (fun A a => a = as' ∧ A.U.heap = h ∧ A.cells + rm.cells ≤ R.cells ∧ A.slots + rm.slots ≤ R.slots)
      (fun A _ v B => ∃ L, (Q v B.U.heap L ∧ Q2 B.U.vm B.U.heap) ∧ B.locs = A.locs ++ L ∧ B.cells = A.cells + rm.cells ∧ B.slots = A.slots + rm.slots ∧ CHr Z EL vm0 h B.U.vm B.U.heap) :=
  BackS.of_freeW (bytes := bytes) (maxL := maxL) (ret := ret) (E := fun _ first o t L k n => k = rm.cells ∧ n = rm.slots ∧ (∃ v, o = .returned v ∧ Q v t.heap L ∧ Q2 t.vm t.heap) ∧ CHr Z EL first.vm first.heap t.vm t.heap) hM hf hl
    (fun m meth c A a Y hp => have hU : Z.Warmed39 A.U.vm := wtrans (s := s.setVm vm0) hZ Y.warmed
      ⟨by show (Jvm.Cond.and _ .tt).before a A.U = true; rw [Cond.before_and, mv hU wc]; rfl, mv hU wc, mv hU wz, hp.2.2.1, hp.2.2.2⟩)
    (fun m meth c A a g mk Y hp => ⟨hp.1, wtrans (s := s.setVm vm0) hZ Y.warmed, hp.2.1, (CHv.at Y hZ hEL H).1, (CHv.at Y hZ hEL H).safe hxl hs⟩) (fun _ _ _ _ _ _ _ _ _ => trivial)
    (fun _ _ _ _ ⟨v, L, h1, h2, h3, h4⟩ => ⟨L, _, _, h4, rfl, rfl, ⟨v, h1, h2⟩, h3⟩)
    (fun m meth c A a g mk v t L k n Y hp _ _ ⟨e1, e2, ⟨v', e3, e4⟩, e5⟩ => by
      cases e3; subst e1 e2
      refine ⟨L, e4, rfl, rfl, rfl, (CHv.at Y hZ hEL H).trans ?_⟩
      rw [← hp.2.1]; exact e5)
/-- a local variable that holds nothing, or a value of one word -/
def own_c1 (x : Slot) : Prop := x = .unset ∨ ∃ v : Value, x = .val v ∧ v.category = 1
theorem own_store1 {l l' : Array Slot} {i : Nat} {v : Value} {x : Slot} (hv : v.category = 1) (h : l[i]? = some x) (c : own_c1 x) (q : l.setIfInBounds i (.val v) = l') : storeLocals l i v = some l' := by
  subst q
  have hi : i < l.size := (Array.getElem?_eq_some_iff.mp h).1
  have h2 : ¬ v.category = 2 := by rw [hv]; decide
  have e : storeSelf l i v = some (l.setIfInBounds i (.val v)) := by
    delta storeSelf
    rw [show setAt l i (.val v) = some (l.setIfInBounds i (.val v)) from if_pos hi]
    exact if_neg h2
  delta storeLocals
  rw [h]
  rcases c with rfl | ⟨w, rfl, hw⟩
  · exact e
  · have h3 : ¬ w.category = 2 := by rw [hw]; decide
    exact (if_neg h3).trans e
/-- row, escapeRead, digitEscape, the count of the digits held, the chars, the builder's bytes -/
abbrev own_Sg : Type := Int32 × Int32 × Int32 × Int32 × List Int32 × List Value
def own_at (cs : List Int32) (j : Int32) : Int32 := cs.getD j.toNatClampNeg 0
def own_u (er : Int32) : Int32 := [(117 : Int32), 48, 48, 51].getD er.toNatClampNeg 0
def own_may (c : Int32) : Int32 := if own_isD c = (0 : Int32) then (if c = (92 : Int32) then (1 : Int32) else (if c = (117 : Int32) then (1 : Int32) else (0 : Int32))) else (1 : Int32)
def own_count (i p3 : Int32) (σ : own_Sg) : own_Sg :=
  if p3 = (0 : Int32) then ((0 : Int32), σ.2) else if (19 : Int32) < σ.1 + (1 : Int32) then (σ.1 + (1 : Int32), σ.2.1, σ.2.2.1, σ.2.2.2.1 + (1 : Int32), σ.2.2.2.2.1.set i.toNatClampNeg 57, σ.2.2.2.2.2.set σ.2.2.2.1.toNatClampNeg (.int (nar .byte ((own_at σ.2.2.2.2.1 i).toInt8.toInt32)))) else (σ.1 + (1 : Int32), σ.2)
def own_de (er de c : Int32) : Int32 := if er = (0 : Int32) then (if c = own_u er then (1 : Int32) else (0 : Int32)) else (if de = (0 : Int32) then (0 : Int32) else (if c = own_u er then (1 : Int32) else (0 : Int32)))
def own_fl (de c : Int32) : Int32 := if de = (0 : Int32) then (0 : Int32) else (if own_isD c = (0 : Int32) then (0 : Int32) else (1 : Int32))
def own_er (v : Int32) (σ : own_Sg) : own_Sg := (σ.1, v, σ.2.2)
def own_esc2 (i : Int32) (σ : own_Sg) : own_Sg :=
  if σ.2.1 < (4 : Int32) then (σ.1, σ.2.1 + (1 : Int32), own_de σ.2.1 σ.2.2.1 (own_at σ.2.2.2.2.1 i), σ.2.2.2) else own_er (-1) (own_count i (own_fl σ.2.2.1 (own_at σ.2.2.2.2.1 i)) σ)
def own_esc (i : Int32) (σ : own_Sg) : own_Sg :=
  if σ.2.1 = (0 : Int32) then (if own_at σ.2.2.2.2.1 i = (117 : Int32) then own_esc2 i σ else ((0 : Int32), (-1 : Int32), σ.2.2)) else own_esc2 i σ
def own_take (i : Int32) (σ : own_Sg) : own_Sg :=
  if σ.2.1 < (0 : Int32) then (if own_at σ.2.2.2.2.1 i = (92 : Int32) then own_er 0 σ else own_count i (own_isD (own_at σ.2.2.2.2.1 i)) σ) else own_esc i σ
def own_run (cs : List Int32) (st : Int32) : Nat → Int32 → Int32
  | 0, r => r
  | f + 1, r => if st < r then (if own_may (own_at cs (r - (1 : Int32))) = (0 : Int32) then r else own_run cs st f (r + (Int32.ofInt (-1)))) else r
def own_for (lim : Int32) : Nat → Int32 → own_Sg → own_Sg
  | 0, _, σ => σ
  | f + 1, i, σ => if i < lim then own_for lim f (i + (1 : Int32)) (own_take i σ) else σ
/-- alike but for the count, which is d greater -/
def own_sim (d : Int32) (σ τ : own_Sg) : Prop := σ.1 = τ.1 ∧ σ.2.1 = τ.2.1 ∧ σ.2.2.1 = τ.2.2.1 ∧ σ.2.2.2.1 = τ.2.2.2.1 + d ∧ σ.2.2.2.2.1 = τ.2.2.2.2.1
theorem own_sim.count {d i p3 : Int32} {σ τ : own_Sg} (h : own_sim d σ τ) : own_sim d (own_count i p3 σ) (own_count i p3 τ) := by
  obtain ⟨h1, h2, h3, h4, h5⟩ := h
  unfold own_count
  by_cases a : p3 = (0 : Int32)
  · rw [if_pos a, if_pos a]; exact ⟨rfl, h2, h3, h4, h5⟩
  · rw [if_neg a, if_neg a, ← h1]
    by_cases b : (19 : Int32) < σ.1 + (1 : Int32)
    · rw [if_pos b, if_pos b]
      refine ⟨rfl, h2, h3, ?_, ?_⟩
      · show σ.2.2.2.1 + (1 : Int32) = τ.2.2.2.1 + (1 : Int32) + d
        rw [h4, Int32.add_assoc, Int32.add_comm d, ← Int32.add_assoc]
      · show σ.2.2.2.2.1.set i.toNatClampNeg 57 = τ.2.2.2.2.1.set i.toNatClampNeg 57
        rw [h5]
    · rw [if_neg b, if_neg b]; exact ⟨rfl, h2, h3, h4, h5⟩
theorem own_sim.er {d v : Int32} {σ τ : own_Sg} (h : own_sim d σ τ) : own_sim d (own_er v σ) (own_er v τ) := ⟨h.1, rfl, h.2.2⟩
theorem own_sim.esc2 {d i : Int32} {σ τ : own_Sg} (h : own_sim d σ τ) : own_sim d (own_esc2 i σ) (own_esc2 i τ) := by
  have hc := fun p3 => (own_sim.count (i := i) (p3 := p3) h).er (v := -1)
  obtain ⟨h1, h2, h3, h4, h5⟩ := h
  unfold own_esc2
  rw [← h2, ← h3, ← h5]
  by_cases a : σ.2.1 < (4 : Int32)
  · rw [if_pos a, if_pos a]; exact ⟨h1, rfl, rfl, h4, h5⟩
  · rw [if_neg a, if_neg a]; exact hc _
theorem own_sim.esc {d i : Int32} {σ τ : own_Sg} (h : own_sim d σ τ) : own_sim d (own_esc i σ) (own_esc i τ) := by
  have hc := own_sim.esc2 (i := i) h
  obtain ⟨h1, h2, h3, h4, h5⟩ := h
  unfold own_esc
  rw [← h2, ← h5]
  by_cases a : σ.2.1 = (0 : Int32)
  · rw [if_pos a, if_pos a]
    by_cases b : own_at σ.2.2.2.2.1 i = (117 : Int32)
    · rw [if_pos b, if_pos b]; exact hc
    · rw [if_neg b, if_neg b]; exact ⟨rfl, rfl, h3, h4, h5⟩
  · rw [if_neg a, if_neg a]; exact hc
theorem own_sim.take {d i : Int32} {σ τ : own_Sg} (h : own_sim d σ τ) : own_sim d (own_take i σ) (own_take i τ) := by
  have hc := fun p3 => own_sim.count (i := i) (p3 := p3) h
  have he := own_sim.esc (i := i) h
  have h0 := own_sim.er (v := 0) h
  obtain ⟨h1, h2, h3, h4, h5⟩ := h
  unfold own_take
  rw [← h2, ← h5]
  by_cases a : σ.2.1 < (0 : Int32)
  · rw [if_pos a, if_pos a]
    by_cases b : own_at σ.2.2.2.2.1 i = (92 : Int32)
    · rw [if_pos b, if_pos b]; exact h0
    · rw [if_neg b, if_neg b]; exact hc _
  · rw [if_neg a, if_neg a]; exact he
theorem own_sim.for {d lim : Int32} : ∀ (f : Nat) (i : Int32) {σ τ : own_Sg}, own_sim d σ τ → own_sim d (own_for lim f i σ) (own_for lim f i τ)
  | 0, _, _, _, h => h
  | f + 1, i, σ, τ, h => by
    unfold own_for
    by_cases a : i < lim
    · rw [if_pos a, if_pos a]; exact own_sim.for f _ h.take
    · rw [if_neg a, if_neg a]; exact h
/-- after k chars taken: the row is at most k long, and no more than k - 19 digits are held beyond c0 -/
def own_J (n c0 k : Nat) (σ : own_Sg) : Prop := 0 ≤ σ.1.toInt ∧ σ.1.toInt ≤ k ∧ (c0 : Int) ≤ σ.2.2.2.1.toInt ∧ σ.2.2.2.1.toInt ≤ ((c0 + (k - 19) : Nat) : Int) ∧ σ.2.2.2.2.1.length = n ∧ σ.2.2.2.2.2.length = 16
theorem own_add1 {x : Int32} {k : Nat} (h0 : 0 ≤ x.toInt) (h : x.toInt ≤ k) (hk : k < 1000) : (x + (1 : Int32)).toInt = x.toInt + 1 := by
  rw [Int32.toInt_add]
  have e : (1 : Int32).toInt = 1 := rfl
  rw [e]
  exact Int.bmod_eq_of_le (by omega) (by omega)
theorem own_J.mono {n c0 k k' : Nat} {σ : own_Sg} (h : own_J n c0 k σ) (hk : k ≤ k') : own_J n c0 k' σ := by
  obtain ⟨h1, h2, h3, h4, h5, h6⟩ := h
  exact ⟨h1, by omega, h3, by omega, h5, h6⟩
theorem own_J.count {n c0 k : Nat} {i p3 : Int32} {σ : own_Sg} (h : own_J n c0 k σ) (hk : k < 100) (hc : c0 < 100) : own_J n c0 (k + 1) (own_count i p3 σ) := by
  obtain ⟨h1, h2, h3, h4, h5, h6⟩ := h
  have z0 : (0 : Int32).toInt = 0 := rfl
  have r1 := own_add1 h1 h2 (by omega)
  have c1 := own_add1 (x := σ.2.2.2.1) (k := c0 + (k - 19)) (by omega) h4 (by omega)
  unfold own_count
  by_cases a : p3 = (0 : Int32)
  · rw [if_pos a]
    exact ⟨(by omega : 0 ≤ (0 : Int32).toInt), (by omega : (0 : Int32).toInt ≤ ((k + 1 : Nat) : Int)), h3, (by omega : σ.2.2.2.1.toInt ≤ ((c0 + (k + 1 - 19) : Nat) : Int)), h5, h6⟩
  · rw [if_neg a]
    by_cases b : (19 : Int32) < σ.1 + (1 : Int32)
    · rw [if_pos b]
      rw [Int32.lt_iff_toInt_lt, r1] at b
      have e19 : (19 : Int32).toInt = 19 := rfl
      rw [e19] at b
      refine ⟨(?_ : 0 ≤ (σ.1 + (1 : Int32)).toInt), (?_ : (σ.1 + (1 : Int32)).toInt ≤ ((k + 1 : Nat) : Int)), (?_ : (c0 : Int) ≤ (σ.2.2.2.1 + (1 : Int32)).toInt), (?_ : (σ.2.2.2.1 + (1 : Int32)).toInt ≤ ((c0 + (k + 1 - 19) : Nat) : Int)), (?_ : (σ.2.2.2.2.1.set i.toNatClampNeg 57).length = n), (List.length_set ..).trans h6⟩
      · omega
      · omega
      · omega
      · omega
      · rw [List.length_set]; exact h5
    · rw [if_neg b]
      exact ⟨(by omega : 0 ≤ (σ.1 + (1 : Int32)).toInt), (by omega : (σ.1 + (1 : Int32)).toInt ≤ ((k + 1 : Nat) : Int)), h3, (by omega : σ.2.2.2.1.toInt ≤ ((c0 + (k + 1 - 19) : Nat) : Int)), h5, h6⟩
theorem own_J.er {n c0 k : Nat} {v : Int32} {σ : own_Sg} (h : own_J n c0 k σ) : own_J n c0 k (own_er v σ) := h
theorem own_J.esc2 {n c0 k : Nat} {i : Int32} {σ : own_Sg} (h : own_J n c0 k σ) (hk : k < 100) (hc : c0 < 100) : own_J n c0 (k + 1) (own_esc2 i σ) := by
  unfold own_esc2
  by_cases a : σ.2.1 < (4 : Int32)
  · rw [if_pos a]
    obtain ⟨h1, h2, h3, h4, h5, h6⟩ := h.mono (Nat.le_succ k)
    exact ⟨h1, h2, h3, h4, h5, h6⟩
  · rw [if_neg a]; exact (own_J.count h hk hc).er
theorem own_J.take {n c0 k : Nat} {i : Int32} {σ : own_Sg} (h : own_J n c0 k σ) (hk : k < 100) (hc : c0 < 100) : own_J n c0 (k + 1) (own_take i σ) := by
  have e2 := own_J.esc2 (i := i) h hk hc
  have m := h.mono (Nat.le_succ k)
  unfold own_take
  by_cases a : σ.2.1 < (0 : Int32)
  · rw [if_pos a]
    by_cases b : own_at σ.2.2.2.2.1 i = (92 : Int32)
    · rw [if_pos b]; exact m.er
    · rw [if_neg b]; exact own_J.count h hk hc
  · rw [if_neg a]
    unfold own_esc
    by_cases b : σ.2.1 = (0 : Int32)
    · rw [if_pos b]
      by_cases c : own_at σ.2.2.2.2.1 i = (117 : Int32)
      · rw [if_pos c]; exact e2
      · rw [if_neg c]
        obtain ⟨h1, h2, h3, h4, h5, h6⟩ := m
        have z0 : (0 : Int32).toInt = 0 := rfl
        exact ⟨(by omega : 0 ≤ (0 : Int32).toInt), (by omega : (0 : Int32).toInt ≤ ((k + 1 : Nat) : Int)), h3, h4, h5, h6⟩
    · rw [if_neg b]; exact e2
theorem pn_2 : plainName "java/lang/AbstractStringBuilder" = true := by first | (simp [plainName, overriddenIn]; done) | decide +kernel
theorem ef_8_v16 (m : MethodId) (a0 : Addr) : entryFrame m #[(.ref a0), (.int (16 : Int32))] 2 = mkF m 0 #[.val (.ref a0), .val (.int 16)] [] := by first | (simp [entryFrame, mkF, argsToLocals, Value.category]; done) | rfl
abbrev own_d8 (p : Nat) (i : Instr) (n : Nat) : Prop := decode jdk_68_method_2_code p = .ok (i, n)
theorem d8_0 : own_d8 0 (.aload_n 0) 1 := by decide +kernel
theorem d8_1 : own_d8 1 (.invokespecial 3) 3 := by decide +kernel
theorem d8_4 : own_d8 4 (.getstatic 18) 3 := by decide +kernel
theorem d8_7 : own_d8 7 (.ifCond .eq 18) 3 := by decide +kernel
theorem d8_10 : own_d8 10 (.aload_n 0) 1 := by decide +kernel
theorem d8_11 : own_d8 11 (.iload_n 1) 1 := by decide +kernel
theorem d8_12 : own_d8 12 (.newarray .byte) 2 := by decide +kernel
theorem d8_14 : own_d8 14 (.putfield 15) 3 := by decide +kernel
theorem d8_17 : own_d8 17 (.aload_n 0) 1 := by decide +kernel
theorem d8_18 : own_d8 18 (.iconst 0) 1 := by decide +kernel
theorem d8_19 : own_d8 19 (.putfield 22) 3 := by decide +kernel
theorem d8_22 : own_d8 22 (.goto 16) 3 := by decide +kernel
theorem d8_38 : own_d8 38 .return_ 1 := by decide +kernel
def Q8 (Z : State) (a0 : Addr) (cs : Int32) (h0 : Heap) (n0 : Nat) (v : Option Value) (h : Heap) (L : List Loc) : Prop := ∃ (vb : Addr) (kb : ClassId), v = none ∧ Fr n0 L ∧ Keep h0 h [a0] ∧ (n0 ≤ vb ∧ h0.size ≤ vb) ∧ Fld Z h a0 "java/lang/AbstractStringBuilder" "value" "[B" (.ref vb) ∧ Fld Z h a0 "java/lang/AbstractStringBuilder" "coder" "B" (.int (0 : Int32)) ∧ Fld Z h a0 "java/lang/AbstractStringBuilder" "count" "I" (.int (0 : Int32)) ∧ Arv Z h vb kb .byte (16 : Int32) (List.replicate 16 (.int (0 : Int32))) (.int (0 : Int32))
set_option maxRecDepth 65536 in
set_option maxHeartbeats 40000000 in
theorem rm8 (l : Launch) (Z : State) (ag : Array Value) (hw : ∀ d ∈ tables_1, d.before ag Z = true) (ws : List Jvm.Cond) (a0 : Addr) (cs : Int32) (h0 : Heap) (n0 : Nat) (Z0 : n0 ≤ h0.size) (E_a0 : Exa Z h0 a0 "java/lang/StringBuilder") (F_value_a0 : Fld Z h0 a0 "java/lang/AbstractStringBuilder" "value" "[B" .null) (F_coder_a0 : Fld Z h0 a0 "java/lang/AbstractStringBuilder" "coder" "B" (.int (0 : Int32))) (F_count_a0 : Fld Z h0 a0 "java/lang/AbstractStringBuilder" "count" "I" (.int (0 : Int32))) (ge_a0 : n0 ≤ a0) (O_ : Old Z n0 h0) (S_cs : Sta Z Z.heap "java/lang/String" "COMPACT_STRINGS" "Z" (.int cs)) (hcs : ¬ cs = (0 : Int32)) :
    MetFree l (⟨"java/lang/AbstractStringBuilder", "<init>", "(I)V"⟩ : MethodName) (head1 (Jvm.Cond.code (⟨"java/lang/AbstractStringBuilder", "<init>", "(I)V"⟩ : MethodName) jdk_68_method_2_code 2 none :: ws) ({ frames := 1, cells := 1, slots := 16, locals := 12 } : Room)) (fun a U => a = #[(.ref a0), (.int (16 : Int32))] ∧ Z.Warmed39 U.vm ∧ U.heap = h0) (fun _ _ _ _ _ => True) (fun _ U o U' => ∃ v L, o = .returned v ∧ Q8 Z a0 cs h0 n0 v U'.heap L ∧ FrameEnd U o U' L ({ frames := 1, cells := 1, slots := 16, locals := 12 } : Room).cells ({ frames := 1, cells := 1, slots := 16, locals := 12 } : Room).slots) := by
  refine MetFree.of_bodySF (plainFor_of_name pn_2) hisR ?_
  intro p e s m args below meth c s₁ Bd hml0 hP hK
  obtain ⟨rfl, hZ, hh⟩ := hP
  have hx := Bd.exec
  have hby := Bd.bytes
  have hml : c.maxLocals = 2 := hml0
  have hown : s.vm.findClass "java/lang/AbstractStringBuilder" = some m.cls := findClass_of_methodNamed Bd.named
  have hnm := (name_of_methodNamed Bd.named Bd.method).1
  have X0 : Stand p l e ({ frames := 1, cells := 1, slots := 16, locals := 12 } : Room) s m #[(.ref a0), (.int (16 : Int32))] below meth c s₁ [] 0 0 := Stand.of_body Bd
  have e0 : s₁.heap = h0 := by rw [← hh, Bd.state]; rfl
  have N0 := Fr.nil n0
  have pre0 : ∀ t, Steps p.tables e below (s₁.setTop (mkF m 0 #[.val (.ref a0), .val (.int 16)] [])) t → Steps p.tables e below (s₁.setTop (entryFrame m #[(.ref a0), (.int (16 : Int32))] 2)) t := fun t k => castTop (ef_8_v16 m a0) k
  obtain ⟨T12, X12, e12, st12⟩ := initO X0 hx hZ hown (own_wk hw 38 rfl) (own_wk hw 24 rfl) (own_wk hw 25 rfl) e0 (g := (mkF m 1 #[.val (.ref a0), .val (.int 16)] [(.ref a0)])) rfl (by rw [hml]; rfl) rfl (hb hby d8_1) (by decide) (W := 0) (by show 2 * 0 + _ ≤ _; exact Nat.le_of_eq rfl) (by decide)
  obtain ⟨T13, X13, e13, st13⟩ := getS2 X12 hx hZ hown (host := "") (Or.inl (own_wk hw 39 rfl)) Via.refl e12 (Sta.ext O_.2 S_cs) (g := (mkF m 4 #[.val (.ref a0), .val (.int 16)] [])) rfl (hb hby d8_4)
  obtain ⟨T14, h14, k14, X14, e14, E14, A14, st14⟩ := newP X13 hx hZ (own_wk hw 41 rfl) e13 (g := (mkF m 12 #[.val (.ref a0), .val (.int 16)] [.int 16, (.ref a0)])) rfl (hb hby d8_12) rfl (by decide) (cap := 16) (by decide) (by decide) (by decide) (by decide)
  obtain ⟨b14, g14⟩ : ∃ z, z = h0.size := ⟨_, rfl⟩
  have ne15 : a0 ≠ b14 := Nat.ne_of_lt (Nat.lt_of_lt_of_le E_a0.lt (Nat.le_of_eq g14.symm))
  have ge_b14 : n0 ≤ b14 := Nat.le_trans Z0 (Nat.le_of_eq g14.symm)
  have gs_b14 : h0.size ≤ b14 := Nat.le_trans (Keep.refl h0 [a0]).1 (Nat.le_of_eq g14.symm)
  rw [← g14] at A14 st14
  have x16 := E_a0.ext E14
  have x17 := F_value_a0.ext E14
  have x18 := F_coder_a0.ext E14
  have x19 := F_count_a0.ext E14
  have x20 := O_.ext E14
  have sz21 : n0 ≤ h14.size := Nat.le_trans Z0 E14.1
  have kp22 : Keep h0 h14 [a0] := (Keep.refl h0 [a0]).ext E14
  have V14 : Arv Z h14 b14 k14 .byte (16 : Int32) (List.replicate 16 (.int (0 : Int32))) (.int (0 : Int32)) := (Arv.new A14 (by decide)).pad (pad_rep [] (.int (0 : Int32)) 16)
  obtain ⟨T23, h23, X23, e23, W23, st23⟩ := putF X14 hx hZ hown (host := "") (Or.inl (own_wk hw 42 rfl)) Via.refl e14 x17 x16 (Or.inl (own_wk hw 43 rfl)) (own_wk hw 27 rfl) (ty := (.array .byte)) (by decide) rfl rfl (g := (mkF m 14 #[.val (.ref a0), .val (.int 16)] [(.ref b14), (.ref a0)])) rfl rfl (hb hby d8_14)
  have Fw23 := x17.same W23
  have x24 := x16.wr W23
  have x25 := x18.other W23 (Or.inr (slot_ne (Or.inl (own_wk hw 45 rfl)) (Or.inl (own_wk hw 43 rfl)) (by decide) (t := .byte) (t' := (.array .byte)) (by decide) (by decide)))
  have x26 := x19.other W23 (Or.inr (slot_ne (Or.inl (own_wk hw 90 rfl)) (Or.inl (own_wk hw 43 rfl)) (by decide) (t := .int) (t' := (.array .byte)) (by decide) (by decide)))
  have x27 := x20.wr W23 ge_a0
  have x28 := V14.other W23 (Ne.symm ne15)
  have sz29 : n0 ≤ h23.size := Nat.le_trans sz21 (Keep.of_wr W23).1
  have kp30 : Keep h0 h23 [a0] := kp22.wr W23 (Or.inl (List.mem_of_getElem? (i := 0) rfl))
  have N23 := Fr.snoc X23 N0 ge_a0
  obtain ⟨T31, h31, X31, e31, W31, st31⟩ := putFN X23 hx hZ hown (own_wk hw 44 rfl) Via.refl e23 x25 x24 (Or.inl (own_wk hw 45 rfl)) (own_wk hw 27 rfl) (ty := .byte) (v' := (.int (0 : Int32))) (by decide) rfl (fits_nar_byte (0 : Int32)) (g := (mkF m 19 #[.val (.ref a0), .val (.int 16)] [.int 0, (.ref a0)])) rfl rfl (hb hby d8_19)
  have Fw31 := x25.same W31
  have x32 := x24.wr W31
  have x33 := x26.other W31 (Or.inr (slot_ne (Or.inl (own_wk hw 90 rfl)) (Or.inl (own_wk hw 45 rfl)) (by decide) (t := .int) (t' := .byte) (by decide) (by decide)))
  have x34 := x27.wr W31 ge_a0
  have x35 := x28.other W31 (Ne.symm ne15)
  have x36 := Fw23.other W31 (Or.inr (slot_ne (Or.inl (own_wk hw 43 rfl)) (Or.inl (own_wk hw 45 rfl)) (by decide) (t := (.array .byte)) (t' := .byte) (by decide) (by decide)))
  have sz37 : n0 ≤ h31.size := Nat.le_trans sz29 (Keep.of_wr W31).1
  have kp38 : Keep h0 h31 [a0] := kp30.wr W31 (Or.inl (List.mem_of_getElem? (i := 0) rfl))
  have N31 := Fr.snoc X31 N23 ge_a0
  obtain ⟨fs, hr, hrun, hended, hW, hsame⟩ := X31.leave (v := none) (fun _ => rfl)
  refine ⟨_, _, pre0 _ ?_, hrun, hended, _, _, rfl, ?_, ⟨_, rfl⟩, hW, hsame.mono (by decide) (by decide)⟩
  · show own_S p e below s₁ (mkF m 0 #[.val (.ref a0), .val (.int 16)] []) _
    refine XS.aloadN X0.here hx rfl (hb hby d8_0) rfl rfl (st12 _ (st13 _ (XS.ifNo X13.here hx rfl (hb hby d8_7) rfl ((if0 _ _).trans (feq (show ¬ (cs = (0 : Int32)) from hcs)).1) (XS.aloadN X13.here hx rfl (hb hby d8_10) rfl rfl (XS.iloadN X13.here hx rfl (hb hby d8_11) rfl (st14 _ (st23 _ (XS.aloadN X23.here hx rfl (hb hby d8_17) rfl rfl (XS.iconst X23.here hx rfl (hb hby d8_18) ?_)))))))))
    refine st31 _ (XS.goto X31.here hx rfl (pc0 := 22) (pc' := 38) rfl (hb hby d8_22) (by decide) (by decide) ?_)
    show own_S p e below T31 (mkF m 38 #[.val (.ref a0), .val (.int 16)] []) _
    exact X31.returnOut hx Bd.returns (hb hby d8_38) hr
  · show Q8 Z a0 cs h0 n0 _ T31.heap _
    rw [e31]
    exact ⟨b14, k14, rfl, N31, kp38, ⟨ge_b14, gs_b14⟩, x36, Fw31, x33, x35⟩
theorem pn_6 : plainName "java/lang/StringBuilder" = true := by first | (simp [plainName, overriddenIn]; done) | decide +kernel
theorem ef_7 (m : MethodId) (a0 : Addr) : entryFrame m #[(.ref a0)] 1 = mkF m 0 #[.val (.ref a0)] [] := by first | (simp [entryFrame, mkF, argsToLocals, Value.category]; done) | rfl
abbrev own_d7 (p : Nat) (i : Instr) (n : Nat) : Prop := decode jdk_67_method_1_code p = .ok (i, n)
theorem d7_0 : own_d7 0 (.aload_n 0) 1 := by decide +kernel
theorem d7_1 : own_d7 1 (.bipush 16) 2 := by decide +kernel
theorem pd_8 : parseMethodDescriptor "(I)V" = some ⟨[.int], none⟩ := by decide +kernel
theorem d7_3 : own_d7 3 (.invokespecial 1) 3 := by decide +kernel
theorem d7_6 : own_d7 6 .return_ 1 := by decide +kernel
def Q7 (Z : State) (a0 : Addr) (cs : Int32) (h0 : Heap) (n0 : Nat) (v : Option Value) (h : Heap) (L : List Loc) : Prop := ∃ (vb : Addr) (kb : ClassId), v = none ∧ Fr n0 L ∧ Keep h0 h [a0] ∧ (n0 ≤ vb ∧ h0.size ≤ vb) ∧ Fld Z h a0 "java/lang/AbstractStringBuilder" "value" "[B" (.ref vb) ∧ Fld Z h a0 "java/lang/AbstractStringBuilder" "coder" "B" (.int (0 : Int32)) ∧ Fld Z h a0 "java/lang/AbstractStringBuilder" "count" "I" (.int (0 : Int32)) ∧ Arv Z h vb kb .byte (16 : Int32) (List.replicate 16 (.int (0 : Int32))) (.int (0 : Int32))
set_option maxRecDepth 65536 in
set_option maxHeartbeats 40000000 in
theorem rm7 (l : Launch) (Z : State) (ag : Array Value) (hw : ∀ d ∈ tables_1, d.before ag Z = true) (ws : List Jvm.Cond) (a0 : Addr) (cs : Int32) (h0 : Heap) (n0 : Nat) (Z0 : n0 ≤ h0.size) (E_a0 : Exa Z h0 a0 "java/lang/StringBuilder") (F_value_a0 : Fld Z h0 a0 "java/lang/AbstractStringBuilder" "value" "[B" .null) (F_coder_a0 : Fld Z h0 a0 "java/lang/AbstractStringBuilder" "coder" "B" (.int (0 : Int32))) (F_count_a0 : Fld Z h0 a0 "java/lang/AbstractStringBuilder" "count" "I" (.int (0 : Int32))) (ge_a0 : n0 ≤ a0) (O_ : Old Z n0 h0) (S_cs : Sta Z Z.heap "java/lang/String" "COMPACT_STRINGS" "Z" (.int cs)) (hcs : ¬ cs = (0 : Int32)) :
    MetFree l (⟨"java/lang/StringBuilder", "<init>", "()V"⟩ : MethodName) (head1 (Jvm.Cond.code (⟨"java/lang/StringBuilder", "<init>", "()V"⟩ : MethodName) jdk_67_method_1_code 1 none :: ws) ({ frames := 2, cells := 1, slots := 16, locals := 25 } : Room)) (fun a U => a = #[(.ref a0)] ∧ Z.Warmed39 U.vm ∧ U.heap = h0) (fun _ _ _ _ _ => True) (fun _ U o U' => ∃ v L, o = .returned v ∧ Q7 Z a0 cs h0 n0 v U'.heap L ∧ FrameEnd U o U' L ({ frames := 2, cells := 1, slots := 16, locals := 25 } : Room).cells ({ frames := 2, cells := 1, slots := 16, locals := 25 } : Room).slots) := by
  refine MetFree.of_bodySF (plainFor_of_name pn_6) hisR ?_
  intro p e s m args below meth c s₁ Bd hml0 hP hK
  obtain ⟨rfl, hZ, hh⟩ := hP
  have hx := Bd.exec
  have hby := Bd.bytes
  have hml : c.maxLocals = 1 := hml0
  have hown : s.vm.findClass "java/lang/StringBuilder" = some m.cls := findClass_of_methodNamed Bd.named
  have hnm := (name_of_methodNamed Bd.named Bd.method).1
  have X0 : Stand p l e ({ frames := 2, cells := 1, slots := 16, locals := 25 } : Room) s m #[(.ref a0)] below meth c s₁ [] 0 0 := Stand.of_body Bd
  have e0 : s₁.heap = h0 := by rw [← hh, Bd.state]; rfl
  have N0 := Fr.nil n0
  have pre0 : ∀ t, Steps p.tables e below (s₁.setTop (mkF m 0 #[.val (.ref a0)] [])) t → Steps p.tables e below (s₁.setTop (entryFrame m #[(.ref a0)] 1)) t := fun t k => castTop (ef_7 m a0) k
  obtain ⟨_, _, ⟨T39, L39, k39, n39⟩, -, X39, ⟨Lc39, hQ39, l39, y39, z39⟩, st39⟩ := X0.specialBack hx (y := (⟨"java/lang/AbstractStringBuilder", "<init>", "(I)V"⟩ : MethodName)) rfl hown (mvT hZ (own_wk hw 32 rfl)) (mvT hZ (own_wk hw 33 rfl)) (mvT hZ (own_wk hw 37 rfl)) (by decide) (backOf (W := 0) (rm8 l Z ag hw [] a0 cs h0 n0 Z0 E_a0 F_value_a0 F_coder_a0 F_count_a0 ge_a0 O_ S_cs hcs) hZ (own_wk hw 37 rfl) (own_wk hw 36 rfl) (by decide) (by decide)) (g := (mkF m 3 #[.val (.ref a0)] [.int 16, (.ref a0)])) rfl (by rw [hml]; rfl) (Steps.refl _) (a := a0) (argsL := [(.int (16 : Int32))]) (rest := []) (lenOf pd_8 rfl) rfl (by show 2 * 0 + _ ≤ _; exact Nat.le_of_eq rfl) (hb hby d7_3) (fun _ _ => ⟨rfl, e0, (by decide : 0 + 1 ≤ _), (by decide : 0 + 16 ≤ _)⟩)
  dsimp only [Pt.U, Pt.locs, Pt.cells, Pt.slots] at X39 l39 y39 z39 st39 hQ39
  subst l39 y39 z39
  obtain ⟨vb39, kb39, rfl, N39q, K39, ⟨ge_vb39, gqq_vb39⟩, o39_0, o39_1, o39_2, o39_3⟩ := hQ39
  have N39 := Fr.app N0 N39q
  have ne40 : a0 ≠ vb39 := Nat.ne_of_lt (Nat.lt_of_lt_of_le E_a0.lt gqq_vb39)
  have gs_vb39 : h0.size ≤ vb39 := Nat.le_trans (Keep.refl h0 [a0]).1 gqq_vb39
  have x41 := E_a0.keep K39
  have x42 := O_.keep K39 (allS ge_a0 all0)
  have sz43 : n0 ≤ T39.heap.size := Nat.le_trans Z0 K39.1
  have kp44 : Keep h0 T39.heap [a0] := (Keep.refl h0 [a0]).trans K39 (allS (Or.inl (List.mem_of_getElem? (i := 0) rfl)) all0)
  obtain ⟨fs, hr, hrun, hended, hW, hsame⟩ := X39.leave (v := none) (fun _ => rfl)
  refine ⟨_, _, pre0 _ ?_, hrun, hended, _, _, rfl, ?_, ⟨_, rfl⟩, hW, hsame.mono (by decide) (by decide)⟩
  · show own_S p e below s₁ (mkF m 0 #[.val (.ref a0)] []) _
    refine XS.aloadN X0.here hx rfl (hb hby d7_0) rfl rfl (XS.bipush X0.here hx rfl (hb hby d7_1) (st39.trans ?_))
    show own_S p e below T39 (mkF m 6 #[.val (.ref a0)] []) _
    exact X39.returnOut hx Bd.returns (hb hby d7_6) hr
  · show Q7 Z a0 cs h0 n0 _ T39.heap _
    exact ⟨vb39, kb39, rfl, N39, kp44, ⟨ge_vb39, gs_vb39⟩, o39_0, o39_1, o39_2, o39_3⟩
theorem ef_5 (m : MethodId) (a0 : Addr) : entryFrame m #[(.ref a0)] 1 = mkF m 0 #[.val (.ref a0)] [] := by first | (simp [entryFrame, mkF, argsToLocals, Value.category]; done) | rfl
abbrev own_d5 (p : Nat) (i : Instr) (n : Nat) : Prop := decode prog_32_method_1_code p = .ok (i, n)
theorem d5_0 : own_d5 0 (.aload_n 0) 1 := by decide +kernel
theorem d5_1 : own_d5 1 (.invokespecial 1) 3 := by decide +kernel
theorem d5_4 : own_d5 4 (.aload_n 0) 1 := by decide +kernel
theorem d5_5 : own_d5 5 (.new 7) 3 := by decide +kernel
theorem d5_8 : own_d5 8 .dup 1 := by decide +kernel
theorem pd_2 : parseMethodDescriptor "()V" = some ⟨[], none⟩ := by decide +kernel
theorem d5_9 : own_d5 9 (.invokespecial 9) 3 := by decide +kernel
theorem d5_12 : own_d5 12 (.putfield 10) 3 := by decide +kernel
theorem d5_15 : own_d5 15 (.aload_n 0) 1 := by decide +kernel
theorem d5_16 : own_d5 16 (.iconst (-1)) 1 := by decide +kernel
theorem d5_17 : own_d5 17 (.putfield 16) 3 := by decide +kernel
theorem d5_20 : own_d5 20 .return_ 1 := by decide +kernel
def Q5 (Z : State) (a0 : Addr) (cs : Int32) (h0 : Heap) (n0 : Nat) (v : Option Value) (h : Heap) (L : List Loc) : Prop := ∃ (bd vb : Addr) (kb : ClassId), v = none ∧ Fr n0 L ∧ Keep h0 h [a0] ∧ (n0 ≤ bd ∧ h0.size ≤ bd) ∧ (n0 ≤ vb ∧ h0.size ≤ vb) ∧ Fld Z h a0 "com/example/needle_in_json/needleinjson/MaskedDigits" "row" "I" (.int (0 : Int32)) ∧ Fld Z h a0 "com/example/needle_in_json/needleinjson/MaskedDigits" "escapeRead" "I" (.int (-1 : Int32)) ∧ Fld Z h a0 "com/example/needle_in_json/needleinjson/MaskedDigits" "digitEscape" "Z" (.int (0 : Int32)) ∧ Fld Z h a0 "com/example/needle_in_json/needleinjson/MaskedDigits" "held" "Ljava/lang/StringBuilder;" (.ref bd) ∧ Exa Z h bd "java/lang/StringBuilder" ∧ Fld Z h bd "java/lang/AbstractStringBuilder" "value" "[B" (.ref vb) ∧ Fld Z h bd "java/lang/AbstractStringBuilder" "coder" "B" (.int (0 : Int32)) ∧ Fld Z h bd "java/lang/AbstractStringBuilder" "count" "I" (.int (0 : Int32)) ∧ Arv Z h vb kb .byte (16 : Int32) (List.replicate 16 (.int (0 : Int32))) (.int (0 : Int32)) ∧ bd ≠ vb
set_option maxRecDepth 65536 in
set_option maxHeartbeats 40000000 in
theorem rm5 (l : Launch) (Z : State) (ag : Array Value) (hw : ∀ d ∈ tables_1, d.before ag Z = true) (ws : List Jvm.Cond) (a0 : Addr) (cs : Int32) (h0 : Heap) (n0 : Nat) (Z0 : n0 ≤ h0.size) (E_a0 : Exa Z h0 a0 "com/example/needle_in_json/needleinjson/MaskedDigits") (F_row_a0 : Fld Z h0 a0 "com/example/needle_in_json/needleinjson/MaskedDigits" "row" "I" (.int (0 : Int32))) (F_escapeRead_a0 : Fld Z h0 a0 "com/example/needle_in_json/needleinjson/MaskedDigits" "escapeRead" "I" (.int (0 : Int32))) (F_digitEscape_a0 : Fld Z h0 a0 "com/example/needle_in_json/needleinjson/MaskedDigits" "digitEscape" "Z" (.int (0 : Int32))) (F_held_a0 : Fld Z h0 a0 "com/example/needle_in_json/needleinjson/MaskedDigits" "held" "Ljava/lang/StringBuilder;" .null) (ge_a0 : n0 ≤ a0) (O_ : Old Z n0 h0) (S_cs : Sta Z Z.heap "java/lang/String" "COMPACT_STRINGS" "Z" (.int cs)) (hcs : ¬ cs = (0 : Int32)) :
    MetFree l (⟨"com/example/needle_in_json/needleinjson/MaskedDigits", "<init>", "()V"⟩ : MethodName) (head1 (Jvm.Cond.code (⟨"com/example/needle_in_json/needleinjson/MaskedDigits", "<init>", "()V"⟩ : MethodName) prog_32_method_1_code 1 none :: ws) ({ frames := 3, cells := 2, slots := 20, locals := 39 } : Room)) (fun a U => a = #[(.ref a0)] ∧ Z.Warmed39 U.vm ∧ U.heap = h0) (fun _ _ _ _ _ => True) (fun _ U o U' => ∃ v L, o = .returned v ∧ Q5 Z a0 cs h0 n0 v U'.heap L ∧ FrameEnd U o U' L ({ frames := 3, cells := 2, slots := 20, locals := 39 } : Room).cells ({ frames := 3, cells := 2, slots := 20, locals := 39 } : Room).slots) := by
  refine MetFree.of_bodySF (plainFor_of_name pn_0) hisR ?_
  intro p e s m args below meth c s₁ Bd hml0 hP hK
  obtain ⟨rfl, hZ, hh⟩ := hP
  have hx := Bd.exec
  have hby := Bd.bytes
  have hml : c.maxLocals = 1 := hml0
  have hown : s.vm.findClass "com/example/needle_in_json/needleinjson/MaskedDigits" = some m.cls := findClass_of_methodNamed Bd.named
  have hnm := (name_of_methodNamed Bd.named Bd.method).1
  have X0 : Stand p l e ({ frames := 3, cells := 2, slots := 20, locals := 39 } : Room) s m #[(.ref a0)] below meth c s₁ [] 0 0 := Stand.of_body Bd
  have e0 : s₁.heap = h0 := by rw [← hh, Bd.state]; rfl
  have N0 := Fr.nil n0
  have pre0 : ∀ t, Steps p.tables e below (s₁.setTop (mkF m 0 #[.val (.ref a0)] [])) t → Steps p.tables e below (s₁.setTop (entryFrame m #[(.ref a0)] 1)) t := fun t k => castTop (ef_5 m a0) k
  obtain ⟨T45, X45, e45, st45⟩ := initO X0 hx hZ hown (own_wk hw 23 rfl) (own_wk hw 24 rfl) (own_wk hw 25 rfl) e0 (g := (mkF m 1 #[.val (.ref a0)] [(.ref a0)])) rfl (by rw [hml]; rfl) rfl (hb hby d5_1) (by decide) (W := 0) (by show 2 * 0 + _ ≤ _; exact Nat.le_of_eq rfl) (by decide)
  obtain ⟨T46, h46, X46, e46, E46, A46, D46, -, st46⟩ := newO X45 hx hZ hown (own_wk hw 26 rfl) (own_wk hw 27 rfl) (own_wk hw 28 rfl) e45 (g := (mkF m 5 #[.val (.ref a0)] [(.ref a0)])) rfl (hb hby d5_5) (by decide) (by decide)
  obtain ⟨b46, g46⟩ : ∃ z, z = h0.size := ⟨_, rfl⟩
  have ne47 : a0 ≠ b46 := Nat.ne_of_lt (Nat.lt_of_lt_of_le E_a0.lt (Nat.le_of_eq g46.symm))
  have ge_b46 : n0 ≤ b46 := Nat.le_trans Z0 (Nat.le_of_eq g46.symm)
  have gs_b46 : h0.size ≤ b46 := Nat.le_trans (Keep.refl h0 [a0]).1 (Nat.le_of_eq g46.symm)
  rw [← g46] at A46 D46 st46
  have x48 := E_a0.ext E46
  have x49 := F_row_a0.ext E46
  have x50 := F_escapeRead_a0.ext E46
  have x51 := F_digitEscape_a0.ext E46
  have x52 := F_held_a0.ext E46
  have x53 := O_.ext E46
  have sz54 : n0 ≤ h46.size := Nat.le_trans Z0 E46.1
  have kp55 : Keep h0 h46 [a0] := (Keep.refl h0 [a0]).ext E46
  have F46_value : Fld Z h46 b46 "java/lang/AbstractStringBuilder" "value" "[B" .null := D46 (Or.inl (own_wk hw 43 rfl)) (ty := (.array .byte)) (by decide)
  have F46_coder : Fld Z h46 b46 "java/lang/AbstractStringBuilder" "coder" "B" (.int (0 : Int32)) := D46 (Or.inl (own_wk hw 45 rfl)) (ty := .byte) (by decide)
  have F46_count : Fld Z h46 b46 "java/lang/AbstractStringBuilder" "count" "I" (.int (0 : Int32)) := D46 (Or.inl (own_wk hw 90 rfl)) (ty := .int) (by decide)
  obtain ⟨_, _, ⟨T56, L56, k56, n56⟩, -, X56, ⟨Lc56, hQ56, l56, y56, z56⟩, st56⟩ := X46.specialBack hx (y := (⟨"java/lang/StringBuilder", "<init>", "()V"⟩ : MethodName)) rfl hown (mvT hZ (own_wk hw 29 rfl)) (mvT hZ (own_wk hw 30 rfl)) (mvT hZ (own_wk hw 31 rfl)) (by decide) (backOf (W := 2) (rm7 l Z ag hw [] b46 cs h46 n0 sz54 A46 F46_value F46_coder F46_count ge_b46 x53 S_cs hcs) hZ (own_wk hw 31 rfl) (own_wk hw 28 rfl) (by decide) (by decide)) (g := (mkF m 9 #[.val (.ref a0)] [(.ref b46), (.ref b46), (.ref a0)])) rfl (by rw [hml]; rfl) (Steps.refl _) (a := b46) (argsL := []) (rest := [(.ref b46), (.ref a0)]) (lenOf pd_2 rfl) rfl (by show 2 * 0 + _ ≤ _; exact Nat.le_of_eq rfl) (hb hby d5_9) (fun _ _ => ⟨rfl, e46, (by decide : 1 + 1 ≤ _), (by decide : 4 + 16 ≤ _)⟩)
  dsimp only [Pt.U, Pt.locs, Pt.cells, Pt.slots] at X56 l56 y56 z56 st56 hQ56
  subst l56 y56 z56
  obtain ⟨vb56, kb56, rfl, N56q, K56, ⟨ge_vb56, gqq_vb56⟩, o56_0, o56_1, o56_2, o56_3⟩ := hQ56
  have N56 := Fr.app N0 N56q
  have ne57 : a0 ≠ vb56 := Nat.ne_of_lt (Nat.lt_of_lt_of_le x48.lt gqq_vb56)
  have ne58 : b46 ≠ vb56 := Nat.ne_of_lt (Nat.lt_of_lt_of_le A46.lt gqq_vb56)
  have gs_vb56 : h0.size ≤ vb56 := Nat.le_trans kp55.1 gqq_vb56
  have x59 := x48.keep K56
  have x60 := x49.keep K56 (ninS ne47 nin0)
  have x61 := x50.keep K56 (ninS ne47 nin0)
  have x62 := x51.keep K56 (ninS ne47 nin0)
  have x63 := x52.keep K56 (ninS ne47 nin0)
  have x64 := x53.keep K56 (allS ge_b46 all0)
  have x65 := A46.keep K56
  have sz66 : n0 ≤ T56.heap.size := Nat.le_trans sz54 K56.1
  have kp67 : Keep h0 T56.heap [a0] := kp55.trans K56 (allS (Or.inr gs_b46) all0)
  obtain ⟨T68, h68, X68, e68, W68, st68⟩ := putF X56 hx hZ hown (host := "") (Or.inl (own_wk hw 46 rfl)) Via.refl rfl x63 x59 (Or.inr ⟨(own_wk hw 47 rfl), rfl, hnm⟩) (own_wk hw 18 rfl) (ty := (.object "java/lang/StringBuilder")) (by decide) rfl rfl (g := (mkF m 12 #[.val (.ref a0)] [(.ref b46), (.ref a0)])) rfl rfl (hb hby d5_12)
  have Fw68 := x63.same W68
  have x69 := x59.wr W68
  have x70 := x60.other W68 (Or.inr (slot_ne (Or.inl (own_wk hw 56 rfl)) (Or.inr (own_wk hw 47 rfl)) (by decide) (t := .int) (t' := (.object "java/lang/StringBuilder")) (by decide) (by decide)))
  have x71 := x61.other W68 (Or.inr (slot_ne (Or.inl (own_wk hw 49 rfl)) (Or.inr (own_wk hw 47 rfl)) (by decide) (t := .int) (t' := (.object "java/lang/StringBuilder")) (by decide) (by decide)))
  have x72 := x62.other W68 (Or.inr (slot_ne (Or.inl (own_wk hw 97 rfl)) (Or.inr (own_wk hw 47 rfl)) (by decide) (t := .boolean) (t' := (.object "java/lang/StringBuilder")) (by decide) (by decide)))
  have x73 := x64.wr W68 ge_a0
  have x74 := x65.wr W68
  have x75 := o56_0.other W68 (Or.inl (Ne.symm ne47))
  have x76 := o56_1.other W68 (Or.inl (Ne.symm ne47))
  have x77 := o56_2.other W68 (Or.inl (Ne.symm ne47))
  have x78 := o56_3.other W68 (Ne.symm ne57)
  have sz79 : n0 ≤ h68.size := Nat.le_trans sz66 (Keep.of_wr W68).1
  have kp80 : Keep h0 h68 [a0] := kp67.wr W68 (Or.inl (List.mem_of_getElem? (i := 0) rfl))
  have N68 := Fr.snoc X68 N56 ge_a0
  obtain ⟨T81, h81, X81, e81, W81, st81⟩ := putF X68 hx hZ hown (host := "") (Or.inl (own_wk hw 48 rfl)) Via.refl e68 x71 x69 (Or.inl (own_wk hw 49 rfl)) (own_wk hw 18 rfl) (ty := .int) (by decide) rfl rfl (g := (mkF m 17 #[.val (.ref a0)] [.int (-1), (.ref a0)])) rfl rfl (hb hby d5_17)
  have Fw81 := x71.same W81
  have x82 := x69.wr W81
  have x83 := x70.other W81 (Or.inr (slot_ne (Or.inl (own_wk hw 56 rfl)) (Or.inl (own_wk hw 49 rfl)) (by decide) (t := .int) (t' := .int) (by decide) (by decide)))
  have x84 := x72.other W81 (Or.inr (slot_ne (Or.inl (own_wk hw 97 rfl)) (Or.inl (own_wk hw 49 rfl)) (by decide) (t := .boolean) (t' := .int) (by decide) (by decide)))
  have x85 := x73.wr W81 ge_a0
  have x86 := x74.wr W81
  have x87 := x75.other W81 (Or.inl (Ne.symm ne47))
  have x88 := x76.other W81 (Or.inl (Ne.symm ne47))
  have x89 := x77.other W81 (Or.inl (Ne.symm ne47))
  have x90 := x78.other W81 (Ne.symm ne57)
  have x91 := Fw68.other W81 (Or.inr (slot_ne (Or.inr (own_wk hw 47 rfl)) (Or.inl (own_wk hw 49 rfl)) (by decide) (t := (.object "java/lang/StringBuilder")) (t' := .int) (by decide) (by decide)))
  have sz92 : n0 ≤ h81.size := Nat.le_trans sz79 (Keep.of_wr W81).1
  have kp93 : Keep h0 h81 [a0] := kp80.wr W81 (Or.inl (List.mem_of_getElem? (i := 0) rfl))
  have N81 := Fr.snoc X81 N68 ge_a0
  obtain ⟨fs, hr, hrun, hended, hW, hsame⟩ := X81.leave (v := none) (fun _ => rfl)
  refine ⟨_, _, pre0 _ ?_, hrun, hended, _, _, rfl, ?_, ⟨_, rfl⟩, hW, hsame.mono (by decide) (by decide)⟩
  · show own_S p e below s₁ (mkF m 0 #[.val (.ref a0)] []) _
    refine XS.aloadN X0.here hx rfl (hb hby d5_0) rfl rfl (st45 _ (XS.aloadN X45.here hx rfl (hb hby d5_4) rfl rfl (st46 _ (XS.dup X46.here hx rfl (hb hby d5_8) rfl rfl (st56.trans (st68 _ (XS.aloadN X68.here hx rfl (hb hby d5_15) rfl rfl (XS.iconst X68.here hx rfl (hb hby d5_16) (st81 _ ?_)))))))))
    show own_S p e below T81 (mkF m 20 #[.val (.ref a0)] []) _
    exact X81.returnOut hx Bd.returns (hb hby d5_20) hr
  · show Q5 Z a0 cs h0 n0 _ T81.heap _
    rw [e81]
    exact ⟨b46, vb56, kb56, rfl, N81, kp93, ⟨ge_b46, gs_b46⟩, ⟨ge_vb56, gs_vb56⟩, x83, Fw81, x84, x91, x86, x87, x88, x89, x90, ne58⟩
theorem ef_17 (m : MethodId) (a0 : Addr) : entryFrame m #[(.ref a0)] 1 = mkF m 0 #[.val (.ref a0)] [] := by first | (simp [entryFrame, mkF, argsToLocals, Value.category]; done) | rfl
abbrev own_d17 (p : Nat) (i : Instr) (n : Nat) : Prop := decode jdk_68_method_6_code p = .ok (i, n)
theorem d17_0 : own_d17 0 (.aload_n 0) 1 := by decide +kernel
theorem d17_1 : own_d17 1 (.getfield 79) 3 := by decide +kernel
theorem d17_4 : own_d17 4 .ireturn 1 := by decide +kernel
def Q17 (Z : State) (a0 : Addr) (ct : Int32) (h0 : Heap) (n0 : Nat) (v : Option Value) (h : Heap) (L : List Loc) : Prop := v = some (.int ct) ∧ Fr n0 L ∧ h = h0
set_option maxRecDepth 65536 in
set_option maxHeartbeats 40000000 in
theorem rm17 (l : Launch) (Z : State) (ag : Array Value) (hw : ∀ d ∈ tables_1, d.before ag Z = true) (ws : List Jvm.Cond) (a0 : Addr) (ct : Int32) (h0 : Heap) (n0 : Nat) (Z0 : n0 ≤ h0.size) (F_count_a0 : Fld Z h0 a0 "java/lang/AbstractStringBuilder" "count" "I" (.int ct)) :
    MetFree l (⟨"java/lang/AbstractStringBuilder", "length", "()I"⟩ : MethodName) (head1 (Jvm.Cond.code (⟨"java/lang/AbstractStringBuilder", "length", "()I"⟩ : MethodName) jdk_68_method_6_code 1 (some .int) :: ws) ({ frames := 0, cells := 0, slots := 0, locals := 0 } : Room)) (fun a U => a = #[(.ref a0)] ∧ Z.Warmed39 U.vm ∧ U.heap = h0) (fun _ _ _ _ _ => True) (fun _ U o U' => ∃ v L, o = .returned v ∧ Q17 Z a0 ct h0 n0 v U'.heap L ∧ FrameEnd U o U' L ({ frames := 0, cells := 0, slots := 0, locals := 0 } : Room).cells ({ frames := 0, cells := 0, slots := 0, locals := 0 } : Room).slots) := by
  refine MetFree.of_bodySF (plainFor_of_name pn_2) hisR ?_
  intro p e s m args below meth c s₁ Bd hml0 hP hK
  obtain ⟨rfl, hZ, hh⟩ := hP
  have hx := Bd.exec
  have hby := Bd.bytes
  have hml : c.maxLocals = 1 := hml0
  have hown : s.vm.findClass "java/lang/AbstractStringBuilder" = some m.cls := findClass_of_methodNamed Bd.named
  have hnm := (name_of_methodNamed Bd.named Bd.method).1
  have X0 : Stand p l e ({ frames := 0, cells := 0, slots := 0, locals := 0 } : Room) s m #[(.ref a0)] below meth c s₁ [] 0 0 := Stand.of_body Bd
  have e0 : s₁.heap = h0 := by rw [← hh, Bd.state]; rfl
  have N0 := Fr.nil n0
  have pre0 : ∀ t, Steps p.tables e below (s₁.setTop (mkF m 0 #[.val (.ref a0)] [])) t → Steps p.tables e below (s₁.setTop (entryFrame m #[(.ref a0)] 1)) t := fun t k => castTop (ef_17 m a0) k
  obtain ⟨T94, X94, e94, st94⟩ := getF X0 hx hZ hown (host := "") (Or.inl (own_wk hw 89 rfl)) Via.refl e0 F_count_a0 (g := (mkF m 1 #[.val (.ref a0)] [(.ref a0)])) rfl rfl (hb hby d17_1)
  obtain ⟨fs, hr, hrun, hended, hW, hsame⟩ := X94.leave (v := some (.int ct)) (fun h => by rw [Bd.returns] at h; cases h)
  refine ⟨_, _, pre0 _ ?_, hrun, hended, _, _, rfl, ?_, ⟨_, rfl⟩, hW, hsame.mono (by decide) (by decide)⟩
  · show own_S p e below s₁ (mkF m 0 #[.val (.ref a0)] []) _
    refine XS.aloadN X0.here hx rfl (hb hby d17_0) rfl rfl (st94 _ ?_)
    show own_S p e below T94 (mkF m 4 #[.val (.ref a0)] [(.int ct)]) _
    exact retI X94 hx Bd.returns (hb hby d17_4) hr
  · show Q17 Z a0 ct h0 n0 _ T94.heap _
    rw [e94]
    exact ⟨rfl, N0, rfl⟩
theorem ef_16 (m : MethodId) (a0 : Addr) : entryFrame m #[(.ref a0)] 1 = mkF m 0 #[.val (.ref a0)] [] := by first | (simp [entryFrame, mkF, argsToLocals, Value.category]; done) | rfl
abbrev own_d16 (p : Nat) (i : Instr) (n : Nat) : Prop := decode jdk_67_method_93_code p = .ok (i, n)
theorem d16_0 : own_d16 0 (.aload_n 0) 1 := by decide +kernel
theorem pd_1 : parseMethodDescriptor "()I" = some ⟨[], some .int⟩ := by decide +kernel
theorem d16_1 : own_d16 1 (.invokespecial 343) 3 := by decide +kernel
theorem d16_4 : own_d16 4 .ireturn 1 := by decide +kernel
def Q16 (Z : State) (a0 : Addr) (ct : Int32) (h0 : Heap) (n0 : Nat) (v : Option Value) (h : Heap) (L : List Loc) : Prop := v = some (.int ct) ∧ Fr n0 L ∧ h = h0
set_option maxRecDepth 65536 in
set_option maxHeartbeats 40000000 in
theorem rm16 (l : Launch) (Z : State) (ag : Array Value) (hw : ∀ d ∈ tables_1, d.before ag Z = true) (ws : List Jvm.Cond) (a0 : Addr) (ct : Int32) (h0 : Heap) (n0 : Nat) (Z0 : n0 ≤ h0.size) (E_a0 : Exa Z h0 a0 "java/lang/StringBuilder") (F_count_a0 : Fld Z h0 a0 "java/lang/AbstractStringBuilder" "count" "I" (.int ct)) :
    MetFree l (⟨"java/lang/StringBuilder", "length", "()I"⟩ : MethodName) (head1 (Jvm.Cond.code (⟨"java/lang/StringBuilder", "length", "()I"⟩ : MethodName) jdk_67_method_93_code 1 (some .int) :: ws) ({ frames := 1, cells := 0, slots := 0, locals := 12 } : Room)) (fun a U => a = #[(.ref a0)] ∧ Z.Warmed39 U.vm ∧ U.heap = h0) (fun _ _ _ _ _ => True) (fun _ U o U' => ∃ v L, o = .returned v ∧ Q16 Z a0 ct h0 n0 v U'.heap L ∧ FrameEnd U o U' L ({ frames := 1, cells := 0, slots := 0, locals := 12 } : Room).cells ({ frames := 1, cells := 0, slots := 0, locals := 12 } : Room).slots) := by
  refine MetFree.of_bodySF (plainFor_of_name pn_6) hisR ?_
  intro p e s m args below meth c s₁ Bd hml0 hP hK
  obtain ⟨rfl, hZ, hh⟩ := hP
  have hx := Bd.exec
  have hby := Bd.bytes
  have hml : c.maxLocals = 1 := hml0
  have hown : s.vm.findClass "java/lang/StringBuilder" = some m.cls := findClass_of_methodNamed Bd.named
  have hnm := (name_of_methodNamed Bd.named Bd.method).1
  have X0 : Stand p l e ({ frames := 1, cells := 0, slots := 0, locals := 12 } : Room) s m #[(.ref a0)] below meth c s₁ [] 0 0 := Stand.of_body Bd
  have e0 : s₁.heap = h0 := by rw [← hh, Bd.state]; rfl
  have N0 := Fr.nil n0
  have pre0 : ∀ t, Steps p.tables e below (s₁.setTop (mkF m 0 #[.val (.ref a0)] [])) t → Steps p.tables e below (s₁.setTop (entryFrame m #[(.ref a0)] 1)) t := fun t k => castTop (ef_16 m a0) k
  obtain ⟨_, _, ⟨T95, L95, k95, n95⟩, -, X95, ⟨Lc95, hQ95, l95, y95, z95⟩, st95⟩ := superBack X0 hx (y := (⟨"java/lang/AbstractStringBuilder", "length", "()I"⟩ : MethodName)) hZ hown (own_wk hw 84 rfl) (own_same (ym := (⟨"java/lang/AbstractStringBuilder", "ensureCapacityInternal", "(I)V"⟩ : MethodName)) (own_wk hw 85 rfl) (own_wk hw 121 rfl) (by decide) rfl) (own_wk hw 85 rfl) (own_wk hw 86 rfl) (by decide) (backOf (W := 0) (rm17 l Z ag hw [] a0 ct h0 n0 Z0 F_count_a0) hZ (own_wk hw 88 rfl) (own_wk hw 36 rfl) (by decide) (by decide)) e0 (Ins.self E_a0) (g := (mkF m 1 #[.val (.ref a0)] [(.ref a0)])) rfl (by rw [hml]; rfl) (own_wk hw 88 rfl) (argsL := []) (rest := []) (lenOf pd_1 rfl) rfl (by show 2 * 0 + _ ≤ _; exact Nat.le_of_eq rfl) (hb hby d16_1) (fun _ _ => ⟨rfl, e0, (by decide : 0 + 0 ≤ _), (by decide : 0 + 0 ≤ _)⟩)
  dsimp only [Pt.U, Pt.locs, Pt.cells, Pt.slots] at X95 l95 y95 z95 st95 hQ95
  subst l95 y95 z95
  obtain ⟨rfl, N95q, e95⟩ := hQ95
  have N95 := Fr.app N0 N95q
  obtain ⟨fs, hr, hrun, hended, hW, hsame⟩ := X95.leave (v := some (.int ct)) (fun h => by rw [Bd.returns] at h; cases h)
  refine ⟨_, _, pre0 _ ?_, hrun, hended, _, _, rfl, ?_, ⟨_, rfl⟩, hW, hsame.mono (by decide) (by decide)⟩
  · show own_S p e below s₁ (mkF m 0 #[.val (.ref a0)] []) _
    refine XS.aloadN X0.here hx rfl (hb hby d16_0) rfl rfl (st95.trans ?_)
    show own_S p e below T95 (mkF m 4 #[.val (.ref a0)] [(.int ct)]) _
    exact retI X95 hx Bd.returns (hb hby d16_4) hr
  · show Q16 Z a0 ct h0 n0 _ T95.heap _
    rw [e95]
    exact ⟨rfl, N95, rfl⟩
def own_holds (ct : Int32) : Int32 := if (0 : Int32) < ct then (1 : Int32) else (0 : Int32)
theorem ef_15 (m : MethodId) (a0 : Addr) : entryFrame m #[(.ref a0)] 1 = mkF m 0 #[.val (.ref a0)] [] := by first | (simp [entryFrame, mkF, argsToLocals, Value.category]; done) | rfl
abbrev own_d15 (p : Nat) (i : Instr) (n : Nat) : Prop := decode prog_32_method_3_code p = .ok (i, n)
theorem d15_0 : own_d15 0 (.aload_n 0) 1 := by decide +kernel
theorem d15_1 : own_d15 1 (.getfield 10) 3 := by decide +kernel
theorem d15_4 : own_d15 4 (.invokevirtual 20) 3 := by decide +kernel
theorem d15_7 : own_d15 7 (.ifCond .le 7) 3 := by decide +kernel
theorem d15_10 : own_d15 10 (.iconst 1) 1 := by decide +kernel
theorem d15_11 : own_d15 11 (.goto 4) 3 := by decide +kernel
theorem d15_15 : own_d15 15 .ireturn 1 := by decide +kernel
theorem d15_14 : own_d15 14 (.iconst 0) 1 := by decide +kernel
def Q15 (Z : State) (a0 bd : Addr) (ct : Int32) (h0 : Heap) (n0 : Nat) (v : Option Value) (h : Heap) (L : List Loc) : Prop := v = some (.int (own_holds ct)) ∧ Fr n0 L ∧ h = h0
set_option maxRecDepth 65536 in
set_option maxHeartbeats 40000000 in
theorem rm15 (l : Launch) (Z : State) (ag : Array Value) (hw : ∀ d ∈ tables_1, d.before ag Z = true) (ws : List Jvm.Cond) (a0 bd : Addr) (ct : Int32) (h0 : Heap) (n0 : Nat) (Z0 : n0 ≤ h0.size) (F_held_a0 : Fld Z h0 a0 "com/example/needle_in_json/needleinjson/MaskedDigits" "held" "Ljava/lang/StringBuilder;" (.ref bd)) (E_bd : Exa Z h0 bd "java/lang/StringBuilder") (F_count_bd : Fld Z h0 bd "java/lang/AbstractStringBuilder" "count" "I" (.int ct)) :
    MetFree l (⟨"com/example/needle_in_json/needleinjson/MaskedDigits", "holdsDigits", "()Z"⟩ : MethodName) (head1 (Jvm.Cond.code (⟨"com/example/needle_in_json/needleinjson/MaskedDigits", "holdsDigits", "()Z"⟩ : MethodName) prog_32_method_3_code 1 (some .boolean) :: ws) ({ frames := 2, cells := 0, slots := 0, locals := 24 } : Room)) (fun a U => a = #[(.ref a0)] ∧ Z.Warmed39 U.vm ∧ U.heap = h0) (fun _ _ _ _ _ => True) (fun _ U o U' => ∃ v L, o = .returned v ∧ Q15 Z a0 bd ct h0 n0 v U'.heap L ∧ FrameEnd U o U' L ({ frames := 2, cells := 0, slots := 0, locals := 24 } : Room).cells ({ frames := 2, cells := 0, slots := 0, locals := 24 } : Room).slots) := by
  refine MetFree.of_bodySF (plainFor_of_name pn_0) hisR ?_
  intro p e s m args below meth c s₁ Bd hml0 hP hK
  obtain ⟨rfl, hZ, hh⟩ := hP
  have hx := Bd.exec
  have hby := Bd.bytes
  have hml : c.maxLocals = 1 := hml0
  have hown : s.vm.findClass "com/example/needle_in_json/needleinjson/MaskedDigits" = some m.cls := findClass_of_methodNamed Bd.named
  have hnm := (name_of_methodNamed Bd.named Bd.method).1
  have X0 : Stand p l e ({ frames := 2, cells := 0, slots := 0, locals := 24 } : Room) s m #[(.ref a0)] below meth c s₁ [] 0 0 := Stand.of_body Bd
  have e0 : s₁.heap = h0 := by rw [← hh, Bd.state]; rfl
  have N0 := Fr.nil n0
  have pre0 : ∀ t, Steps p.tables e below (s₁.setTop (mkF m 0 #[.val (.ref a0)] [])) t → Steps p.tables e below (s₁.setTop (entryFrame m #[(.ref a0)] 1)) t := fun t k => castTop (ef_15 m a0) k
  obtain ⟨T96, X96, e96, st96⟩ := getF X0 hx hZ hown (host := "") (Or.inl (own_wk hw 46 rfl)) Via.refl e0 F_held_a0 (g := (mkF m 1 #[.val (.ref a0)] [(.ref a0)])) rfl rfl (hb hby d15_1)
  obtain ⟨cq97, kq97, q97a, q97b, q97c⟩ := isOf hZ e96 E_bd
  obtain ⟨_, _, ⟨T97, L97, k97, n97⟩, -, X97, ⟨Lc97, hQ97, l97, y97, z97⟩, st97⟩ := X96.virtualBack hx (y := (⟨"java/lang/StringBuilder", "length", "()I"⟩ : MethodName)) (z := (⟨"java/lang/StringBuilder", "length", "()I"⟩ : MethodName)) hown (mvT hZ (own_wk hw 79 rfl)) (mvT hZ (own_wk hw 80 rfl)) (notFace_of_selects (args := #[]) (mvT hZ (own_wk hw 82 rfl))) (mvT hZ (own_wk hw 82 rfl)) (mvT hZ (own_wk hw 81 rfl)) (by decide) (backOf (W := 0) (rm16 l Z ag hw [] bd ct h0 n0 Z0 E_bd F_count_bd) hZ (own_wk hw 83 rfl) (own_wk hw 28 rfl) (by decide) (by decide)) q97a q97c (g := (mkF m 4 #[.val (.ref a0)] [(.ref bd)])) rfl (by rw [hml]; rfl) (Steps.refl _) (argsL := []) (rest := []) (lenOf pd_1 rfl) rfl (by show 2 * 0 + _ ≤ _; exact Nat.le_of_eq rfl) (hb hby d15_4) (fun _ _ => ⟨rfl, e96, (by decide : 0 + 0 ≤ _), (by decide : 0 + 0 ≤ _)⟩)
  dsimp only [Pt.U, Pt.locs, Pt.cells, Pt.slots] at X97 l97 y97 z97 st97 hQ97
  subst l97 y97 z97
  obtain ⟨rfl, N97q, e97⟩ := hQ97
  have N97 := Fr.app N0 N97q
  have cp99 : ∀ target, own_S p e below T97 (mkF m 7 #[.val (.ref a0)] [(.int ct)]) target → own_S p e below s₁ (mkF m 0 #[.val (.ref a0)] []) target := by
    intro target kt
    show own_S p e below s₁ (mkF m 0 #[.val (.ref a0)] []) _
    refine XS.aloadN X0.here hx rfl (hb hby d15_0) rfl rfl (st96 _ (st97.trans ?_))
    exact kt
  by_cases hc98 : (0 : Int32) < ct
  · obtain ⟨fs, hr, hrun, hended, hW, hsame⟩ := X97.leave (v := some (.int (1 : Int32))) (fun h => by rw [Bd.returns] at h; cases h)
    refine ⟨_, _, pre0 _ ?_, hrun, hended, _, _, rfl, ?_, ⟨_, rfl⟩, hW, hsame.mono (by decide) (by decide)⟩
    · show own_S p e below s₁ (mkF m 0 #[.val (.ref a0)] []) _
      refine cp99 _ (XS.ifNo X97.here hx rfl (hb hby d15_7) rfl ((if0 _ _).trans (tlt hc98).2.2.2) (XS.iconst X97.here hx rfl (hb hby d15_10) (XS.goto X97.here hx rfl (pc0 := 11) (pc' := 15) rfl (hb hby d15_11) (by decide) (by decide) ?_)))
      show own_S p e below T97 (mkF m 15 #[.val (.ref a0)] [.int 1]) _
      exact retN X97 hx (t := .boolean) Bd.returns (by simp) (hb hby d15_15) hr
    · show Q15 Z a0 bd ct h0 n0 _ T97.heap _
      rw [e97]
      exact ⟨congrArg (fun z => some (Value.int z)) (show (1 : Int32) = (own_holds ct) from by unfold own_holds; rw [if_pos hc98]), N97, rfl⟩
  · obtain ⟨fs, hr, hrun, hended, hW, hsame⟩ := X97.leave (v := some (.int (0 : Int32))) (fun h => by rw [Bd.returns] at h; cases h)
    refine ⟨_, _, pre0 _ ?_, hrun, hended, _, _, rfl, ?_, ⟨_, rfl⟩, hW, hsame.mono (by decide) (by decide)⟩
    · show own_S p e below s₁ (mkF m 0 #[.val (.ref a0)] []) _
      refine cp99 _ (XS.ifYes X97.here hx rfl (pc0 := 7) (pc' := 14) rfl (hb hby d15_7) rfl ((if0 _ _).trans (flt hc98).2.2.2) (by decide) (by decide) (XS.iconst X97.here hx rfl (hb hby d15_14) ?_))
      show own_S p e below T97 (mkF m 15 #[.val (.ref a0)] [.int 0]) _
      exact retN X97 hx (t := .boolean) Bd.returns (by simp) (hb hby d15_15) hr
    · show Q15 Z a0 bd ct h0 n0 _ T97.heap _
      rw [e97]
      exact ⟨congrArg (fun z => some (Value.int z)) (show (0 : Int32) = (own_holds ct) from by unfold own_holds; rw [if_neg hc98]), N97, rfl⟩
theorem ef_18 (m : MethodId) (a0 : Addr) : entryFrame m #[(.ref a0)] 1 = mkF m 0 #[.val (.ref a0)] [] := by first | (simp [entryFrame, mkF, argsToLocals, Value.category]; done) | rfl
abbrev own_d18 (p : Nat) (i : Instr) (n : Nat) : Prop := decode prog_32_method_4_code p = .ok (i, n)
theorem d18_0 : own_d18 0 (.aload_n 0) 1 := by decide +kernel
theorem d18_1 : own_d18 1 (.iconst 0) 1 := by decide +kernel
theorem d18_2 : own_d18 2 (.putfield 46) 3 := by decide +kernel
theorem d18_5 : own_d18 5 (.aload_n 0) 1 := by decide +kernel
theorem d18_6 : own_d18 6 (.iconst (-1)) 1 := by decide +kernel
theorem d18_7 : own_d18 7 (.putfield 16) 3 := by decide +kernel
theorem d18_10 : own_d18 10 (.aload_n 0) 1 := by decide +kernel
theorem d18_11 : own_d18 11 (.iconst 0) 1 := by decide +kernel
theorem d18_12 : own_d18 12 (.putfield 49) 3 := by decide +kernel
theorem d18_15 : own_d18 15 .return_ 1 := by decide +kernel
def Q18 (Z : State) (a0 : Addr) (ro er de : Int32) (bd : Addr) (h0 : Heap) (n0 : Nat) (v : Option Value) (h : Heap) (L : List Loc) : Prop := v = none ∧ Fr n0 L ∧ Keep h0 h [a0] ∧ Fld Z h a0 "com/example/needle_in_json/needleinjson/MaskedDigits" "row" "I" (.int (0 : Int32)) ∧ Fld Z h a0 "com/example/needle_in_json/needleinjson/MaskedDigits" "escapeRead" "I" (.int (-1 : Int32)) ∧ Fld Z h a0 "com/example/needle_in_json/needleinjson/MaskedDigits" "digitEscape" "Z" (.int (0 : Int32)) ∧ Fld Z h a0 "com/example/needle_in_json/needleinjson/MaskedDigits" "held" "Ljava/lang/StringBuilder;" (.ref bd)
set_option maxRecDepth 65536 in
set_option maxHeartbeats 40000000 in
theorem rm18 (l : Launch) (Z : State) (ag : Array Value) (hw : ∀ d ∈ tables_1, d.before ag Z = true) (ws : List Jvm.Cond) (a0 : Addr) (ro er de : Int32) (bd : Addr) (h0 : Heap) (n0 : Nat) (Z0 : n0 ≤ h0.size) (E_a0 : Exa Z h0 a0 "com/example/needle_in_json/needleinjson/MaskedDigits") (F_row_a0 : Fld Z h0 a0 "com/example/needle_in_json/needleinjson/MaskedDigits" "row" "I" (.int ro)) (F_escapeRead_a0 : Fld Z h0 a0 "com/example/needle_in_json/needleinjson/MaskedDigits" "escapeRead" "I" (.int er)) (F_digitEscape_a0 : Fld Z h0 a0 "com/example/needle_in_json/needleinjson/MaskedDigits" "digitEscape" "Z" (.int de)) (F_held_a0 : Fld Z h0 a0 "com/example/needle_in_json/needleinjson/MaskedDigits" "held" "Ljava/lang/StringBuilder;" (.ref bd)) (ge_a0 : n0 ≤ a0) :
    MetFree l (⟨"com/example/needle_in_json/needleinjson/MaskedDigits", "resumeAfterString", "()V"⟩ : MethodName) (head1 (Jvm.Cond.code (⟨"com/example/needle_in_json/needleinjson/MaskedDigits", "resumeAfterString", "()V"⟩ : MethodName) prog_32_method_4_code 1 none :: ws) ({ frames := 0, cells := 0, slots := 0, locals := 0 } : Room)) (fun a U => a = #[(.ref a0)] ∧ Z.Warmed39 U.vm ∧ U.heap = h0) (fun _ _ _ _ _ => True) (fun _ U o U' => ∃ v L, o = .returned v ∧ Q18 Z a0 ro er de bd h0 n0 v U'.heap L ∧ FrameEnd U o U' L ({ frames := 0, cells := 0, slots := 0, locals := 0 } : Room).cells ({ frames := 0, cells := 0, slots := 0, locals := 0 } : Room).slots) := by
  refine MetFree.of_bodySF (plainFor_of_name pn_0) hisR ?_
  intro p e s m args below meth c s₁ Bd hml0 hP hK
  obtain ⟨rfl, hZ, hh⟩ := hP
  have hx := Bd.exec
  have hby := Bd.bytes
  have hml : c.maxLocals = 1 := hml0
  have hown : s.vm.findClass "com/example/needle_in_json/needleinjson/MaskedDigits" = some m.cls := findClass_of_methodNamed Bd.named
  have hnm := (name_of_methodNamed Bd.named Bd.method).1
  have X0 : Stand p l e ({ frames := 0, cells := 0, slots := 0, locals := 0 } : Room) s m #[(.ref a0)] below meth c s₁ [] 0 0 := Stand.of_body Bd
  have e0 : s₁.heap = h0 := by rw [← hh, Bd.state]; rfl
  have N0 := Fr.nil n0
  have pre0 : ∀ t, Steps p.tables e below (s₁.setTop (mkF m 0 #[.val (.ref a0)] [])) t → Steps p.tables e below (s₁.setTop (entryFrame m #[(.ref a0)] 1)) t := fun t k => castTop (ef_18 m a0) k
  obtain ⟨T100, h100, X100, e100, W100, st100⟩ := putF X0 hx hZ hown (host := "") (Or.inl (own_wk hw 55 rfl)) Via.refl e0 F_row_a0 E_a0 (Or.inl (own_wk hw 56 rfl)) (own_wk hw 18 rfl) (ty := .int) (by decide) rfl rfl (g := (mkF m 2 #[.val (.ref a0)] [.int 0, (.ref a0)])) rfl rfl (hb hby d18_2)
  have Fw100 := F_row_a0.same W100
  have x101 := E_a0.wr W100
  have x102 := F_escapeRead_a0.other W100 (Or.inr (slot_ne (Or.inl (own_wk hw 49 rfl)) (Or.inl (own_wk hw 56 rfl)) (by decide) (t := .int) (t' := .int) (by decide) (by decide)))
  have x103 := F_digitEscape_a0.other W100 (Or.inr (slot_ne (Or.inl (own_wk hw 97 rfl)) (Or.inl (own_wk hw 56 rfl)) (by decide) (t := .boolean) (t' := .int) (by decide) (by decide)))
  have x104 := F_held_a0.other W100 (Or.inr (slot_ne (Or.inr (own_wk hw 47 rfl)) (Or.inl (own_wk hw 56 rfl)) (by decide) (t := (.object "java/lang/StringBuilder")) (t' := .int) (by decide) (by decide)))
  have sz105 : n0 ≤ h100.size := Nat.le_trans Z0 (Keep.of_wr W100).1
  have kp106 : Keep h0 h100 [a0] := (Keep.refl h0 [a0]).wr W100 (Or.inl (List.mem_of_getElem? (i := 0) rfl))
  have N100 := Fr.snoc X100 N0 ge_a0
  obtain ⟨T107, h107, X107, e107, W107, st107⟩ := putF X100 hx hZ hown (host := "") (Or.inl (own_wk hw 48 rfl)) Via.refl e100 x102 x101 (Or.inl (own_wk hw 49 rfl)) (own_wk hw 18 rfl) (ty := .int) (by decide) rfl rfl (g := (mkF m 7 #[.val (.ref a0)] [.int (-1), (.ref a0)])) rfl rfl (hb hby d18_7)
  have Fw107 := x102.same W107
  have x108 := x101.wr W107
  have x109 := x103.other W107 (Or.inr (slot_ne (Or.inl (own_wk hw 97 rfl)) (Or.inl (own_wk hw 49 rfl)) (by decide) (t := .boolean) (t' := .int) (by decide) (by decide)))
  have x110 := x104.other W107 (Or.inr (slot_ne (Or.inr (own_wk hw 47 rfl)) (Or.inl (own_wk hw 49 rfl)) (by decide) (t := (.object "java/lang/StringBuilder")) (t' := .int) (by decide) (by decide)))
  have x111 := Fw100.other W107 (Or.inr (slot_ne (Or.inl (own_wk hw 56 rfl)) (Or.inl (own_wk hw 49 rfl)) (by decide) (t := .int) (t' := .int) (by decide) (by decide)))
  have sz112 : n0 ≤ h107.size := Nat.le_trans sz105 (Keep.of_wr W107).1
  have kp113 : Keep h0 h107 [a0] := kp106.wr W107 (Or.inl (List.mem_of_getElem? (i := 0) rfl))
  have N107 := Fr.snoc X107 N100 ge_a0
  obtain ⟨T114, h114, X114, e114, W114, st114⟩ := putFN X107 hx hZ hown (own_wk hw 96 rfl) Via.refl e107 x109 x108 (Or.inl (own_wk hw 97 rfl)) (own_wk hw 18 rfl) (ty := .boolean) (v' := (.int (0 : Int32))) (by decide) rfl (fits_nar_bool (0 : Int32)) (g := (mkF m 12 #[.val (.ref a0)] [.int 0, (.ref a0)])) rfl rfl (hb hby d18_12)
  have Fw114 := x109.same W114
  have x115 := x108.wr W114
  have x116 := x110.other W114 (Or.inr (slot_ne (Or.inr (own_wk hw 47 rfl)) (Or.inl (own_wk hw 97 rfl)) (by decide) (t := (.object "java/lang/StringBuilder")) (t' := .boolean) (by decide) (by decide)))
  have x117 := x111.other W114 (Or.inr (slot_ne (Or.inl (own_wk hw 56 rfl)) (Or.inl (own_wk hw 97 rfl)) (by decide) (t := .int) (t' := .boolean) (by decide) (by decide)))
  have x118 := Fw107.other W114 (Or.inr (slot_ne (Or.inl (own_wk hw 49 rfl)) (Or.inl (own_wk hw 97 rfl)) (by decide) (t := .int) (t' := .boolean) (by decide) (by decide)))
  have sz119 : n0 ≤ h114.size := Nat.le_trans sz112 (Keep.of_wr W114).1
  have kp120 : Keep h0 h114 [a0] := kp113.wr W114 (Or.inl (List.mem_of_getElem? (i := 0) rfl))
  have N114 := Fr.snoc X114 N107 ge_a0
  obtain ⟨fs, hr, hrun, hended, hW, hsame⟩ := X114.leave (v := none) (fun _ => rfl)
  refine ⟨_, _, pre0 _ ?_, hrun, hended, _, _, rfl, ?_, ⟨_, rfl⟩, hW, hsame.mono (by decide) (by decide)⟩
  · show own_S p e below s₁ (mkF m 0 #[.val (.ref a0)] []) _
    refine XS.aloadN X0.here hx rfl (hb hby d18_0) rfl rfl (XS.iconst X0.here hx rfl (hb hby d18_1) (st100 _ (XS.aloadN X100.here hx rfl (hb hby d18_5) rfl rfl (XS.iconst X100.here hx rfl (hb hby d18_6) (st107 _ (XS.aloadN X107.here hx rfl (hb hby d18_10) rfl rfl (XS.iconst X107.here hx rfl (hb hby d18_11) (st114 _ ?_))))))))
    show own_S p e below T114 (mkF m 15 #[.val (.ref a0)] []) _
    exact X114.returnOut hx Bd.returns (hb hby d18_15) hr
  · show Q18 Z a0 ro er de bd h0 n0 _ T114.heap _
    rw [e114]
    exact ⟨rfl, N114, kp120, x117, x118, Fw114, x116⟩
theorem ef_11 (m : MethodId) (p0 : Int32) : entryFrame m #[(.int p0)] 1 = mkF m 0 #[.val (.int p0)] [] := by first | (simp [entryFrame, mkF, argsToLocals, Value.category]; done) | rfl
abbrev own_d11 (p : Nat) (i : Instr) (n : Nat) : Prop := decode prog_32_method_12_code p = .ok (i, n)
theorem d11_0 : own_d11 0 (.iload_n 0) 1 := by decide +kernel
theorem pd_6 : parseMethodDescriptor "(C)Z" = some ⟨[.char], some .boolean⟩ := by decide +kernel
theorem d11_1 : own_d11 1 (.invokestatic 31) 3 := by decide +kernel
theorem d11_4 : own_d11 4 (.ifCond .ne 15) 3 := by decide +kernel
theorem d11_7 : own_d11 7 (.iload_n 0) 1 := by decide +kernel
theorem d11_8 : own_d11 8 (.bipush 92) 2 := by decide +kernel
theorem d11_10 : own_d11 10 (.if_icmp .eq 9) 3 := by decide +kernel
theorem d11_19 : own_d11 19 (.iconst 1) 1 := by decide +kernel
theorem d11_20 : own_d11 20 (.goto 4) 3 := by decide +kernel
theorem d11_24 : own_d11 24 .ireturn 1 := by decide +kernel
theorem d11_13 : own_d11 13 (.iload_n 0) 1 := by decide +kernel
theorem d11_14 : own_d11 14 (.bipush 117) 2 := by decide +kernel
theorem d11_16 : own_d11 16 (.if_icmp .ne 7) 3 := by decide +kernel
theorem d11_23 : own_d11 23 (.iconst 0) 1 := by decide +kernel
def Q11 (Z : State) (p0 : Int32) (h0 : Heap) (n0 : Nat) (v : Option Value) (h : Heap) (L : List Loc) : Prop := v = some (.int (own_may p0)) ∧ Fr n0 L ∧ h = h0
set_option maxRecDepth 65536 in
set_option maxHeartbeats 40000000 in
theorem rm11 (l : Launch) (Z : State) (ag : Array Value) (hw : ∀ d ∈ tables_1, d.before ag Z = true) (ws : List Jvm.Cond) (p0 : Int32) (h0 : Heap) (n0 : Nat) (Z0 : n0 ≤ h0.size) :
    MetFree l (⟨"com/example/needle_in_json/needleinjson/MaskedDigits", "mayStandForDigit", "(C)Z"⟩ : MethodName) (head1 (Jvm.Cond.code (⟨"com/example/needle_in_json/needleinjson/MaskedDigits", "mayStandForDigit", "(C)Z"⟩ : MethodName) prog_32_method_12_code 1 (some .boolean) :: ws) ({ frames := 1, cells := 0, slots := 0, locals := 12 } : Room)) (fun a U => a = #[(.int p0)] ∧ Z.Warmed39 U.vm ∧ U.heap = h0) (fun _ _ _ _ _ => True) (fun _ U o U' => ∃ v L, o = .returned v ∧ Q11 Z p0 h0 n0 v U'.heap L ∧ FrameEnd U o U' L ({ frames := 1, cells := 0, slots := 0, locals := 12 } : Room).cells ({ frames := 1, cells := 0, slots := 0, locals := 12 } : Room).slots) := by
  refine MetFree.of_bodySF (plainFor_of_name pn_0) hisR ?_
  intro p e s m args below meth c s₁ Bd hml0 hP hK
  obtain ⟨rfl, hZ, hh⟩ := hP
  have hx := Bd.exec
  have hby := Bd.bytes
  have hml : c.maxLocals = 1 := hml0
  have hown : s.vm.findClass "com/example/needle_in_json/needleinjson/MaskedDigits" = some m.cls := findClass_of_methodNamed Bd.named
  have hnm := (name_of_methodNamed Bd.named Bd.method).1
  have X0 : Stand p l e ({ frames := 1, cells := 0, slots := 0, locals := 12 } : Room) s m #[(.int p0)] below meth c s₁ [] 0 0 := Stand.of_body Bd
  have e0 : s₁.heap = h0 := by rw [← hh, Bd.state]; rfl
  have N0 := Fr.nil n0
  have pre0 : ∀ t, Steps p.tables e below (s₁.setTop (mkF m 0 #[.val (.int p0)] [])) t → Steps p.tables e below (s₁.setTop (entryFrame m #[(.int p0)] 1)) t := fun t k => castTop (ef_11 m p0) k
  obtain ⟨_, _, ⟨T121, L121, k121, n121⟩, -, X121, ⟨Lc121, hQ121, l121, y121, z121⟩, st121⟩ := Jvm.LawKit.callS X0 hx (y := (⟨"com/example/needle_in_json/needleinjson/MaskedDigits", "isDigit", "(C)Z"⟩ : MethodName)) hown (mvT hZ (own_wk hw 64 rfl)) (mvT hZ (own_wk hw 65 rfl)) (mvT hZ (own_wk hw 19 rfl)) (mvT hZ (own_wk hw 66 rfl)) (by decide) (backOf (W := 0) (rm12 l Z ag hw [] p0  h0 n0 Z0 ) hZ (own_wk hw 66 rfl) (own_wk hw 19 rfl) (by decide) (by decide)) (g := (mkF m 1 #[.val (.int p0)] [(.int p0)])) rfl (by rw [hml]; rfl) (argsL := [(.int p0)]) (rest := []) (lenOf pd_6 rfl) rfl (by show 2 * 0 + _ ≤ _; exact Nat.le_of_eq rfl) (hb hby d11_1) (fun _ _ => ⟨rfl, e0, (by decide : 0 + 0 ≤ _), (by decide : 0 + 0 ≤ _)⟩)
  dsimp only [Pt.U, Pt.locs, Pt.cells, Pt.slots] at X121 l121 y121 z121 st121 hQ121
  subst l121 y121 z121
  obtain ⟨rfl, N121q, e121⟩ := hQ121
  have N121 := Fr.app N0 N121q
  by_cases hc122 : (own_isD p0) = (0 : Int32)
  · have cp124 : ∀ target, own_S p e below T121 (mkF m 10 #[.val (.int p0)] [.int 92, (.int p0)]) target → own_S p e below s₁ (mkF m 0 #[.val (.int p0)] []) target := by
      intro target kt
      show own_S p e below s₁ (mkF m 0 #[.val (.int p0)] []) _
      refine XS.iloadN X0.here hx rfl (hb hby d11_0) rfl (st121 _ (XS.ifNo X121.here hx rfl (hb hby d11_4) rfl ((if0 _ _).trans (teq hc122).2) (XS.iloadN X121.here hx rfl (hb hby d11_7) rfl (XS.bipush X121.here hx rfl (hb hby d11_8) ?_))))
      exact kt
    by_cases hc123 : p0 = (92 : Int32)
    · obtain ⟨fs, hr, hrun, hended, hW, hsame⟩ := X121.leave (v := some (.int (1 : Int32))) (fun h => by rw [Bd.returns] at h; cases h)
      refine ⟨_, _, pre0 _ ?_, hrun, hended, _, _, rfl, ?_, ⟨_, rfl⟩, hW, hsame.mono (by decide) (by decide)⟩
      · show own_S p e below s₁ (mkF m 0 #[.val (.int p0)] []) _
        refine cp124 _ (XS.icmpYes X121.here hx rfl (pc0 := 10) (pc' := 19) rfl (hb hby d11_10) rfl (teq hc123).1 (by decide) (by decide) (XS.iconst X121.here hx rfl (hb hby d11_19) (XS.goto X121.here hx rfl (pc0 := 20) (pc' := 24) rfl (hb hby d11_20) (by decide) (by decide) ?_)))
        show own_S p e below T121 (mkF m 24 #[.val (.int p0)] [.int 1]) _
        exact retN X121 hx (t := .boolean) Bd.returns (by simp) (hb hby d11_24) hr
      · show Q11 Z p0 h0 n0 _ T121.heap _
        rw [e121]
        exact ⟨congrArg (fun z => some (Value.int z)) (show (1 : Int32) = (own_may p0) from by unfold own_may; rw [if_pos hc122, if_pos hc123]), N121, rfl⟩
    · have cp126 : ∀ target, own_S p e below T121 (mkF m 16 #[.val (.int p0)] [.int 117, (.int p0)]) target → own_S p e below s₁ (mkF m 0 #[.val (.int p0)] []) target := by
        intro target kt
        show own_S p e below s₁ (mkF m 0 #[.val (.int p0)] []) _
        refine cp124 _ (XS.icmpNo X121.here hx rfl (hb hby d11_10) rfl (feq hc123).1 (XS.iloadN X121.here hx rfl (hb hby d11_13) rfl (XS.bipush X121.here hx rfl (hb hby d11_14) ?_)))
        exact kt
      by_cases hc125 : p0 = (117 : Int32)
      · obtain ⟨fs, hr, hrun, hended, hW, hsame⟩ := X121.leave (v := some (.int (1 : Int32))) (fun h => by rw [Bd.returns] at h; cases h)
        refine ⟨_, _, pre0 _ ?_, hrun, hended, _, _, rfl, ?_, ⟨_, rfl⟩, hW, hsame.mono (by decide) (by decide)⟩
        · show own_S p e below s₁ (mkF m 0 #[.val (.int p0)] []) _
          refine cp126 _ (XS.icmpNo X121.here hx rfl (hb hby d11_16) rfl (teq hc125).2 (XS.iconst X121.here hx rfl (hb hby d11_19) (XS.goto X121.here hx rfl (pc0 := 20) (pc' := 24) rfl (hb hby d11_20) (by decide) (by decide) ?_)))
          show own_S p e below T121 (mkF m 24 #[.val (.int p0)] [.int 1]) _
          exact retN X121 hx (t := .boolean) Bd.returns (by simp) (hb hby d11_24) hr
        · show Q11 Z p0 h0 n0 _ T121.heap _
          rw [e121]
          exact ⟨congrArg (fun z => some (Value.int z)) (show (1 : Int32) = (own_may p0) from by unfold own_may; rw [if_pos hc122, if_neg hc123, if_pos hc125]), N121, rfl⟩
      · obtain ⟨fs, hr, hrun, hended, hW, hsame⟩ := X121.leave (v := some (.int (0 : Int32))) (fun h => by rw [Bd.returns] at h; cases h)
        refine ⟨_, _, pre0 _ ?_, hrun, hended, _, _, rfl, ?_, ⟨_, rfl⟩, hW, hsame.mono (by decide) (by decide)⟩
        · show own_S p e below s₁ (mkF m 0 #[.val (.int p0)] []) _
          refine cp126 _ (XS.icmpYes X121.here hx rfl (pc0 := 16) (pc' := 23) rfl (hb hby d11_16) rfl (feq hc125).2 (by decide) (by decide) (XS.iconst X121.here hx rfl (hb hby d11_23) ?_))
          show own_S p e below T121 (mkF m 24 #[.val (.int p0)] [.int 0]) _
          exact retN X121 hx (t := .boolean) Bd.returns (by simp) (hb hby d11_24) hr
        · show Q11 Z p0 h0 n0 _ T121.heap _
          rw [e121]
          exact ⟨congrArg (fun z => some (Value.int z)) (show (0 : Int32) = (own_may p0) from by unfold own_may; rw [if_pos hc122, if_neg hc123, if_neg hc125]), N121, rfl⟩
  · obtain ⟨fs, hr, hrun, hended, hW, hsame⟩ := X121.leave (v := some (.int (1 : Int32))) (fun h => by rw [Bd.returns] at h; cases h)
    refine ⟨_, _, pre0 _ ?_, hrun, hended, _, _, rfl, ?_, ⟨_, rfl⟩, hW, hsame.mono (by decide) (by decide)⟩
    · show own_S p e below s₁ (mkF m 0 #[.val (.int p0)] []) _
      refine XS.iloadN X0.here hx rfl (hb hby d11_0) rfl (st121 _ (XS.ifYes X121.here hx rfl (pc0 := 4) (pc' := 19) rfl (hb hby d11_4) rfl ((if0 _ _).trans (feq hc122).2) (by decide) (by decide) (XS.iconst X121.here hx rfl (hb hby d11_19) (XS.goto X121.here hx rfl (pc0 := 20) (pc' := 24) rfl (hb hby d11_20) (by decide) (by decide) ?_))))
      show own_S p e below T121 (mkF m 24 #[.val (.int p0)] [.int 1]) _
      exact retN X121 hx (t := .boolean) Bd.returns (by simp) (hb hby d11_24) hr
    · show Q11 Z p0 h0 n0 _ T121.heap _
      rw [e121]
      exact ⟨congrArg (fun z => some (Value.int z)) (show (1 : Int32) = (own_may p0) from by unfold own_may; rw [if_neg hc122]), N121, rfl⟩
theorem own_mg (cs : List Int32) (j : Int32) : (cs.map Value.int).getD j.toNatClampNeg (.int (0 : Int32)) = .int (own_at cs j) := by
  unfold own_at
  rw [List.getD_eq_getElem?_getD, List.getD_eq_getElem?_getD, List.getElem?_map]
  cases cs[j.toNatClampNeg]? <;> rfl
def own_rg (p1 p2 n : Int32) : Prop := 0 ≤ p1.toInt ∧ p1.toInt ≤ p2.toInt ∧ p2.toInt ≤ n.toInt ∧ n.toInt ≤ 24
theorem own_rg.ix {p1 p2 n j : Int32} (h : own_rg p1 p2 n) (hj : 0 < j.toInt ∧ j.toInt ≤ 5) (q : ¬ p2 - j < p1) : ¬ p2 - j < 0 ∧ p2 - j < n := by
  obtain ⟨h1, h2, h3, h4⟩ := h
  have e : (p2 - j).toInt = p2.toInt - j.toInt := by rw [Int32.toInt_sub]; exact Int.bmod_eq_of_le (by omega) (by omega)
  rw [Int32.lt_iff_toInt_lt, e] at q
  have z0 : (0 : Int32).toInt = 0 := rfl
  constructor
  · rw [Int32.lt_iff_toInt_lt, e, z0]; omega
  · rw [Int32.lt_iff_toInt_lt, e]; omega
def own_x5 (cs : List Int32) (p1 p2 : Int32) : Int32 := if (p2 - (5 : Int32)) < p1 then (0 : Int32) else (if own_at cs (p2 - (5 : Int32)) = (92 : Int32) then (1 : Int32) else (0 : Int32))
def own_x4 (cs : List Int32) (p1 p2 : Int32) : Int32 := if (p2 - (4 : Int32)) < p1 then own_x5 cs p1 p2 else (if own_at cs (p2 - (4 : Int32)) = (92 : Int32) then (1 : Int32) else own_x5 cs p1 p2)
def own_emg (cs : List Int32) (p1 p2 : Int32) : Int32 := if (p2 - (3 : Int32)) < p1 then own_x4 cs p1 p2 else (if own_at cs (p2 - (3 : Int32)) = (92 : Int32) then (1 : Int32) else own_x4 cs p1 p2)
theorem ef_13 (m : MethodId) (a0 : Addr) (p1 : Int32) (p2 : Int32) : entryFrame m #[(.ref a0), (.int p1), (.int p2)] 3 = mkF m 0 #[.val (.ref a0), .val (.int p1), .val (.int p2)] [] := by first | (simp [entryFrame, mkF, argsToLocals, Value.category]; done) | rfl
abbrev own_d13 (p : Nat) (i : Instr) (n : Nat) : Prop := decode prog_32_method_8_code p = .ok (i, n)
theorem d13_0 : own_d13 0 (.iload_n 2) 1 := by decide +kernel
theorem d13_1 : own_d13 1 (.iconst 3) 1 := by decide +kernel
theorem d13_2 : own_d13 2 .isub 1 := by decide +kernel
theorem d13_3 : own_d13 3 (.iload_n 1) 1 := by decide +kernel
theorem d13_4 : own_d13 4 (.if_icmp .lt 13) 3 := by decide +kernel
theorem d13_17 : own_d13 17 (.iload_n 2) 1 := by decide +kernel
theorem d13_18 : own_d13 18 (.iconst 4) 1 := by decide +kernel
theorem d13_19 : own_d13 19 .isub 1 := by decide +kernel
theorem d13_20 : own_d13 20 (.iload_n 1) 1 := by decide +kernel
theorem d13_21 : own_d13 21 (.if_icmp .lt 13) 3 := by decide +kernel
theorem d13_34 : own_d13 34 (.iload_n 2) 1 := by decide +kernel
theorem d13_35 : own_d13 35 (.iconst 5) 1 := by decide +kernel
theorem d13_36 : own_d13 36 .isub 1 := by decide +kernel
theorem d13_37 : own_d13 37 (.iload_n 1) 1 := by decide +kernel
theorem d13_38 : own_d13 38 (.if_icmp .lt 17) 3 := by decide +kernel
theorem d13_55 : own_d13 55 (.iconst 0) 1 := by decide +kernel
theorem d13_56 : own_d13 56 .ireturn 1 := by decide +kernel
theorem d13_41 : own_d13 41 (.aload_n 0) 1 := by decide +kernel
theorem d13_42 : own_d13 42 (.iload_n 2) 1 := by decide +kernel
theorem d13_43 : own_d13 43 (.iconst 5) 1 := by decide +kernel
theorem d13_44 : own_d13 44 .isub 1 := by decide +kernel
theorem d13_45 : own_d13 45 .caload 1 := by decide +kernel
theorem d13_46 : own_d13 46 (.bipush 92) 2 := by decide +kernel
theorem d13_48 : own_d13 48 (.if_icmp .ne 7) 3 := by decide +kernel
theorem d13_51 : own_d13 51 (.iconst 1) 1 := by decide +kernel
theorem d13_52 : own_d13 52 (.goto 4) 3 := by decide +kernel
theorem d13_24 : own_d13 24 (.aload_n 0) 1 := by decide +kernel
theorem d13_25 : own_d13 25 (.iload_n 2) 1 := by decide +kernel
theorem d13_26 : own_d13 26 (.iconst 4) 1 := by decide +kernel
theorem d13_27 : own_d13 27 .isub 1 := by decide +kernel
theorem d13_28 : own_d13 28 .caload 1 := by decide +kernel
theorem d13_29 : own_d13 29 (.bipush 92) 2 := by decide +kernel
theorem d13_31 : own_d13 31 (.if_icmp .eq 20) 3 := by decide +kernel
theorem d13_7 : own_d13 7 (.aload_n 0) 1 := by decide +kernel
theorem d13_8 : own_d13 8 (.iload_n 2) 1 := by decide +kernel
theorem d13_9 : own_d13 9 (.iconst 3) 1 := by decide +kernel
theorem d13_10 : own_d13 10 .isub 1 := by decide +kernel
theorem d13_11 : own_d13 11 .caload 1 := by decide +kernel
theorem d13_12 : own_d13 12 (.bipush 92) 2 := by decide +kernel
theorem d13_14 : own_d13 14 (.if_icmp .eq 37) 3 := by decide +kernel
def Q13 (Z : State) (a0 : Addr) (p1 p2 : Int32) (k0 : ClassId) (n : Int32) (cs : List Int32) (h0 : Heap) (n0 : Nat) (v : Option Value) (h : Heap) (L : List Loc) : Prop := v = some (.int (own_emg cs p1 p2)) ∧ Fr n0 L ∧ h = h0
set_option maxRecDepth 65536 in
set_option maxHeartbeats 40000000 in
theorem rm13 (l : Launch) (Z : State) (ag : Array Value) (hw : ∀ d ∈ tables_1, d.before ag Z = true) (ws : List Jvm.Cond) (a0 : Addr) (p1 p2 : Int32) (k0 : ClassId) (n : Int32) (cs : List Int32) (h0 : Heap) (n0 : Nat) (Z0 : n0 ≤ h0.size) (V_a0 : Arv Z h0 a0 k0 .char n (cs.map Value.int) (.int (0 : Int32))) (hrg : own_rg p1 p2 n) :
    MetFree l (⟨"com/example/needle_in_json/needleinjson/MaskedDigits", "escapeMayGoOn", "([CII)Z"⟩ : MethodName) (head1 (Jvm.Cond.code (⟨"com/example/needle_in_json/needleinjson/MaskedDigits", "escapeMayGoOn", "([CII)Z"⟩ : MethodName) prog_32_method_8_code 3 (some .boolean) :: ws) ({ frames := 0, cells := 0, slots := 0, locals := 0 } : Room)) (fun a U => a = #[(.ref a0), (.int p1), (.int p2)] ∧ Z.Warmed39 U.vm ∧ U.heap = h0) (fun _ _ _ _ _ => True) (fun _ U o U' => ∃ v L, o = .returned v ∧ Q13 Z a0 p1 p2 k0 n cs h0 n0 v U'.heap L ∧ FrameEnd U o U' L ({ frames := 0, cells := 0, slots := 0, locals := 0 } : Room).cells ({ frames := 0, cells := 0, slots := 0, locals := 0 } : Room).slots) := by
  refine MetFree.of_bodySF (plainFor_of_name pn_0) hisR ?_
  intro p e s m args below meth c s₁ Bd hml0 hP hK
  obtain ⟨rfl, hZ, hh⟩ := hP
  have hx := Bd.exec
  have hby := Bd.bytes
  have hml : c.maxLocals = 3 := hml0
  have hown : s.vm.findClass "com/example/needle_in_json/needleinjson/MaskedDigits" = some m.cls := findClass_of_methodNamed Bd.named
  have hnm := (name_of_methodNamed Bd.named Bd.method).1
  have X0 : Stand p l e ({ frames := 0, cells := 0, slots := 0, locals := 0 } : Room) s m #[(.ref a0), (.int p1), (.int p2)] below meth c s₁ [] 0 0 := Stand.of_body Bd
  have e0 : s₁.heap = h0 := by rw [← hh, Bd.state]; rfl
  have N0 := Fr.nil n0
  have pre0 : ∀ t, Steps p.tables e below (s₁.setTop (mkF m 0 #[.val (.ref a0), .val (.int p1), .val (.int p2)] [])) t → Steps p.tables e below (s₁.setTop (entryFrame m #[(.ref a0), (.int p1), (.int p2)] 3)) t := fun t k => castTop (ef_13 m a0 p1 p2) k
  have cp128 : ∀ target, own_S p e below s₁ (mkF m 4 #[.val (.ref a0), .val (.int p1), .val (.int p2)] [(.int p1), (.int (p2 - (3 : Int32)))]) target → own_S p e below s₁ (mkF m 0 #[.val (.ref a0), .val (.int p1), .val (.int p2)] []) target := by
    intro target kt
    show own_S p e below s₁ (mkF m 0 #[.val (.ref a0), .val (.int p1), .val (.int p2)] []) _
    refine XS.iloadN X0.here hx rfl (hb hby d13_0) rfl (XS.iconst X0.here hx rfl (hb hby d13_1) (XS.isub X0.here hx rfl (hb hby d13_2) rfl (XS.iloadN X0.here hx rfl (hb hby d13_3) rfl ?_)))
    exact kt
  by_cases hc127 : (p2 - (3 : Int32)) < p1
  · have cp130 : ∀ target, own_S p e below s₁ (mkF m 21 #[.val (.ref a0), .val (.int p1), .val (.int p2)] [(.int p1), (.int (p2 - (4 : Int32)))]) target → own_S p e below s₁ (mkF m 0 #[.val (.ref a0), .val (.int p1), .val (.int p2)] []) target := by
      intro target kt
      show own_S p e below s₁ (mkF m 0 #[.val (.ref a0), .val (.int p1), .val (.int p2)] []) _
      refine cp128 _ (XS.icmpYes X0.here hx rfl (pc0 := 4) (pc' := 17) rfl (hb hby d13_4) rfl (tlt hc127).1 (by decide) (by decide) (XS.iloadN X0.here hx rfl (hb hby d13_17) rfl (XS.iconst X0.here hx rfl (hb hby d13_18) (XS.isub X0.here hx rfl (hb hby d13_19) rfl (XS.iloadN X0.here hx rfl (hb hby d13_20) rfl ?_)))))
      exact kt
    by_cases hc129 : (p2 - (4 : Int32)) < p1
    · have cp132 : ∀ target, own_S p e below s₁ (mkF m 38 #[.val (.ref a0), .val (.int p1), .val (.int p2)] [(.int p1), (.int (p2 - (5 : Int32)))]) target → own_S p e below s₁ (mkF m 0 #[.val (.ref a0), .val (.int p1), .val (.int p2)] []) target := by
        intro target kt
        show own_S p e below s₁ (mkF m 0 #[.val (.ref a0), .val (.int p1), .val (.int p2)] []) _
        refine cp130 _ (XS.icmpYes X0.here hx rfl (pc0 := 21) (pc' := 34) rfl (hb hby d13_21) rfl (tlt hc129).1 (by decide) (by decide) (XS.iloadN X0.here hx rfl (hb hby d13_34) rfl (XS.iconst X0.here hx rfl (hb hby d13_35) (XS.isub X0.here hx rfl (hb hby d13_36) rfl (XS.iloadN X0.here hx rfl (hb hby d13_37) rfl ?_)))))
        exact kt
      by_cases hc131 : (p2 - (5 : Int32)) < p1
      · obtain ⟨fs, hr, hrun, hended, hW, hsame⟩ := X0.leave (v := some (.int (0 : Int32))) (fun h => by rw [Bd.returns] at h; cases h)
        refine ⟨_, _, pre0 _ ?_, hrun, hended, _, _, rfl, ?_, ⟨_, rfl⟩, hW, hsame.mono (by decide) (by decide)⟩
        · show own_S p e below s₁ (mkF m 0 #[.val (.ref a0), .val (.int p1), .val (.int p2)] []) _
          refine cp132 _ (XS.icmpYes X0.here hx rfl (pc0 := 38) (pc' := 55) rfl (hb hby d13_38) rfl (tlt hc131).1 (by decide) (by decide) (XS.iconst X0.here hx rfl (hb hby d13_55) ?_))
          show own_S p e below s₁ (mkF m 56 #[.val (.ref a0), .val (.int p1), .val (.int p2)] [.int 0]) _
          exact retN X0 hx (t := .boolean) Bd.returns (by simp) (hb hby d13_56) hr
        · show Q13 Z a0 p1 p2 k0 n cs h0 n0 _ s₁.heap _
          rw [e0]
          exact ⟨congrArg (fun z => some (Value.int z)) (show (0 : Int32) = (own_emg cs p1 p2) from by unfold own_emg own_x4 own_x5; rw [if_pos hc127, if_pos hc129, if_pos hc131]), N0, rfl⟩
      · obtain ⟨cl133, Ar133, q133, S133, M133, H133, G133⟩ := id V_a0
        have hin133 : ¬ ((p2 - (5 : Int32)) < 0 ∨ cl133.slots.size ≤ ((p2 - (5 : Int32))).toNatClampNeg) := inb_of S133 (hrg.ix ⟨by decide, by decide⟩ hc131)
        have hat133 : cl133.slots[((p2 - (5 : Int32))).toNatClampNeg]? = some (.int (own_at cs (p2 - (5 : Int32)))) := Has.at H133 hin133 (own_mg cs (p2 - (5 : Int32)))
        have ld133 := X0.caload hx (j := (p2 - (5 : Int32))) (v := (.int (own_at cs (p2 - (5 : Int32))))) (by rw [e0]; exact Ar133.1) (State.isArrayOf_alike hZ.alike Ar133.2.1) Ar133.2.2 hin133 hat133 (g := (mkF m 45 #[.val (.ref a0), .val (.int p1), .val (.int p2)] [(.int (p2 - (5 : Int32))), (.ref a0)])) rfl rfl (hb hby d13_45)
        have cp135 : ∀ target, own_S p e below s₁ (mkF m 48 #[.val (.ref a0), .val (.int p1), .val (.int p2)] [.int 92, (.int (own_at cs (p2 - (5 : Int32))))]) target → own_S p e below s₁ (mkF m 0 #[.val (.ref a0), .val (.int p1), .val (.int p2)] []) target := by
          intro target kt
          show own_S p e below s₁ (mkF m 0 #[.val (.ref a0), .val (.int p1), .val (.int p2)] []) _
          refine cp132 _ (XS.icmpNo X0.here hx rfl (hb hby d13_38) rfl (flt hc131).1 (XS.aloadN X0.here hx rfl (hb hby d13_41) rfl rfl (XS.iloadN X0.here hx rfl (hb hby d13_42) rfl (XS.iconst X0.here hx rfl (hb hby d13_43) (XS.isub X0.here hx rfl (hb hby d13_44) rfl (ld133 _ (XS.bipush X0.here hx rfl (hb hby d13_46) ?_)))))))
          exact kt
        by_cases hc134 : (own_at cs (p2 - (5 : Int32))) = (92 : Int32)
        · obtain ⟨fs, hr, hrun, hended, hW, hsame⟩ := X0.leave (v := some (.int (1 : Int32))) (fun h => by rw [Bd.returns] at h; cases h)
          refine ⟨_, _, pre0 _ ?_, hrun, hended, _, _, rfl, ?_, ⟨_, rfl⟩, hW, hsame.mono (by decide) (by decide)⟩
          · show own_S p e below s₁ (mkF m 0 #[.val (.ref a0), .val (.int p1), .val (.int p2)] []) _
            refine cp135 _ (XS.icmpNo X0.here hx rfl (hb hby d13_48) rfl (teq hc134).2 (XS.iconst X0.here hx rfl (hb hby d13_51) (XS.goto X0.here hx rfl (pc0 := 52) (pc' := 56) rfl (hb hby d13_52) (by decide) (by decide) ?_)))
            show own_S p e below s₁ (mkF m 56 #[.val (.ref a0), .val (.int p1), .val (.int p2)] [.int 1]) _
            exact retN X0 hx (t := .boolean) Bd.returns (by simp) (hb hby d13_56) hr
          · show Q13 Z a0 p1 p2 k0 n cs h0 n0 _ s₁.heap _
            rw [e0]
            exact ⟨congrArg (fun z => some (Value.int z)) (show (1 : Int32) = (own_emg cs p1 p2) from by unfold own_emg own_x4 own_x5; rw [if_pos hc127, if_pos hc129, if_neg hc131, if_pos hc134]), N0, rfl⟩
        · obtain ⟨fs, hr, hrun, hended, hW, hsame⟩ := X0.leave (v := some (.int (0 : Int32))) (fun h => by rw [Bd.returns] at h; cases h)
          refine ⟨_, _, pre0 _ ?_, hrun, hended, _, _, rfl, ?_, ⟨_, rfl⟩, hW, hsame.mono (by decide) (by decide)⟩
          · show own_S p e below s₁ (mkF m 0 #[.val (.ref a0), .val (.int p1), .val (.int p2)] []) _
            refine cp135 _ (XS.icmpYes X0.here hx rfl (pc0 := 48) (pc' := 55) rfl (hb hby d13_48) rfl (feq hc134).2 (by decide) (by decide) (XS.iconst X0.here hx rfl (hb hby d13_55) ?_))
            show own_S p e below s₁ (mkF m 56 #[.val (.ref a0), .val (.int p1), .val (.int p2)] [.int 0]) _
            exact retN X0 hx (t := .boolean) Bd.returns (by simp) (hb hby d13_56) hr
          · show Q13 Z a0 p1 p2 k0 n cs h0 n0 _ s₁.heap _
            rw [e0]
            exact ⟨congrArg (fun z => some (Value.int z)) (show (0 : Int32) = (own_emg cs p1 p2) from by unfold own_emg own_x4 own_x5; rw [if_pos hc127, if_pos hc129, if_neg hc131, if_neg hc134]), N0, rfl⟩
    · obtain ⟨cl136, Ar136, q136, S136, M136, H136, G136⟩ := id V_a0
      have hin136 : ¬ ((p2 - (4 : Int32)) < 0 ∨ cl136.slots.size ≤ ((p2 - (4 : Int32))).toNatClampNeg) := inb_of S136 (hrg.ix ⟨by decide, by decide⟩ hc129)
      have hat136 : cl136.slots[((p2 - (4 : Int32))).toNatClampNeg]? = some (.int (own_at cs (p2 - (4 : Int32)))) := Has.at H136 hin136 (own_mg cs (p2 - (4 : Int32)))
      have ld136 := X0.caload hx (j := (p2 - (4 : Int32))) (v := (.int (own_at cs (p2 - (4 : Int32))))) (by rw [e0]; exact Ar136.1) (State.isArrayOf_alike hZ.alike Ar136.2.1) Ar136.2.2 hin136 hat136 (g := (mkF m 28 #[.val (.ref a0), .val (.int p1), .val (.int p2)] [(.int (p2 - (4 : Int32))), (.ref a0)])) rfl rfl (hb hby d13_28)
      have cp138 : ∀ target, own_S p e below s₁ (mkF m 31 #[.val (.ref a0), .val (.int p1), .val (.int p2)] [.int 92, (.int (own_at cs (p2 - (4 : Int32))))]) target → own_S p e below s₁ (mkF m 0 #[.val (.ref a0), .val (.int p1), .val (.int p2)] []) target := by
        intro target kt
        show own_S p e below s₁ (mkF m 0 #[.val (.ref a0), .val (.int p1), .val (.int p2)] []) _
        refine cp130 _ (XS.icmpNo X0.here hx rfl (hb hby d13_21) rfl (flt hc129).1 (XS.aloadN X0.here hx rfl (hb hby d13_24) rfl rfl (XS.iloadN X0.here hx rfl (hb hby d13_25) rfl (XS.iconst X0.here hx rfl (hb hby d13_26) (XS.isub X0.here hx rfl (hb hby d13_27) rfl (ld136 _ (XS.bipush X0.here hx rfl (hb hby d13_29) ?_)))))))
        exact kt
      by_cases hc137 : (own_at cs (p2 - (4 : Int32))) = (92 : Int32)
      · obtain ⟨fs, hr, hrun, hended, hW, hsame⟩ := X0.leave (v := some (.int (1 : Int32))) (fun h => by rw [Bd.returns] at h; cases h)
        refine ⟨_, _, pre0 _ ?_, hrun, hended, _, _, rfl, ?_, ⟨_, rfl⟩, hW, hsame.mono (by decide) (by decide)⟩
        · show own_S p e below s₁ (mkF m 0 #[.val (.ref a0), .val (.int p1), .val (.int p2)] []) _
          refine cp138 _ (XS.icmpYes X0.here hx rfl (pc0 := 31) (pc' := 51) rfl (hb hby d13_31) rfl (teq hc137).1 (by decide) (by decide) (XS.iconst X0.here hx rfl (hb hby d13_51) (XS.goto X0.here hx rfl (pc0 := 52) (pc' := 56) rfl (hb hby d13_52) (by decide) (by decide) ?_)))
          show own_S p e below s₁ (mkF m 56 #[.val (.ref a0), .val (.int p1), .val (.int p2)] [.int 1]) _
          exact retN X0 hx (t := .boolean) Bd.returns (by simp) (hb hby d13_56) hr
        · show Q13 Z a0 p1 p2 k0 n cs h0 n0 _ s₁.heap _
          rw [e0]
          exact ⟨congrArg (fun z => some (Value.int z)) (show (1 : Int32) = (own_emg cs p1 p2) from by unfold own_emg own_x4 own_x5; rw [if_pos hc127, if_neg hc129, if_pos hc137]), N0, rfl⟩
      · have cp140 : ∀ target, own_S p e below s₁ (mkF m 38 #[.val (.ref a0), .val (.int p1), .val (.int p2)] [(.int p1), (.int (p2 - (5 : Int32)))]) target → own_S p e below s₁ (mkF m 0 #[.val (.ref a0), .val (.int p1), .val (.int p2)] []) target := by
          intro target kt
          show own_S p e below s₁ (mkF m 0 #[.val (.ref a0), .val (.int p1), .val (.int p2)] []) _
          refine cp138 _ (XS.icmpNo X0.here hx rfl (hb hby d13_31) rfl (feq hc137).1 (XS.iloadN X0.here hx rfl (hb hby d13_34) rfl (XS.iconst X0.here hx rfl (hb hby d13_35) (XS.isub X0.here hx rfl (hb hby d13_36) rfl (XS.iloadN X0.here hx rfl (hb hby d13_37) rfl ?_)))))
          exact kt
        by_cases hc139 : (p2 - (5 : Int32)) < p1
        · obtain ⟨fs, hr, hrun, hended, hW, hsame⟩ := X0.leave (v := some (.int (0 : Int32))) (fun h => by rw [Bd.returns] at h; cases h)
          refine ⟨_, _, pre0 _ ?_, hrun, hended, _, _, rfl, ?_, ⟨_, rfl⟩, hW, hsame.mono (by decide) (by decide)⟩
          · show own_S p e below s₁ (mkF m 0 #[.val (.ref a0), .val (.int p1), .val (.int p2)] []) _
            refine cp140 _ (XS.icmpYes X0.here hx rfl (pc0 := 38) (pc' := 55) rfl (hb hby d13_38) rfl (tlt hc139).1 (by decide) (by decide) (XS.iconst X0.here hx rfl (hb hby d13_55) ?_))
            show own_S p e below s₁ (mkF m 56 #[.val (.ref a0), .val (.int p1), .val (.int p2)] [.int 0]) _
            exact retN X0 hx (t := .boolean) Bd.returns (by simp) (hb hby d13_56) hr
          · show Q13 Z a0 p1 p2 k0 n cs h0 n0 _ s₁.heap _
            rw [e0]
            exact ⟨congrArg (fun z => some (Value.int z)) (show (0 : Int32) = (own_emg cs p1 p2) from by unfold own_emg own_x4 own_x5; rw [if_pos hc127, if_neg hc129, if_neg hc137, if_pos hc139]), N0, rfl⟩
        · obtain ⟨cl141, Ar141, q141, S141, M141, H141, G141⟩ := id V_a0
          have hin141 : ¬ ((p2 - (5 : Int32)) < 0 ∨ cl141.slots.size ≤ ((p2 - (5 : Int32))).toNatClampNeg) := inb_of S141 (hrg.ix ⟨by decide, by decide⟩ hc139)
          have hat141 : cl141.slots[((p2 - (5 : Int32))).toNatClampNeg]? = some (.int (own_at cs (p2 - (5 : Int32)))) := Has.at H141 hin141 (own_mg cs (p2 - (5 : Int32)))
          have ld141 := X0.caload hx (j := (p2 - (5 : Int32))) (v := (.int (own_at cs (p2 - (5 : Int32))))) (by rw [e0]; exact Ar141.1) (State.isArrayOf_alike hZ.alike Ar141.2.1) Ar141.2.2 hin141 hat141 (g := (mkF m 45 #[.val (.ref a0), .val (.int p1), .val (.int p2)] [(.int (p2 - (5 : Int32))), (.ref a0)])) rfl rfl (hb hby d13_45)
          have cp143 : ∀ target, own_S p e below s₁ (mkF m 48 #[.val (.ref a0), .val (.int p1), .val (.int p2)] [.int 92, (.int (own_at cs (p2 - (5 : Int32))))]) target → own_S p e below s₁ (mkF m 0 #[.val (.ref a0), .val (.int p1), .val (.int p2)] []) target := by
            intro target kt
            show own_S p e below s₁ (mkF m 0 #[.val (.ref a0), .val (.int p1), .val (.int p2)] []) _
            refine cp140 _ (XS.icmpNo X0.here hx rfl (hb hby d13_38) rfl (flt hc139).1 (XS.aloadN X0.here hx rfl (hb hby d13_41) rfl rfl (XS.iloadN X0.here hx rfl (hb hby d13_42) rfl (XS.iconst X0.here hx rfl (hb hby d13_43) (XS.isub X0.here hx rfl (hb hby d13_44) rfl (ld141 _ (XS.bipush X0.here hx rfl (hb hby d13_46) ?_)))))))
            exact kt
          by_cases hc142 : (own_at cs (p2 - (5 : Int32))) = (92 : Int32)
          · obtain ⟨fs, hr, hrun, hended, hW, hsame⟩ := X0.leave (v := some (.int (1 : Int32))) (fun h => by rw [Bd.returns] at h; cases h)
            refine ⟨_, _, pre0 _ ?_, hrun, hended, _, _, rfl, ?_, ⟨_, rfl⟩, hW, hsame.mono (by decide) (by decide)⟩
            · show own_S p e below s₁ (mkF m 0 #[.val (.ref a0), .val (.int p1), .val (.int p2)] []) _
              refine cp143 _ (XS.icmpNo X0.here hx rfl (hb hby d13_48) rfl (teq hc142).2 (XS.iconst X0.here hx rfl (hb hby d13_51) (XS.goto X0.here hx rfl (pc0 := 52) (pc' := 56) rfl (hb hby d13_52) (by decide) (by decide) ?_)))
              show own_S p e below s₁ (mkF m 56 #[.val (.ref a0), .val (.int p1), .val (.int p2)] [.int 1]) _
              exact retN X0 hx (t := .boolean) Bd.returns (by simp) (hb hby d13_56) hr
            · show Q13 Z a0 p1 p2 k0 n cs h0 n0 _ s₁.heap _
              rw [e0]
              exact ⟨congrArg (fun z => some (Value.int z)) (show (1 : Int32) = (own_emg cs p1 p2) from by unfold own_emg own_x4 own_x5; rw [if_pos hc127, if_neg hc129, if_neg hc137, if_neg hc139, if_pos hc142]), N0, rfl⟩
          · obtain ⟨fs, hr, hrun, hended, hW, hsame⟩ := X0.leave (v := some (.int (0 : Int32))) (fun h => by rw [Bd.returns] at h; cases h)
            refine ⟨_, _, pre0 _ ?_, hrun, hended, _, _, rfl, ?_, ⟨_, rfl⟩, hW, hsame.mono (by decide) (by decide)⟩
            · show own_S p e below s₁ (mkF m 0 #[.val (.ref a0), .val (.int p1), .val (.int p2)] []) _
              refine cp143 _ (XS.icmpYes X0.here hx rfl (pc0 := 48) (pc' := 55) rfl (hb hby d13_48) rfl (feq hc142).2 (by decide) (by decide) (XS.iconst X0.here hx rfl (hb hby d13_55) ?_))
              show own_S p e below s₁ (mkF m 56 #[.val (.ref a0), .val (.int p1), .val (.int p2)] [.int 0]) _
              exact retN X0 hx (t := .boolean) Bd.returns (by simp) (hb hby d13_56) hr
            · show Q13 Z a0 p1 p2 k0 n cs h0 n0 _ s₁.heap _
              rw [e0]
              exact ⟨congrArg (fun z => some (Value.int z)) (show (0 : Int32) = (own_emg cs p1 p2) from by unfold own_emg own_x4 own_x5; rw [if_pos hc127, if_neg hc129, if_neg hc137, if_neg hc139, if_neg hc142]), N0, rfl⟩
  · obtain ⟨cl144, Ar144, q144, S144, M144, H144, G144⟩ := id V_a0
    have hin144 : ¬ ((p2 - (3 : Int32)) < 0 ∨ cl144.slots.size ≤ ((p2 - (3 : Int32))).toNatClampNeg) := inb_of S144 (hrg.ix ⟨by decide, by decide⟩ hc127)
    have hat144 : cl144.slots[((p2 - (3 : Int32))).toNatClampNeg]? = some (.int (own_at cs (p2 - (3 : Int32)))) := Has.at H144 hin144 (own_mg cs (p2 - (3 : Int32)))
    have ld144 := X0.caload hx (j := (p2 - (3 : Int32))) (v := (.int (own_at cs (p2 - (3 : Int32))))) (by rw [e0]; exact Ar144.1) (State.isArrayOf_alike hZ.alike Ar144.2.1) Ar144.2.2 hin144 hat144 (g := (mkF m 11 #[.val (.ref a0), .val (.int p1), .val (.int p2)] [(.int (p2 - (3 : Int32))), (.ref a0)])) rfl rfl (hb hby d13_11)
    have cp146 : ∀ target, own_S p e below s₁ (mkF m 14 #[.val (.ref a0), .val (.int p1), .val (.int p2)] [.int 92, (.int (own_at cs (p2 - (3 : Int32))))]) target → own_S p e below s₁ (mkF m 0 #[.val (.ref a0), .val (.int p1), .val (.int p2)] []) target := by
      intro target kt
      show own_S p e below s₁ (mkF m 0 #[.val (.ref a0), .val (.int p1), .val (.int p2)] []) _
      refine cp128 _ (XS.icmpNo X0.here hx rfl (hb hby d13_4) rfl (flt hc127).1 (XS.aloadN X0.here hx rfl (hb hby d13_7) rfl rfl (XS.iloadN X0.here hx rfl (hb hby d13_8) rfl (XS.iconst X0.here hx rfl (hb hby d13_9) (XS.isub X0.here hx rfl (hb hby d13_10) rfl (ld144 _ (XS.bipush X0.here hx rfl (hb hby d13_12) ?_)))))))
      exact kt
    by_cases hc145 : (own_at cs (p2 - (3 : Int32))) = (92 : Int32)
    · obtain ⟨fs, hr, hrun, hended, hW, hsame⟩ := X0.leave (v := some (.int (1 : Int32))) (fun h => by rw [Bd.returns] at h; cases h)
      refine ⟨_, _, pre0 _ ?_, hrun, hended, _, _, rfl, ?_, ⟨_, rfl⟩, hW, hsame.mono (by decide) (by decide)⟩
      · show own_S p e below s₁ (mkF m 0 #[.val (.ref a0), .val (.int p1), .val (.int p2)] []) _
        refine cp146 _ (XS.icmpYes X0.here hx rfl (pc0 := 14) (pc' := 51) rfl (hb hby d13_14) rfl (teq hc145).1 (by decide) (by decide) (XS.iconst X0.here hx rfl (hb hby d13_51) (XS.goto X0.here hx rfl (pc0 := 52) (pc' := 56) rfl (hb hby d13_52) (by decide) (by decide) ?_)))
        show own_S p e below s₁ (mkF m 56 #[.val (.ref a0), .val (.int p1), .val (.int p2)] [.int 1]) _
        exact retN X0 hx (t := .boolean) Bd.returns (by simp) (hb hby d13_56) hr
      · show Q13 Z a0 p1 p2 k0 n cs h0 n0 _ s₁.heap _
        rw [e0]
        exact ⟨congrArg (fun z => some (Value.int z)) (show (1 : Int32) = (own_emg cs p1 p2) from by unfold own_emg own_x4 own_x5; rw [if_neg hc127, if_pos hc145]), N0, rfl⟩
    · have cp148 : ∀ target, own_S p e below s₁ (mkF m 21 #[.val (.ref a0), .val (.int p1), .val (.int p2)] [(.int p1), (.int (p2 - (4 : Int32)))]) target → own_S p e below s₁ (mkF m 0 #[.val (.ref a0), .val (.int p1), .val (.int p2)] []) target := by
        intro target kt
        show own_S p e below s₁ (mkF m 0 #[.val (.ref a0), .val (.int p1), .val (.int p2)] []) _
        refine cp146 _ (XS.icmpNo X0.here hx rfl (hb hby d13_14) rfl (feq hc145).1 (XS.iloadN X0.here hx rfl (hb hby d13_17) rfl (XS.iconst X0.here hx rfl (hb hby d13_18) (XS.isub X0.here hx rfl (hb hby d13_19) rfl (XS.iloadN X0.here hx rfl (hb hby d13_20) rfl ?_)))))
        exact kt
      by_cases hc147 : (p2 - (4 : Int32)) < p1
      · have cp150 : ∀ target, own_S p e below s₁ (mkF m 38 #[.val (.ref a0), .val (.int p1), .val (.int p2)] [(.int p1), (.int (p2 - (5 : Int32)))]) target → own_S p e below s₁ (mkF m 0 #[.val (.ref a0), .val (.int p1), .val (.int p2)] []) target := by
          intro target kt
          show own_S p e below s₁ (mkF m 0 #[.val (.ref a0), .val (.int p1), .val (.int p2)] []) _
          refine cp148 _ (XS.icmpYes X0.here hx rfl (pc0 := 21) (pc' := 34) rfl (hb hby d13_21) rfl (tlt hc147).1 (by decide) (by decide) (XS.iloadN X0.here hx rfl (hb hby d13_34) rfl (XS.iconst X0.here hx rfl (hb hby d13_35) (XS.isub X0.here hx rfl (hb hby d13_36) rfl (XS.iloadN X0.here hx rfl (hb hby d13_37) rfl ?_)))))
          exact kt
        by_cases hc149 : (p2 - (5 : Int32)) < p1
        · obtain ⟨fs, hr, hrun, hended, hW, hsame⟩ := X0.leave (v := some (.int (0 : Int32))) (fun h => by rw [Bd.returns] at h; cases h)
          refine ⟨_, _, pre0 _ ?_, hrun, hended, _, _, rfl, ?_, ⟨_, rfl⟩, hW, hsame.mono (by decide) (by decide)⟩
          · show own_S p e below s₁ (mkF m 0 #[.val (.ref a0), .val (.int p1), .val (.int p2)] []) _
            refine cp150 _ (XS.icmpYes X0.here hx rfl (pc0 := 38) (pc' := 55) rfl (hb hby d13_38) rfl (tlt hc149).1 (by decide) (by decide) (XS.iconst X0.here hx rfl (hb hby d13_55) ?_))
            show own_S p e below s₁ (mkF m 56 #[.val (.ref a0), .val (.int p1), .val (.int p2)] [.int 0]) _
            exact retN X0 hx (t := .boolean) Bd.returns (by simp) (hb hby d13_56) hr
          · show Q13 Z a0 p1 p2 k0 n cs h0 n0 _ s₁.heap _
            rw [e0]
            exact ⟨congrArg (fun z => some (Value.int z)) (show (0 : Int32) = (own_emg cs p1 p2) from by unfold own_emg own_x4 own_x5; rw [if_neg hc127, if_neg hc145, if_pos hc147, if_pos hc149]), N0, rfl⟩
        · obtain ⟨cl151, Ar151, q151, S151, M151, H151, G151⟩ := id V_a0
          have hin151 : ¬ ((p2 - (5 : Int32)) < 0 ∨ cl151.slots.size ≤ ((p2 - (5 : Int32))).toNatClampNeg) := inb_of S151 (hrg.ix ⟨by decide, by decide⟩ hc149)
          have hat151 : cl151.slots[((p2 - (5 : Int32))).toNatClampNeg]? = some (.int (own_at cs (p2 - (5 : Int32)))) := Has.at H151 hin151 (own_mg cs (p2 - (5 : Int32)))
          have ld151 := X0.caload hx (j := (p2 - (5 : Int32))) (v := (.int (own_at cs (p2 - (5 : Int32))))) (by rw [e0]; exact Ar151.1) (State.isArrayOf_alike hZ.alike Ar151.2.1) Ar151.2.2 hin151 hat151 (g := (mkF m 45 #[.val (.ref a0), .val (.int p1), .val (.int p2)] [(.int (p2 - (5 : Int32))), (.ref a0)])) rfl rfl (hb hby d13_45)
          have cp153 : ∀ target, own_S p e below s₁ (mkF m 48 #[.val (.ref a0), .val (.int p1), .val (.int p2)] [.int 92, (.int (own_at cs (p2 - (5 : Int32))))]) target → own_S p e below s₁ (mkF m 0 #[.val (.ref a0), .val (.int p1), .val (.int p2)] []) target := by
            intro target kt
            show own_S p e below s₁ (mkF m 0 #[.val (.ref a0), .val (.int p1), .val (.int p2)] []) _
            refine cp150 _ (XS.icmpNo X0.here hx rfl (hb hby d13_38) rfl (flt hc149).1 (XS.aloadN X0.here hx rfl (hb hby d13_41) rfl rfl (XS.iloadN X0.here hx rfl (hb hby d13_42) rfl (XS.iconst X0.here hx rfl (hb hby d13_43) (XS.isub X0.here hx rfl (hb hby d13_44) rfl (ld151 _ (XS.bipush X0.here hx rfl (hb hby d13_46) ?_)))))))
            exact kt
          by_cases hc152 : (own_at cs (p2 - (5 : Int32))) = (92 : Int32)
          · obtain ⟨fs, hr, hrun, hended, hW, hsame⟩ := X0.leave (v := some (.int (1 : Int32))) (fun h => by rw [Bd.returns] at h; cases h)
            refine ⟨_, _, pre0 _ ?_, hrun, hended, _, _, rfl, ?_, ⟨_, rfl⟩, hW, hsame.mono (by decide) (by decide)⟩
            · show own_S p e below s₁ (mkF m 0 #[.val (.ref a0), .val (.int p1), .val (.int p2)] []) _
              refine cp153 _ (XS.icmpNo X0.here hx rfl (hb hby d13_48) rfl (teq hc152).2 (XS.iconst X0.here hx rfl (hb hby d13_51) (XS.goto X0.here hx rfl (pc0 := 52) (pc' := 56) rfl (hb hby d13_52) (by decide) (by decide) ?_)))
              show own_S p e below s₁ (mkF m 56 #[.val (.ref a0), .val (.int p1), .val (.int p2)] [.int 1]) _
              exact retN X0 hx (t := .boolean) Bd.returns (by simp) (hb hby d13_56) hr
            · show Q13 Z a0 p1 p2 k0 n cs h0 n0 _ s₁.heap _
              rw [e0]
              exact ⟨congrArg (fun z => some (Value.int z)) (show (1 : Int32) = (own_emg cs p1 p2) from by unfold own_emg own_x4 own_x5; rw [if_neg hc127, if_neg hc145, if_pos hc147, if_neg hc149, if_pos hc152]), N0, rfl⟩
          · obtain ⟨fs, hr, hrun, hended, hW, hsame⟩ := X0.leave (v := some (.int (0 : Int32))) (fun h => by rw [Bd.returns] at h; cases h)
            refine ⟨_, _, pre0 _ ?_, hrun, hended, _, _, rfl, ?_, ⟨_, rfl⟩, hW, hsame.mono (by decide) (by decide)⟩
            · show own_S p e below s₁ (mkF m 0 #[.val (.ref a0), .val (.int p1), .val (.int p2)] []) _
              refine cp153 _ (XS.icmpYes X0.here hx rfl (pc0 := 48) (pc' := 55) rfl (hb hby d13_48) rfl (feq hc152).2 (by decide) (by decide) (XS.iconst X0.here hx rfl (hb hby d13_55) ?_))
              show own_S p e below s₁ (mkF m 56 #[.val (.ref a0), .val (.int p1), .val (.int p2)] [.int 0]) _
              exact retN X0 hx (t := .boolean) Bd.returns (by simp) (hb hby d13_56) hr
            · show Q13 Z a0 p1 p2 k0 n cs h0 n0 _ s₁.heap _
              rw [e0]
              exact ⟨congrArg (fun z => some (Value.int z)) (show (0 : Int32) = (own_emg cs p1 p2) from by unfold own_emg own_x4 own_x5; rw [if_neg hc127, if_neg hc145, if_pos hc147, if_neg hc149, if_neg hc152]), N0, rfl⟩
      · obtain ⟨cl154, Ar154, q154, S154, M154, H154, G154⟩ := id V_a0
        have hin154 : ¬ ((p2 - (4 : Int32)) < 0 ∨ cl154.slots.size ≤ ((p2 - (4 : Int32))).toNatClampNeg) := inb_of S154 (hrg.ix ⟨by decide, by decide⟩ hc147)
        have hat154 : cl154.slots[((p2 - (4 : Int32))).toNatClampNeg]? = some (.int (own_at cs (p2 - (4 : Int32)))) := Has.at H154 hin154 (own_mg cs (p2 - (4 : Int32)))
        have ld154 := X0.caload hx (j := (p2 - (4 : Int32))) (v := (.int (own_at cs (p2 - (4 : Int32))))) (by rw [e0]; exact Ar154.1) (State.isArrayOf_alike hZ.alike Ar154.2.1) Ar154.2.2 hin154 hat154 (g := (mkF m 28 #[.val (.ref a0), .val (.int p1), .val (.int p2)] [(.int (p2 - (4 : Int32))), (.ref a0)])) rfl rfl (hb hby d13_28)
        have cp156 : ∀ target, own_S p e below s₁ (mkF m 31 #[.val (.ref a0), .val (.int p1), .val (.int p2)] [.int 92, (.int (own_at cs (p2 - (4 : Int32))))]) target → own_S p e below s₁ (mkF m 0 #[.val (.ref a0), .val (.int p1), .val (.int p2)] []) target := by
          intro target kt
          show own_S p e below s₁ (mkF m 0 #[.val (.ref a0), .val (.int p1), .val (.int p2)] []) _
          refine cp148 _ (XS.icmpNo X0.here hx rfl (hb hby d13_21) rfl (flt hc147).1 (XS.aloadN X0.here hx rfl (hb hby d13_24) rfl rfl (XS.iloadN X0.here hx rfl (hb hby d13_25) rfl (XS.iconst X0.here hx rfl (hb hby d13_26) (XS.isub X0.here hx rfl (hb hby d13_27) rfl (ld154 _ (XS.bipush X0.here hx rfl (hb hby d13_29) ?_)))))))
          exact kt
        by_cases hc155 : (own_at cs (p2 - (4 : Int32))) = (92 : Int32)
        · obtain ⟨fs, hr, hrun, hended, hW, hsame⟩ := X0.leave (v := some (.int (1 : Int32))) (fun h => by rw [Bd.returns] at h; cases h)
          refine ⟨_, _, pre0 _ ?_, hrun, hended, _, _, rfl, ?_, ⟨_, rfl⟩, hW, hsame.mono (by decide) (by decide)⟩
          · show own_S p e below s₁ (mkF m 0 #[.val (.ref a0), .val (.int p1), .val (.int p2)] []) _
            refine cp156 _ (XS.icmpYes X0.here hx rfl (pc0 := 31) (pc' := 51) rfl (hb hby d13_31) rfl (teq hc155).1 (by decide) (by decide) (XS.iconst X0.here hx rfl (hb hby d13_51) (XS.goto X0.here hx rfl (pc0 := 52) (pc' := 56) rfl (hb hby d13_52) (by decide) (by decide) ?_)))
            show own_S p e below s₁ (mkF m 56 #[.val (.ref a0), .val (.int p1), .val (.int p2)] [.int 1]) _
            exact retN X0 hx (t := .boolean) Bd.returns (by simp) (hb hby d13_56) hr
          · show Q13 Z a0 p1 p2 k0 n cs h0 n0 _ s₁.heap _
            rw [e0]
            exact ⟨congrArg (fun z => some (Value.int z)) (show (1 : Int32) = (own_emg cs p1 p2) from by unfold own_emg own_x4 own_x5; rw [if_neg hc127, if_neg hc145, if_neg hc147, if_pos hc155]), N0, rfl⟩
        · have cp158 : ∀ target, own_S p e below s₁ (mkF m 38 #[.val (.ref a0), .val (.int p1), .val (.int p2)] [(.int p1), (.int (p2 - (5 : Int32)))]) target → own_S p e below s₁ (mkF m 0 #[.val (.ref a0), .val (.int p1), .val (.int p2)] []) target := by
            intro target kt
            show own_S p e below s₁ (mkF m 0 #[.val (.ref a0), .val (.int p1), .val (.int p2)] []) _
            refine cp156 _ (XS.icmpNo X0.here hx rfl (hb hby d13_31) rfl (feq hc155).1 (XS.iloadN X0.here hx rfl (hb hby d13_34) rfl (XS.iconst X0.here hx rfl (hb hby d13_35) (XS.isub X0.here hx rfl (hb hby d13_36) rfl (XS.iloadN X0.here hx rfl (hb hby d13_37) rfl ?_)))))
            exact kt
          by_cases hc157 : (p2 - (5 : Int32)) < p1
          · obtain ⟨fs, hr, hrun, hended, hW, hsame⟩ := X0.leave (v := some (.int (0 : Int32))) (fun h => by rw [Bd.returns] at h; cases h)
            refine ⟨_, _, pre0 _ ?_, hrun, hended, _, _, rfl, ?_, ⟨_, rfl⟩, hW, hsame.mono (by decide) (by decide)⟩
            · show own_S p e below s₁ (mkF m 0 #[.val (.ref a0), .val (.int p1), .val (.int p2)] []) _
              refine cp158 _ (XS.icmpYes X0.here hx rfl (pc0 := 38) (pc' := 55) rfl (hb hby d13_38) rfl (tlt hc157).1 (by decide) (by decide) (XS.iconst X0.here hx rfl (hb hby d13_55) ?_))
              show own_S p e below s₁ (mkF m 56 #[.val (.ref a0), .val (.int p1), .val (.int p2)] [.int 0]) _
              exact retN X0 hx (t := .boolean) Bd.returns (by simp) (hb hby d13_56) hr
            · show Q13 Z a0 p1 p2 k0 n cs h0 n0 _ s₁.heap _
              rw [e0]
              exact ⟨congrArg (fun z => some (Value.int z)) (show (0 : Int32) = (own_emg cs p1 p2) from by unfold own_emg own_x4 own_x5; rw [if_neg hc127, if_neg hc145, if_neg hc147, if_neg hc155, if_pos hc157]), N0, rfl⟩
          · obtain ⟨cl159, Ar159, q159, S159, M159, H159, G159⟩ := id V_a0
            have hin159 : ¬ ((p2 - (5 : Int32)) < 0 ∨ cl159.slots.size ≤ ((p2 - (5 : Int32))).toNatClampNeg) := inb_of S159 (hrg.ix ⟨by decide, by decide⟩ hc157)
            have hat159 : cl159.slots[((p2 - (5 : Int32))).toNatClampNeg]? = some (.int (own_at cs (p2 - (5 : Int32)))) := Has.at H159 hin159 (own_mg cs (p2 - (5 : Int32)))
            have ld159 := X0.caload hx (j := (p2 - (5 : Int32))) (v := (.int (own_at cs (p2 - (5 : Int32))))) (by rw [e0]; exact Ar159.1) (State.isArrayOf_alike hZ.alike Ar159.2.1) Ar159.2.2 hin159 hat159 (g := (mkF m 45 #[.val (.ref a0), .val (.int p1), .val (.int p2)] [(.int (p2 - (5 : Int32))), (.ref a0)])) rfl rfl (hb hby d13_45)
            have cp161 : ∀ target, own_S p e below s₁ (mkF m 48 #[.val (.ref a0), .val (.int p1), .val (.int p2)] [.int 92, (.int (own_at cs (p2 - (5 : Int32))))]) target → own_S p e below s₁ (mkF m 0 #[.val (.ref a0), .val (.int p1), .val (.int p2)] []) target := by
              intro target kt
              show own_S p e below s₁ (mkF m 0 #[.val (.ref a0), .val (.int p1), .val (.int p2)] []) _
              refine cp158 _ (XS.icmpNo X0.here hx rfl (hb hby d13_38) rfl (flt hc157).1 (XS.aloadN X0.here hx rfl (hb hby d13_41) rfl rfl (XS.iloadN X0.here hx rfl (hb hby d13_42) rfl (XS.iconst X0.here hx rfl (hb hby d13_43) (XS.isub X0.here hx rfl (hb hby d13_44) rfl (ld159 _ (XS.bipush X0.here hx rfl (hb hby d13_46) ?_)))))))
              exact kt
            by_cases hc160 : (own_at cs (p2 - (5 : Int32))) = (92 : Int32)
            · obtain ⟨fs, hr, hrun, hended, hW, hsame⟩ := X0.leave (v := some (.int (1 : Int32))) (fun h => by rw [Bd.returns] at h; cases h)
              refine ⟨_, _, pre0 _ ?_, hrun, hended, _, _, rfl, ?_, ⟨_, rfl⟩, hW, hsame.mono (by decide) (by decide)⟩
              · show own_S p e below s₁ (mkF m 0 #[.val (.ref a0), .val (.int p1), .val (.int p2)] []) _
                refine cp161 _ (XS.icmpNo X0.here hx rfl (hb hby d13_48) rfl (teq hc160).2 (XS.iconst X0.here hx rfl (hb hby d13_51) (XS.goto X0.here hx rfl (pc0 := 52) (pc' := 56) rfl (hb hby d13_52) (by decide) (by decide) ?_)))
                show own_S p e below s₁ (mkF m 56 #[.val (.ref a0), .val (.int p1), .val (.int p2)] [.int 1]) _
                exact retN X0 hx (t := .boolean) Bd.returns (by simp) (hb hby d13_56) hr
              · show Q13 Z a0 p1 p2 k0 n cs h0 n0 _ s₁.heap _
                rw [e0]
                exact ⟨congrArg (fun z => some (Value.int z)) (show (1 : Int32) = (own_emg cs p1 p2) from by unfold own_emg own_x4 own_x5; rw [if_neg hc127, if_neg hc145, if_neg hc147, if_neg hc155, if_neg hc157, if_pos hc160]), N0, rfl⟩
            · obtain ⟨fs, hr, hrun, hended, hW, hsame⟩ := X0.leave (v := some (.int (0 : Int32))) (fun h => by rw [Bd.returns] at h; cases h)
              refine ⟨_, _, pre0 _ ?_, hrun, hended, _, _, rfl, ?_, ⟨_, rfl⟩, hW, hsame.mono (by decide) (by decide)⟩
              · show own_S p e below s₁ (mkF m 0 #[.val (.ref a0), .val (.int p1), .val (.int p2)] []) _
                refine cp161 _ (XS.icmpYes X0.here hx rfl (pc0 := 48) (pc' := 55) rfl (hb hby d13_48) rfl (feq hc160).2 (by decide) (by decide) (XS.iconst X0.here hx rfl (hb hby d13_55) ?_))
                show own_S p e below s₁ (mkF m 56 #[.val (.ref a0), .val (.int p1), .val (.int p2)] [.int 0]) _
                exact retN X0 hx (t := .boolean) Bd.returns (by simp) (hb hby d13_56) hr
              · show Q13 Z a0 p1 p2 k0 n cs h0 n0 _ s₁.heap _
                rw [e0]
                exact ⟨congrArg (fun z => some (Value.int z)) (show (0 : Int32) = (own_emg cs p1 p2) from by unfold own_emg own_x4 own_x5; rw [if_neg hc127, if_neg hc145, if_neg hc147, if_neg hc155, if_neg hc157, if_neg hc160]), N0, rfl⟩
theorem ef_19 (m : MethodId) (a0 : Addr) (p1 : Int32) (p2 : Int32) : entryFrame m #[(.ref a0), (.int p1), (.int p2)] 6 = mkF m 0 #[.val (.ref a0), .val (.int p1), .val (.int p2), .unset, .unset, .unset] [] := by first | (simp [entryFrame, mkF, argsToLocals, Value.category]; done) | rfl
abbrev own_d19 (p : Nat) (i : Instr) (n : Nat) : Prop := decode prog_32_method_6_code p = .ok (i, n)
theorem d19_0 : own_d19 0 (.aload_n 0) 1 := by decide +kernel
theorem d19_1 : own_d19 1 (.iload_n 2) 1 := by decide +kernel
theorem d19_2 : own_d19 2 .caload 1 := by decide +kernel
theorem d19_3 : own_d19 3 (.istore_n 3) 1 := by decide +kernel
theorem d19_4 : own_d19 4 (.iload_n 3) 1 := by decide +kernel
theorem d19_5 : own_d19 5 (.bipush 32) 2 := by decide +kernel
theorem d19_7 : own_d19 7 .ior 1 := by decide +kernel
theorem d19_8 : own_d19 8 .i2c 1 := by decide +kernel
theorem d19_9 : own_d19 9 (.istore 4) 2 := by decide +kernel
abbrev own_loc2 (a0 : Addr) (p1 p2 : Int32) (cs : List Int32) : Array Slot := #[.val (.ref a0), .val (.int p1), .val (.int p2), .val (.int (own_at cs p2)), .val (.int (((own_at cs p2) ||| (32 : Int32)).toUInt32.toUInt16.toUInt32.toInt32)), .unset]
theorem d19_11 : own_d19 11 (.iload 4) 2 := by decide +kernel
theorem d19_13 : own_d19 13 (.bipush 97) 2 := by decide +kernel
theorem d19_15 : own_d19 15 (.if_icmp .lt 14) 3 := by decide +kernel
theorem d19_29 : own_d19 29 (.iconst 0) 1 := by decide +kernel
theorem d19_18 : own_d19 18 (.iload 4) 2 := by decide +kernel
theorem d19_20 : own_d19 20 (.bipush 102) 2 := by decide +kernel
theorem d19_22 : own_d19 22 (.if_icmp .gt 7) 3 := by decide +kernel
theorem d19_25 : own_d19 25 (.iconst 1) 1 := by decide +kernel
theorem d19_26 : own_d19 26 (.goto 4) 3 := by decide +kernel
def own_hex (p2 : Int32) (cs : List Int32) : Int32 := (if (((own_at cs p2) ||| (32 : Int32)).toUInt32.toUInt16.toUInt32.toInt32) < (97 : Int32) then (0 : Int32) else (if (102 : Int32) < (((own_at cs p2) ||| (32 : Int32)).toUInt32.toUInt16.toUInt32.toInt32) then (0 : Int32) else (1 : Int32)))
theorem d19_30 : own_d19 30 (.istore 5) 2 := by decide +kernel
abbrev own_loc3 (a0 : Addr) (p1 p2 : Int32) (cs : List Int32) : Array Slot := #[.val (.ref a0), .val (.int p1), .val (.int p2), .val (.int (own_at cs p2)), .val (.int (((own_at cs p2) ||| (32 : Int32)).toUInt32.toUInt16.toUInt32.toInt32)), .val (.int (own_hex p2 cs))]
def own_ends (cs : List Int32) (p1 p2 : Int32) : Int32 := if own_may (own_at cs p2) = (0 : Int32) then (if own_hex p2 cs = (0 : Int32) then (1 : Int32) else (if own_emg cs p1 (p2 + (1 : Int32)) = (0 : Int32) then (1 : Int32) else (0 : Int32))) else (0 : Int32)
theorem d19_32 : own_d19 32 (.iload_n 3) 1 := by decide +kernel
theorem d19_33 : own_d19 33 (.invokestatic 67) 3 := by decide +kernel
theorem d19_36 : own_d19 36 (.ifCond .ne 23) 3 := by decide +kernel
theorem d19_39 : own_d19 39 (.iload 5) 2 := by decide +kernel
theorem d19_41 : own_d19 41 (.ifCond .eq 14) 3 := by decide +kernel
theorem d19_55 : own_d19 55 (.iconst 1) 1 := by decide +kernel
theorem d19_56 : own_d19 56 (.goto 4) 3 := by decide +kernel
theorem d19_60 : own_d19 60 .ireturn 1 := by decide +kernel
theorem d19_44 : own_d19 44 (.aload_n 0) 1 := by decide +kernel
theorem d19_45 : own_d19 45 (.iload_n 1) 1 := by decide +kernel
theorem d19_46 : own_d19 46 (.iload_n 2) 1 := by decide +kernel
theorem d19_47 : own_d19 47 (.iconst 1) 1 := by decide +kernel
theorem d19_48 : own_d19 48 .iadd 1 := by decide +kernel
theorem pd_21 : parseMethodDescriptor "([CII)Z" = some ⟨[(.array .char), .int, .int], some .boolean⟩ := by decide +kernel
theorem d19_49 : own_d19 49 (.invokestatic 70) 3 := by decide +kernel
theorem d19_52 : own_d19 52 (.ifCond .ne 7) 3 := by decide +kernel
theorem d19_59 : own_d19 59 (.iconst 0) 1 := by decide +kernel
def Q19 (Z : State) (a0 : Addr) (p1 p2 : Int32) (k0 : ClassId) (n : Int32) (cs : List Int32) (h0 : Heap) (n0 : Nat) (v : Option Value) (h : Heap) (L : List Loc) : Prop := v = some (.int (own_ends cs p1 p2)) ∧ Fr n0 L ∧ h = h0
set_option maxRecDepth 65536 in
set_option maxHeartbeats 40000000 in
theorem rm19 (l : Launch) (Z : State) (ag : Array Value) (hw : ∀ d ∈ tables_1, d.before ag Z = true) (ws : List Jvm.Cond) (a0 : Addr) (p1 p2 : Int32) (k0 : ClassId) (n : Int32) (cs : List Int32) (h0 : Heap) (n0 : Nat) (Z0 : n0 ≤ h0.size) (V_a0 : Arv Z h0 a0 k0 .char n (cs.map Value.int) (.int (0 : Int32))) (hi : ¬ p2 < 0 ∧ p2 < n) (hrg : own_rg p1 (p2 + (1 : Int32)) n) :
    MetFree l (⟨"com/example/needle_in_json/needleinjson/MaskedDigits", "endsRowAndEscape", "([CII)Z"⟩ : MethodName) (head1 (Jvm.Cond.code (⟨"com/example/needle_in_json/needleinjson/MaskedDigits", "endsRowAndEscape", "([CII)Z"⟩ : MethodName) prog_32_method_6_code 6 (some .boolean) :: ws) ({ frames := 2, cells := 0, slots := 0, locals := 24 } : Room)) (fun a U => a = #[(.ref a0), (.int p1), (.int p2)] ∧ Z.Warmed39 U.vm ∧ U.heap = h0) (fun _ _ _ _ _ => True) (fun _ U o U' => ∃ v L, o = .returned v ∧ Q19 Z a0 p1 p2 k0 n cs h0 n0 v U'.heap L ∧ FrameEnd U o U' L ({ frames := 2, cells := 0, slots := 0, locals := 24 } : Room).cells ({ frames := 2, cells := 0, slots := 0, locals := 24 } : Room).slots) := by
  refine MetFree.of_bodySF (plainFor_of_name pn_0) hisR ?_
  intro p e s m args below meth c s₁ Bd hml0 hP hK
  obtain ⟨rfl, hZ, hh⟩ := hP
  have hx := Bd.exec
  have hby := Bd.bytes
  have hml : c.maxLocals = 6 := hml0
  have hown : s.vm.findClass "com/example/needle_in_json/needleinjson/MaskedDigits" = some m.cls := findClass_of_methodNamed Bd.named
  have hnm := (name_of_methodNamed Bd.named Bd.method).1
  have X0 : Stand p l e ({ frames := 2, cells := 0, slots := 0, locals := 24 } : Room) s m #[(.ref a0), (.int p1), (.int p2)] below meth c s₁ [] 0 0 := Stand.of_body Bd
  have e0 : s₁.heap = h0 := by rw [← hh, Bd.state]; rfl
  have N0 := Fr.nil n0
  have pre0 : ∀ t, Steps p.tables e below (s₁.setTop (mkF m 0 #[.val (.ref a0), .val (.int p1), .val (.int p2), .unset, .unset, .unset] [])) t → Steps p.tables e below (s₁.setTop (entryFrame m #[(.ref a0), (.int p1), (.int p2)] 6)) t := fun t k => castTop (ef_19 m a0 p1 p2) k
  obtain ⟨cl162, Ar162, q162, S162, M162, H162, G162⟩ := id V_a0
  have hin162 : ¬ (p2 < 0 ∨ cl162.slots.size ≤ (p2).toNatClampNeg) := inb_of S162 hi
  have hat162 : cl162.slots[(p2).toNatClampNeg]? = some (.int (own_at cs p2)) := Has.at H162 hin162 (own_mg cs p2)
  have ld162 := X0.caload hx (j := p2) (v := (.int (own_at cs p2))) (by rw [e0]; exact Ar162.1) (State.isArrayOf_alike hZ.alike Ar162.2.1) Ar162.2.2 hin162 hat162 (g := (mkF m 2 #[.val (.ref a0), .val (.int p1), .val (.int p2), .unset, .unset, .unset] [(.int p2), (.ref a0)])) rfl rfl (hb hby d19_2)
  have sg165 : ∀ target, Steps p.tables e below (s₁.setTop (mkF m 30 (own_loc2 a0 p1 p2 cs) [(.int (own_hex p2 cs))])) target → Steps p.tables e below (s₁.setTop (mkF m 4 #[.val (.ref a0), .val (.int p1), .val (.int p2), .val (.int (own_at cs p2)), .unset, .unset] [])) target := by
    intro target kt
    show own_S p e below s₁ (mkF m 4 #[.val (.ref a0), .val (.int p1), .val (.int p2), .val (.int (own_at cs p2)), .unset, .unset] []) _
    refine XS.iloadN X0.here hx rfl (hb hby d19_4) rfl (XS.bipush X0.here hx rfl (hb hby d19_5) (XS.ior X0.here hx rfl (hb hby d19_7) rfl (XS.i2c X0.here hx rfl (hb hby d19_8) rfl (XS.istore X0.here hx rfl (hb hby d19_9) rfl (l' := (own_loc2 a0 p1 p2 cs)) rfl (XS.iload X0.here hx rfl (hb hby d19_11) rfl (XS.bipush X0.here hx rfl (hb hby d19_13) ?_))))))
    by_cases hc163 : (((own_at cs p2) ||| (32 : Int32)).toUInt32.toUInt16.toUInt32.toInt32) < (97 : Int32)
    · show own_S p e below s₁ (mkF m 15 (own_loc2 a0 p1 p2 cs) [.int 97, (.int (((own_at cs p2) ||| (32 : Int32)).toUInt32.toUInt16.toUInt32.toInt32))]) _
      refine XS.icmpYes X0.here hx rfl (pc0 := 15) (pc' := 29) rfl (hb hby d19_15) rfl (tlt hc163).1 (by decide) (by decide) (XS.iconst X0.here hx rfl (hb hby d19_29) ?_)
      show own_S p e below s₁ (mkF m 30 (own_loc2 a0 p1 p2 cs) [.int 0]) _
      have kt := own_cast (P := fun z => Steps p.tables e below (s₁.setTop (mkF m 30 (own_loc2 a0 p1 p2 cs) [(.int z)])) target) (show (own_hex p2 cs) = (0 : Int32) from (by unfold own_hex; rw [if_pos hc163])) kt
      exact kt
    · show own_S p e below s₁ (mkF m 15 (own_loc2 a0 p1 p2 cs) [.int 97, (.int (((own_at cs p2) ||| (32 : Int32)).toUInt32.toUInt16.toUInt32.toInt32))]) _
      refine XS.icmpNo X0.here hx rfl (hb hby d19_15) rfl (flt hc163).1 (XS.iload X0.here hx rfl (hb hby d19_18) rfl (XS.bipush X0.here hx rfl (hb hby d19_20) ?_))
      by_cases hc164 : (102 : Int32) < (((own_at cs p2) ||| (32 : Int32)).toUInt32.toUInt16.toUInt32.toInt32)
      · show own_S p e below s₁ (mkF m 22 (own_loc2 a0 p1 p2 cs) [.int 102, (.int (((own_at cs p2) ||| (32 : Int32)).toUInt32.toUInt16.toUInt32.toInt32))]) _
        refine XS.icmpYes X0.here hx rfl (pc0 := 22) (pc' := 29) rfl (hb hby d19_22) rfl (tlt hc164).2.2.1 (by decide) (by decide) (XS.iconst X0.here hx rfl (hb hby d19_29) ?_)
        show own_S p e below s₁ (mkF m 30 (own_loc2 a0 p1 p2 cs) [.int 0]) _
        have kt := own_cast (P := fun z => Steps p.tables e below (s₁.setTop (mkF m 30 (own_loc2 a0 p1 p2 cs) [(.int z)])) target) (show (own_hex p2 cs) = (0 : Int32) from (by unfold own_hex; rw [if_neg hc163, if_pos hc164])) kt
        exact kt
      · show own_S p e below s₁ (mkF m 22 (own_loc2 a0 p1 p2 cs) [.int 102, (.int (((own_at cs p2) ||| (32 : Int32)).toUInt32.toUInt16.toUInt32.toInt32))]) _
        refine XS.icmpNo X0.here hx rfl (hb hby d19_22) rfl (flt hc164).2.2.1 (XS.iconst X0.here hx rfl (hb hby d19_25) (XS.goto X0.here hx rfl (pc0 := 26) (pc' := 30) rfl (hb hby d19_26) (by decide) (by decide) ?_))
        show own_S p e below s₁ (mkF m 30 (own_loc2 a0 p1 p2 cs) [.int 1]) _
        have kt := own_cast (P := fun z => Steps p.tables e below (s₁.setTop (mkF m 30 (own_loc2 a0 p1 p2 cs) [(.int z)])) target) (show (own_hex p2 cs) = (1 : Int32) from (by unfold own_hex; rw [if_neg hc163, if_neg hc164])) kt
        exact kt
  obtain ⟨_, _, ⟨T166, L166, k166, n166⟩, -, X166, ⟨Lc166, hQ166, l166, y166, z166⟩, st166⟩ := Jvm.LawKit.callS X0 hx (y := (⟨"com/example/needle_in_json/needleinjson/MaskedDigits", "mayStandForDigit", "(C)Z"⟩ : MethodName)) hown (mvT hZ (own_wk hw 61 rfl)) (mvT hZ (own_wk hw 62 rfl)) (mvT hZ (own_wk hw 19 rfl)) (mvT hZ (own_wk hw 63 rfl)) (by decide) (backOf (W := 0) (rm11 l Z ag hw [] (own_at cs p2)  h0 n0 Z0 ) hZ (own_wk hw 63 rfl) (own_wk hw 19 rfl) (by decide) (by decide)) (g := (mkF m 33 (own_loc3 a0 p1 p2 cs) [(.int (own_at cs p2))])) rfl (by rw [hml]; rfl) (argsL := [(.int (own_at cs p2))]) (rest := []) (lenOf pd_6 rfl) rfl (by show 2 * 0 + _ ≤ _; exact Nat.le_of_eq rfl) (hb hby d19_33) (fun _ _ => ⟨rfl, e0, (by decide : 0 + 0 ≤ _), (by decide : 0 + 0 ≤ _)⟩)
  dsimp only [Pt.U, Pt.locs, Pt.cells, Pt.slots] at X166 l166 y166 z166 st166 hQ166
  subst l166 y166 z166
  obtain ⟨rfl, N166q, e166⟩ := hQ166
  have N166 := Fr.app N0 N166q
  have cp168 : ∀ target, own_S p e below T166 (mkF m 36 (own_loc3 a0 p1 p2 cs) [(.int (own_may (own_at cs p2)))]) target → own_S p e below s₁ (mkF m 0 #[.val (.ref a0), .val (.int p1), .val (.int p2), .unset, .unset, .unset] []) target := by
    intro target kt
    show own_S p e below s₁ (mkF m 0 #[.val (.ref a0), .val (.int p1), .val (.int p2), .unset, .unset, .unset] []) _
    refine XS.aloadN X0.here hx rfl (hb hby d19_0) rfl rfl (XS.iloadN X0.here hx rfl (hb hby d19_1) rfl (ld162 _ (XS.istoreN X0.here hx rfl (hb hby d19_3) rfl (l' := #[.val (.ref a0), .val (.int p1), .val (.int p2), .val (.int (own_at cs p2)), .unset, .unset]) rfl (sg165 _ (XS.istore X0.here hx rfl (hb hby d19_30) rfl (l' := (own_loc3 a0 p1 p2 cs)) rfl (XS.iloadN X0.here hx rfl (hb hby d19_32) rfl (st166 _ ?_)))))))
    exact kt
  by_cases hc167 : (own_may (own_at cs p2)) = (0 : Int32)
  · have cp170 : ∀ target, own_S p e below T166 (mkF m 41 (own_loc3 a0 p1 p2 cs) [(.int (own_hex p2 cs))]) target → own_S p e below s₁ (mkF m 0 #[.val (.ref a0), .val (.int p1), .val (.int p2), .unset, .unset, .unset] []) target := by
      intro target kt
      show own_S p e below s₁ (mkF m 0 #[.val (.ref a0), .val (.int p1), .val (.int p2), .unset, .unset, .unset] []) _
      refine cp168 _ (XS.ifNo X166.here hx rfl (hb hby d19_36) rfl ((if0 _ _).trans (teq hc167).2) (XS.iload X166.here hx rfl (hb hby d19_39) rfl ?_))
      exact kt
    by_cases hc169 : (own_hex p2 cs) = (0 : Int32)
    · obtain ⟨fs, hr, hrun, hended, hW, hsame⟩ := X166.leave (v := some (.int (1 : Int32))) (fun h => by rw [Bd.returns] at h; cases h)
      refine ⟨_, _, pre0 _ ?_, hrun, hended, _, _, rfl, ?_, ⟨_, rfl⟩, hW, hsame.mono (by decide) (by decide)⟩
      · show own_S p e below s₁ (mkF m 0 #[.val (.ref a0), .val (.int p1), .val (.int p2), .unset, .unset, .unset] []) _
        refine cp170 _ (XS.ifYes X166.here hx rfl (pc0 := 41) (pc' := 55) rfl (hb hby d19_41) rfl ((if0 _ _).trans (teq hc169).1) (by decide) (by decide) (XS.iconst X166.here hx rfl (hb hby d19_55) (XS.goto X166.here hx rfl (pc0 := 56) (pc' := 60) rfl (hb hby d19_56) (by decide) (by decide) ?_)))
        show own_S p e below T166 (mkF m 60 (own_loc3 a0 p1 p2 cs) [.int 1]) _
        exact retN X166 hx (t := .boolean) Bd.returns (by simp) (hb hby d19_60) hr
      · show Q19 Z a0 p1 p2 k0 n cs h0 n0 _ T166.heap _
        rw [e166]
        exact ⟨congrArg (fun z => some (Value.int z)) (show (1 : Int32) = (own_ends cs p1 p2) from by unfold own_ends; rw [if_pos hc167, if_pos hc169]), N166, rfl⟩
    · obtain ⟨_, _, ⟨T171, L171, k171, n171⟩, -, X171, ⟨Lc171, hQ171, l171, y171, z171⟩, st171⟩ := Jvm.LawKit.callS X166 hx (y := (⟨"com/example/needle_in_json/needleinjson/MaskedDigits", "escapeMayGoOn", "([CII)Z"⟩ : MethodName)) hown (mvT hZ (own_wk hw 67 rfl)) (mvT hZ (own_wk hw 68 rfl)) (mvT hZ (own_wk hw 19 rfl)) (mvT hZ (own_wk hw 69 rfl)) (by decide) (backOf (W := 0) (rm13 l Z ag hw [] a0 p1 (p2 + (1 : Int32)) k0 n cs h0 n0 Z0 V_a0 hrg) hZ (own_wk hw 69 rfl) (own_wk hw 19 rfl) (by decide) (by decide)) (g := (mkF m 49 (own_loc3 a0 p1 p2 cs) [(.int (p2 + (1 : Int32))), (.int p1), (.ref a0)])) rfl (by rw [hml]; rfl) (argsL := [(.ref a0), (.int p1), (.int (p2 + (1 : Int32)))]) (rest := []) (lenOf pd_21 rfl) rfl (by show 2 * 0 + _ ≤ _; exact Nat.le_of_eq rfl) (hb hby d19_49) (fun _ _ => ⟨rfl, e166, (by decide : 0 + 0 ≤ _), (by decide : 0 + 0 ≤ _)⟩)
      dsimp only [Pt.U, Pt.locs, Pt.cells, Pt.slots] at X171 l171 y171 z171 st171 hQ171
      subst l171 y171 z171
      obtain ⟨rfl, N171q, e171⟩ := hQ171
      have N171 := Fr.app N166 N171q
      have cp173 : ∀ target, own_S p e below T171 (mkF m 52 (own_loc3 a0 p1 p2 cs) [(.int (own_emg cs p1 (p2 + (1 : Int32))))]) target → own_S p e below s₁ (mkF m 0 #[.val (.ref a0), .val (.int p1), .val (.int p2), .unset, .unset, .unset] []) target := by
        intro target kt
        show own_S p e below s₁ (mkF m 0 #[.val (.ref a0), .val (.int p1), .val (.int p2), .unset, .unset, .unset] []) _
        refine cp170 _ (XS.ifNo X166.here hx rfl (hb hby d19_41) rfl ((if0 _ _).trans (feq hc169).1) (XS.aloadN X166.here hx rfl (hb hby d19_44) rfl rfl (XS.iloadN X166.here hx rfl (hb hby d19_45) rfl (XS.iloadN X166.here hx rfl (hb hby d19_46) rfl (XS.iconst X166.here hx rfl (hb hby d19_47) (XS.iadd X166.here hx rfl (hb hby d19_48) rfl (st171 _ ?_)))))))
        exact kt
      by_cases hc172 : (own_emg cs p1 (p2 + (1 : Int32))) = (0 : Int32)
      · obtain ⟨fs, hr, hrun, hended, hW, hsame⟩ := X171.leave (v := some (.int (1 : Int32))) (fun h => by rw [Bd.returns] at h; cases h)
        refine ⟨_, _, pre0 _ ?_, hrun, hended, _, _, rfl, ?_, ⟨_, rfl⟩, hW, hsame.mono (by decide) (by decide)⟩
        · show own_S p e below s₁ (mkF m 0 #[.val (.ref a0), .val (.int p1), .val (.int p2), .unset, .unset, .unset] []) _
          refine cp173 _ (XS.ifNo X171.here hx rfl (hb hby d19_52) rfl ((if0 _ _).trans (teq hc172).2) (XS.iconst X171.here hx rfl (hb hby d19_55) (XS.goto X171.here hx rfl (pc0 := 56) (pc' := 60) rfl (hb hby d19_56) (by decide) (by decide) ?_)))
          show own_S p e below T171 (mkF m 60 (own_loc3 a0 p1 p2 cs) [.int 1]) _
          exact retN X171 hx (t := .boolean) Bd.returns (by simp) (hb hby d19_60) hr
        · show Q19 Z a0 p1 p2 k0 n cs h0 n0 _ T171.heap _
          rw [e171]
          exact ⟨congrArg (fun z => some (Value.int z)) (show (1 : Int32) = (own_ends cs p1 p2) from by unfold own_ends; rw [if_pos hc167, if_neg hc169, if_pos hc172]), N171, rfl⟩
      · obtain ⟨fs, hr, hrun, hended, hW, hsame⟩ := X171.leave (v := some (.int (0 : Int32))) (fun h => by rw [Bd.returns] at h; cases h)
        refine ⟨_, _, pre0 _ ?_, hrun, hended, _, _, rfl, ?_, ⟨_, rfl⟩, hW, hsame.mono (by decide) (by decide)⟩
        · show own_S p e below s₁ (mkF m 0 #[.val (.ref a0), .val (.int p1), .val (.int p2), .unset, .unset, .unset] []) _
          refine cp173 _ (XS.ifYes X171.here hx rfl (pc0 := 52) (pc' := 59) rfl (hb hby d19_52) rfl ((if0 _ _).trans (feq hc172).2) (by decide) (by decide) (XS.iconst X171.here hx rfl (hb hby d19_59) ?_))
          show own_S p e below T171 (mkF m 60 (own_loc3 a0 p1 p2 cs) [.int 0]) _
          exact retN X171 hx (t := .boolean) Bd.returns (by simp) (hb hby d19_60) hr
        · show Q19 Z a0 p1 p2 k0 n cs h0 n0 _ T171.heap _
          rw [e171]
          exact ⟨congrArg (fun z => some (Value.int z)) (show (0 : Int32) = (own_ends cs p1 p2) from by unfold own_ends; rw [if_pos hc167, if_neg hc169, if_neg hc172]), N171, rfl⟩
  · obtain ⟨fs, hr, hrun, hended, hW, hsame⟩ := X166.leave (v := some (.int (0 : Int32))) (fun h => by rw [Bd.returns] at h; cases h)
    refine ⟨_, _, pre0 _ ?_, hrun, hended, _, _, rfl, ?_, ⟨_, rfl⟩, hW, hsame.mono (by decide) (by decide)⟩
    · show own_S p e below s₁ (mkF m 0 #[.val (.ref a0), .val (.int p1), .val (.int p2), .unset, .unset, .unset] []) _
      refine cp168 _ (XS.ifYes X166.here hx rfl (pc0 := 36) (pc' := 59) rfl (hb hby d19_36) rfl ((if0 _ _).trans (feq hc167).2) (by decide) (by decide) (XS.iconst X166.here hx rfl (hb hby d19_59) ?_))
      show own_S p e below T166 (mkF m 60 (own_loc3 a0 p1 p2 cs) [.int 0]) _
      exact retN X166 hx (t := .boolean) Bd.returns (by simp) (hb hby d19_60) hr
    · show Q19 Z a0 p1 p2 k0 n cs h0 n0 _ T166.heap _
      rw [e166]
      exact ⟨congrArg (fun z => some (Value.int z)) (show (0 : Int32) = (own_ends cs p1 p2) from by unfold own_ends; rw [if_neg hc167]), N166, rfl⟩
theorem ef_25 (m : MethodId) (a0 : Addr) : entryFrame m #[(.ref a0)] 1 = mkF m 0 #[.val (.ref a0)] [] := by first | (simp [entryFrame, mkF, argsToLocals, Value.category]; done) | rfl
abbrev own_d25 (p : Nat) (i : Instr) (n : Nat) : Prop := decode jdk_68_method_68_code p = .ok (i, n)
theorem d25_0 : own_d25 0 (.getstatic 18) 3 := by decide +kernel
theorem d25_3 : own_d25 3 (.ifCond .eq 14) 3 := by decide +kernel
theorem d25_6 : own_d25 6 (.aload_n 0) 1 := by decide +kernel
theorem d25_7 : own_d25 7 (.getfield 22) 3 := by decide +kernel
theorem d25_10 : own_d25 10 (.ifCond .ne 7) 3 := by decide +kernel
theorem d25_13 : own_d25 13 (.iconst 1) 1 := by decide +kernel
theorem d25_14 : own_d25 14 (.goto 4) 3 := by decide +kernel
theorem d25_18 : own_d25 18 .ireturn 1 := by decide +kernel
def Q25 (Z : State) (a0 : Addr) (cs : Int32) (h0 : Heap) (n0 : Nat) (v : Option Value) (h : Heap) (L : List Loc) : Prop := v = some (.int (1 : Int32)) ∧ Fr n0 L ∧ h = h0
set_option maxRecDepth 65536 in
set_option maxHeartbeats 40000000 in
theorem rm25 (l : Launch) (Z : State) (ag : Array Value) (hw : ∀ d ∈ tables_1, d.before ag Z = true) (ws : List Jvm.Cond) (a0 : Addr) (cs : Int32) (h0 : Heap) (n0 : Nat) (Z0 : n0 ≤ h0.size) (E_a0 : Exa Z h0 a0 "java/lang/StringBuilder") (F_coder_a0 : Fld Z h0 a0 "java/lang/AbstractStringBuilder" "coder" "B" (.int (0 : Int32))) (O_ : Old Z n0 h0) (S_cs : Sta Z Z.heap "java/lang/String" "COMPACT_STRINGS" "Z" (.int cs)) (hcs : ¬ cs = (0 : Int32)) :
    MetFree l (⟨"java/lang/AbstractStringBuilder", "isLatin1", "()Z"⟩ : MethodName) (head1 (Jvm.Cond.code (⟨"java/lang/AbstractStringBuilder", "isLatin1", "()Z"⟩ : MethodName) jdk_68_method_68_code 1 (some .boolean) :: ws) ({ frames := 0, cells := 0, slots := 0, locals := 0 } : Room)) (fun a U => a = #[(.ref a0)] ∧ Z.Warmed39 U.vm ∧ U.heap = h0) (fun _ _ _ _ _ => True) (fun _ U o U' => ∃ v L, o = .returned v ∧ Q25 Z a0 cs h0 n0 v U'.heap L ∧ FrameEnd U o U' L ({ frames := 0, cells := 0, slots := 0, locals := 0 } : Room).cells ({ frames := 0, cells := 0, slots := 0, locals := 0 } : Room).slots) := by
  refine MetFree.of_bodySF (plainFor_of_name pn_2) hisR ?_
  intro p e s m args below meth c s₁ Bd hml0 hP hK
  obtain ⟨rfl, hZ, hh⟩ := hP
  have hx := Bd.exec
  have hby := Bd.bytes
  have hml : c.maxLocals = 1 := hml0
  have hown : s.vm.findClass "java/lang/AbstractStringBuilder" = some m.cls := findClass_of_methodNamed Bd.named
  have hnm := (name_of_methodNamed Bd.named Bd.method).1
  have X0 : Stand p l e ({ frames := 0, cells := 0, slots := 0, locals := 0 } : Room) s m #[(.ref a0)] below meth c s₁ [] 0 0 := Stand.of_body Bd
  have e0 : s₁.heap = h0 := by rw [← hh, Bd.state]; rfl
  have N0 := Fr.nil n0
  have pre0 : ∀ t, Steps p.tables e below (s₁.setTop (mkF m 0 #[.val (.ref a0)] [])) t → Steps p.tables e below (s₁.setTop (entryFrame m #[(.ref a0)] 1)) t := fun t k => castTop (ef_25 m a0) k
  obtain ⟨T174, X174, e174, st174⟩ := getS2 X0 hx hZ hown (host := "") (Or.inl (own_wk hw 39 rfl)) Via.refl e0 (Sta.ext O_.2 S_cs) (g := (mkF m 0 #[.val (.ref a0)] [])) rfl (hb hby d25_0)
  obtain ⟨T175, X175, e175, st175⟩ := getF X174 hx hZ hown (host := "") (Or.inl (own_wk hw 44 rfl)) Via.refl e174 F_coder_a0 (g := (mkF m 7 #[.val (.ref a0)] [(.ref a0)])) rfl rfl (hb hby d25_7)
  obtain ⟨fs, hr, hrun, hended, hW, hsame⟩ := X175.leave (v := some (.int (1 : Int32))) (fun h => by rw [Bd.returns] at h; cases h)
  refine ⟨_, _, pre0 _ ?_, hrun, hended, _, _, rfl, ?_, ⟨_, rfl⟩, hW, hsame.mono (by decide) (by decide)⟩
  · show own_S p e below s₁ (mkF m 0 #[.val (.ref a0)] []) _
    refine st174 _ (XS.ifNo X174.here hx rfl (hb hby d25_3) rfl ((if0 _ _).trans (feq (show ¬ (cs = (0 : Int32)) from hcs)).1) (XS.aloadN X174.here hx rfl (hb hby d25_6) rfl rfl (st175 _ (XS.ifNo X175.here hx rfl (hb hby d25_10) rfl ((if0 _ _).trans (teq (by decide : (0 : Int32) = (0 : Int32))).2) (XS.iconst X175.here hx rfl (hb hby d25_13) (XS.goto X175.here hx rfl (pc0 := 14) (pc' := 18) rfl (hb hby d25_14) (by decide) (by decide) ?_))))))
    show own_S p e below T175 (mkF m 18 #[.val (.ref a0)] [.int 1]) _
    exact retN X175 hx (t := .boolean) Bd.returns (by simp) (hb hby d25_18) hr
  · show Q25 Z a0 cs h0 n0 _ T175.heap _
    rw [e175]
    exact ⟨rfl, N0, rfl⟩
theorem ef_24 (m : MethodId) (a0 : Addr) (p1 : Int32) : entryFrame m #[(.ref a0), (.int p1)] 3 = mkF m 0 #[.val (.ref a0), .val (.int p1), .unset] [] := by first | (simp [entryFrame, mkF, argsToLocals, Value.category]; done) | rfl
abbrev own_d24 (p : Nat) (i : Instr) (n : Nat) : Prop := decode jdk_68_method_9_code p = .ok (i, n)
theorem d24_0 : own_d24 0 (.aload_n 0) 1 := by decide +kernel
theorem d24_1 : own_d24 1 (.getfield 15) 3 := by decide +kernel
theorem d24_4 : own_d24 4 .arraylength 1 := by decide +kernel
theorem d24_5 : own_d24 5 (.aload_n 0) 1 := by decide +kernel
theorem d24_6 : own_d24 6 (.getfield 22) 3 := by decide +kernel
theorem d24_9 : own_d24 9 .ishr 1 := by decide +kernel
theorem d24_10 : own_d24 10 (.istore_n 2) 1 := by decide +kernel
theorem d24_11 : own_d24 11 (.iload_n 1) 1 := by decide +kernel
theorem d24_12 : own_d24 12 (.iload_n 2) 1 := by decide +kernel
theorem d24_13 : own_d24 13 .isub 1 := by decide +kernel
theorem d24_14 : own_d24 14 (.ifCond .le 24) 3 := by decide +kernel
theorem d24_38 : own_d24 38 .return_ 1 := by decide +kernel
def Q24 (Z : State) (a0 : Addr) (p1 : Int32) (vb : Addr) (kb : ClassId) (lb : List Value) (h0 : Heap) (n0 : Nat) (v : Option Value) (h : Heap) (L : List Loc) : Prop := v = none ∧ Fr n0 L ∧ h = h0
set_option maxRecDepth 65536 in
set_option maxHeartbeats 40000000 in
theorem rm24 (l : Launch) (Z : State) (ag : Array Value) (hw : ∀ d ∈ tables_1, d.before ag Z = true) (ws : List Jvm.Cond) (a0 : Addr) (p1 : Int32) (vb : Addr) (kb : ClassId) (lb : List Value) (h0 : Heap) (n0 : Nat) (Z0 : n0 ≤ h0.size) (E_a0 : Exa Z h0 a0 "java/lang/StringBuilder") (F_coder_a0 : Fld Z h0 a0 "java/lang/AbstractStringBuilder" "coder" "B" (.int (0 : Int32))) (F_value_a0 : Fld Z h0 a0 "java/lang/AbstractStringBuilder" "value" "[B" (.ref vb)) (V_vb : Arv Z h0 vb kb .byte (16 : Int32) lb (.int (0 : Int32))) (hcap : ¬ (0 : Int32) < (p1 - (16 : Int32))) :
    MetFree l (⟨"java/lang/AbstractStringBuilder", "ensureCapacityInternal", "(I)V"⟩ : MethodName) (head1 (Jvm.Cond.code (⟨"java/lang/AbstractStringBuilder", "ensureCapacityInternal", "(I)V"⟩ : MethodName) jdk_68_method_9_code 3 none :: ws) ({ frames := 0, cells := 0, slots := 0, locals := 0 } : Room)) (fun a U => a = #[(.ref a0), (.int p1)] ∧ Z.Warmed39 U.vm ∧ U.heap = h0) (fun _ _ _ _ _ => True) (fun _ U o U' => ∃ v L, o = .returned v ∧ Q24 Z a0 p1 vb kb lb h0 n0 v U'.heap L ∧ FrameEnd U o U' L ({ frames := 0, cells := 0, slots := 0, locals := 0 } : Room).cells ({ frames := 0, cells := 0, slots := 0, locals := 0 } : Room).slots) := by
  refine MetFree.of_bodySF (plainFor_of_name pn_2) hisR ?_
  intro p e s m args below meth c s₁ Bd hml0 hP hK
  obtain ⟨rfl, hZ, hh⟩ := hP
  have hx := Bd.exec
  have hby := Bd.bytes
  have hml : c.maxLocals = 3 := hml0
  have hown : s.vm.findClass "java/lang/AbstractStringBuilder" = some m.cls := findClass_of_methodNamed Bd.named
  have hnm := (name_of_methodNamed Bd.named Bd.method).1
  have X0 : Stand p l e ({ frames := 0, cells := 0, slots := 0, locals := 0 } : Room) s m #[(.ref a0), (.int p1)] below meth c s₁ [] 0 0 := Stand.of_body Bd
  have e0 : s₁.heap = h0 := by rw [← hh, Bd.state]; rfl
  have N0 := Fr.nil n0
  have pre0 : ∀ t, Steps p.tables e below (s₁.setTop (mkF m 0 #[.val (.ref a0), .val (.int p1), .unset] [])) t → Steps p.tables e below (s₁.setTop (entryFrame m #[(.ref a0), (.int p1)] 3)) t := fun t k => castTop (ef_24 m a0 p1) k
  obtain ⟨T176, X176, e176, st176⟩ := getF X0 hx hZ hown (host := "") (Or.inl (own_wk hw 42 rfl)) Via.refl e0 F_value_a0 (g := (mkF m 1 #[.val (.ref a0), .val (.int p1), .unset] [(.ref a0)])) rfl rfl (hb hby d24_1)
  obtain ⟨cl177, Ar177, -, S177, M177, -, -⟩ := id V_vb
  have ld177 := X176.arraylength hx (by rw [e176]; exact Ar177.1) (State.isArrayOf_alike hZ.alike Ar177.2.1) (g := (mkF m 4 #[.val (.ref a0), .val (.int p1), .unset] [(.ref vb)])) rfl rfl (hb hby d24_4)
  obtain ⟨T178, X178, e178, st178⟩ := getF X176 hx hZ hown (host := "") (Or.inl (own_wk hw 44 rfl)) Via.refl e176 F_coder_a0 (g := (mkF m 6 #[.val (.ref a0), .val (.int p1), .unset] [(.ref a0), .int 16])) rfl rfl (hb hby d24_6)
  obtain ⟨fs, hr, hrun, hended, hW, hsame⟩ := X178.leave (v := none) (fun _ => rfl)
  refine ⟨_, _, pre0 _ ?_, hrun, hended, _, _, rfl, ?_, ⟨_, rfl⟩, hW, hsame.mono (by decide) (by decide)⟩
  · show own_S p e below s₁ (mkF m 0 #[.val (.ref a0), .val (.int p1), .unset] []) _
    refine XS.aloadN X0.here hx rfl (hb hby d24_0) rfl rfl (st176 _ (ld177 _ ?_))
    rw [len_of S177 M177]
    show own_S p e below T176 (mkF m 5 #[.val (.ref a0), .val (.int p1), .unset] [.int 16]) _
    refine XS.aloadN X176.here hx rfl (hb hby d24_5) rfl rfl (st178 _ (XS.ishr X178.here hx rfl (hb hby d24_9) rfl ?_))
    show own_S p e below T178 (mkF m 10 #[.val (.ref a0), .val (.int p1), .unset] [(.int ((16 : Int32) >>> ((0 : Int32) &&& 31)))]) _
    rw [show ((16 : Int32) >>> ((0 : Int32) &&& 31)) = (16 : Int32) from by decide]
    show own_S p e below T178 (mkF m 10 #[.val (.ref a0), .val (.int p1), .unset] [.int 16]) _
    refine XS.istoreN X178.here hx rfl (hb hby d24_10) rfl (l' := #[.val (.ref a0), .val (.int p1), .val (.int 16)]) rfl (XS.iloadN X178.here hx rfl (hb hby d24_11) rfl (XS.iloadN X178.here hx rfl (hb hby d24_12) rfl (XS.isub X178.here hx rfl (hb hby d24_13) rfl (XS.ifYes X178.here hx rfl (pc0 := 14) (pc' := 38) rfl (hb hby d24_14) rfl ((if0 _ _).trans (flt (show ¬ ((0 : Int32) < (p1 - (16 : Int32))) from hcap)).2.2.2) (by decide) (by decide) ?_))))
    show own_S p e below T178 (mkF m 38 #[.val (.ref a0), .val (.int p1), .val (.int 16)] []) _
    exact X178.returnOut hx Bd.returns (hb hby d24_38) hr
  · show Q24 Z a0 p1 vb kb lb h0 n0 _ T178.heap _
    rw [e178]
    exact ⟨rfl, N0, rfl⟩
theorem own_cap {ct : Int32} (h : 0 ≤ ct.toInt ∧ ct.toInt < 16) : ¬ (0 : Int32) < ((ct + (1 : Int32)) - (16 : Int32)) := by
  have e1 := own_add1 (x := ct) (k := 16) h.1 (by omega) (by omega)
  have e2 : ((ct + (1 : Int32)) - (16 : Int32)).toInt = ct.toInt + 1 - 16 := by
    rw [Int32.toInt_sub, e1]
    have e : (16 : Int32).toInt = 16 := rfl
    rw [e]; exact Int.bmod_eq_of_le (by omega) (by omega)
  rw [Int32.lt_iff_toInt_lt, e2]
  have z0 : (0 : Int32).toInt = 0 := rfl
  rw [z0]; omega
theorem own_ci {ct : Int32} (h : 0 ≤ ct.toInt ∧ ct.toInt < 16) : ¬ ct < 0 ∧ ct < (16 : Int32) := by
  have z0 : (0 : Int32).toInt = 0 := rfl
  have z1 : (16 : Int32).toInt = 16 := rfl
  constructor
  · rw [Int32.lt_iff_toInt_lt, z0]; omega
  · rw [Int32.lt_iff_toInt_lt, z1]; omega
theorem own_cl {ct : Int32} {lb : List Value} (h : 0 ≤ ct.toInt ∧ ct.toInt < 16) (hl : lb.length = 16) : ct.toNatClampNeg < lb.length := by
  rw [hl]
  have e : ct.toNatClampNeg = ct.toInt.toNat := rfl
  omega
theorem own_ce1 {c : Int32} (h : ¬ (255 : Int32) < c) : ¬ own_ce c = (0 : Int32) := by unfold own_ce; rw [if_neg h]; decide
theorem ef_23 (m : MethodId) (a0 : Addr) (p1 : Int32) : entryFrame m #[(.ref a0), (.int p1)] 2 = mkF m 0 #[.val (.ref a0), .val (.int p1)] [] := by first | (simp [entryFrame, mkF, argsToLocals, Value.category]; done) | rfl
abbrev own_d23 (p : Nat) (i : Instr) (n : Nat) : Prop := decode jdk_68_method_31_code p = .ok (i, n)
theorem d23_0 : own_d23 0 (.aload_n 0) 1 := by decide +kernel
theorem d23_1 : own_d23 1 (.aload_n 0) 1 := by decide +kernel
theorem d23_2 : own_d23 2 (.getfield 79) 3 := by decide +kernel
theorem d23_5 : own_d23 5 (.iconst 1) 1 := by decide +kernel
theorem d23_6 : own_d23 6 .iadd 1 := by decide +kernel
theorem d23_7 : own_d23 7 (.invokevirtual 100) 3 := by decide +kernel
theorem d23_10 : own_d23 10 (.aload_n 0) 1 := by decide +kernel
theorem pd_3 : parseMethodDescriptor "()Z" = some ⟨[], some .boolean⟩ := by decide +kernel
theorem d23_11 : own_d23 11 (.invokevirtual 83) 3 := by decide +kernel
theorem d23_14 : own_d23 14 (.ifCond .eq 31) 3 := by decide +kernel
theorem d23_17 : own_d23 17 (.iload_n 1) 1 := by decide +kernel
theorem d23_18 : own_d23 18 (.invokestatic 191) 3 := by decide +kernel
theorem d23_21 : own_d23 21 (.ifCond .eq 24) 3 := by decide +kernel
theorem d23_24 : own_d23 24 (.aload_n 0) 1 := by decide +kernel
theorem d23_25 : own_d23 25 (.getfield 15) 3 := by decide +kernel
theorem d23_28 : own_d23 28 (.aload_n 0) 1 := by decide +kernel
theorem d23_29 : own_d23 29 .dup 1 := by decide +kernel
theorem d23_30 : own_d23 30 (.getfield 79) 3 := by decide +kernel
theorem d23_33 : own_d23 33 .dup_x1 1 := by decide +kernel
theorem d23_34 : own_d23 34 (.iconst 1) 1 := by decide +kernel
theorem d23_35 : own_d23 35 .iadd 1 := by decide +kernel
theorem d23_36 : own_d23 36 (.putfield 79) 3 := by decide +kernel
theorem d23_39 : own_d23 39 (.iload_n 1) 1 := by decide +kernel
theorem d23_40 : own_d23 40 .i2b 1 := by decide +kernel
theorem d23_41 : own_d23 41 .bastore 1 := by decide +kernel
theorem d23_42 : own_d23 42 (.goto 33) 3 := by decide +kernel
theorem d23_75 : own_d23 75 (.aload_n 0) 1 := by decide +kernel
theorem d23_76 : own_d23 76 .areturn 1 := by decide +kernel
def Q23 (Z : State) (a0 : Addr) (p1 : Int32) (vb : Addr) (ct : Int32) (kb : ClassId) (lb : List Value) (cs : Int32) (h0 : Heap) (n0 : Nat) (v : Option Value) (h : Heap) (L : List Loc) : Prop := v = some (.ref a0) ∧ Fr n0 L ∧ Keep h0 h [a0, vb] ∧ Fld Z h a0 "java/lang/AbstractStringBuilder" "value" "[B" (.ref vb) ∧ Fld Z h a0 "java/lang/AbstractStringBuilder" "coder" "B" (.int (0 : Int32)) ∧ Fld Z h a0 "java/lang/AbstractStringBuilder" "count" "I" (.int (ct + (1 : Int32))) ∧ Arv Z h vb kb .byte (16 : Int32) (lb.set (ct).toNatClampNeg (.int (nar .byte (p1.toInt8.toInt32)))) (.int (0 : Int32))
set_option maxRecDepth 65536 in
set_option maxHeartbeats 40000000 in
theorem rm23 (l : Launch) (Z : State) (ag : Array Value) (hw : ∀ d ∈ tables_1, d.before ag Z = true) (ws : List Jvm.Cond) (a0 : Addr) (p1 : Int32) (vb : Addr) (ct : Int32) (kb : ClassId) (lb : List Value) (cs : Int32) (h0 : Heap) (n0 : Nat) (Z0 : n0 ≤ h0.size) (E_a0 : Exa Z h0 a0 "java/lang/StringBuilder") (F_value_a0 : Fld Z h0 a0 "java/lang/AbstractStringBuilder" "value" "[B" (.ref vb)) (F_coder_a0 : Fld Z h0 a0 "java/lang/AbstractStringBuilder" "coder" "B" (.int (0 : Int32))) (F_count_a0 : Fld Z h0 a0 "java/lang/AbstractStringBuilder" "count" "I" (.int ct)) (V_vb : Arv Z h0 vb kb .byte (16 : Int32) lb (.int (0 : Int32))) (ge_a0 : n0 ≤ a0) (ge_vb : n0 ≤ vb) (ne_a0_vb : a0 ≠ vb) (O_ : Old Z n0 h0) (S_cs : Sta Z Z.heap "java/lang/String" "COMPACT_STRINGS" "Z" (.int cs)) (hcs : ¬ cs = (0 : Int32)) (hct : 0 ≤ ct.toInt ∧ ct.toInt < 16) (hlb : lb.length = 16) (hch : ¬ (255 : Int32) < p1) :
    MetFree l (⟨"java/lang/AbstractStringBuilder", "append", "(C)Ljava/lang/AbstractStringBuilder;"⟩ : MethodName) (head1 (Jvm.Cond.code (⟨"java/lang/AbstractStringBuilder", "append", "(C)Ljava/lang/AbstractStringBuilder;"⟩ : MethodName) jdk_68_method_31_code 2 (some (.object "java/lang/AbstractStringBuilder")) :: ws) ({ frames := 1, cells := 0, slots := 0, locals := 14 } : Room)) (fun a U => a = #[(.ref a0), (.int p1)] ∧ Z.Warmed39 U.vm ∧ U.heap = h0) (fun _ _ _ _ _ => True) (fun _ U o U' => ∃ v L, o = .returned v ∧ Q23 Z a0 p1 vb ct kb lb cs h0 n0 v U'.heap L ∧ FrameEnd U o U' L ({ frames := 1, cells := 0, slots := 0, locals := 14 } : Room).cells ({ frames := 1, cells := 0, slots := 0, locals := 14 } : Room).slots) := by
  refine MetFree.of_bodySF (plainFor_of_name pn_2) hisR ?_
  intro p e s m args below meth c s₁ Bd hml0 hP hK
  obtain ⟨rfl, hZ, hh⟩ := hP
  have hx := Bd.exec
  have hby := Bd.bytes
  have hml : c.maxLocals = 2 := hml0
  have hown : s.vm.findClass "java/lang/AbstractStringBuilder" = some m.cls := findClass_of_methodNamed Bd.named
  have hnm := (name_of_methodNamed Bd.named Bd.method).1
  have X0 : Stand p l e ({ frames := 1, cells := 0, slots := 0, locals := 14 } : Room) s m #[(.ref a0), (.int p1)] below meth c s₁ [] 0 0 := Stand.of_body Bd
  have e0 : s₁.heap = h0 := by rw [← hh, Bd.state]; rfl
  have N0 := Fr.nil n0
  have pre0 : ∀ t, Steps p.tables e below (s₁.setTop (mkF m 0 #[.val (.ref a0), .val (.int p1)] [])) t → Steps p.tables e below (s₁.setTop (entryFrame m #[(.ref a0), (.int p1)] 2)) t := fun t k => castTop (ef_23 m a0 p1) k
  obtain ⟨T179, X179, e179, st179⟩ := getF X0 hx hZ hown (host := "") (Or.inl (own_wk hw 89 rfl)) Via.refl e0 F_count_a0 (g := (mkF m 2 #[.val (.ref a0), .val (.int p1)] [(.ref a0), (.ref a0)])) rfl rfl (hb hby d23_2)
  obtain ⟨cq180, q180, q180'⟩ := E_a0.cell
  obtain ⟨_, _, ⟨T180, L180, k180, n180⟩, -, X180, ⟨Lc180, hQ180, l180, y180, z180⟩, st180⟩ := X179.privateBack hx (y := (⟨"java/lang/AbstractStringBuilder", "ensureCapacityInternal", "(I)V"⟩ : MethodName)) hown (mvT hZ (own_wk hw 118 rfl)) (mvT hZ (own_wk hw 119 rfl)) (own_selq (ym := (⟨"java/lang/AbstractStringBuilder", "ensureCapacityInternal", "(I)V"⟩ : MethodName)) (mvT hZ (own_wk hw 121 rfl)) rfl (Cond.privateMethod_at (mvP hZ (own_wk hw 120 rfl) (args := #[]))) (mvT hZ (own_wk hw 119 rfl)) (by decide)) (Cond.privateMethod_at (mvP hZ (own_wk hw 120 rfl) (args := #[]))) (mvT hZ (own_wk hw 122 rfl)) (by decide) (backOf (W := 0) (rm24 l Z ag hw [] a0 (ct + (1 : Int32)) vb kb lb h0 n0 Z0 E_a0 F_coder_a0 F_value_a0 V_vb (own_cap hct)) hZ (own_wk hw 122 rfl) (own_wk hw 36 rfl) (by decide) (by decide)) (g := (mkF m 7 #[.val (.ref a0), .val (.int p1)] [(.int (ct + (1 : Int32))), (.ref a0)])) rfl (by rw [hml]; rfl) (Steps.refl _) (a := a0) (by rw [e179]; exact q180) q180' (argsL := [(.int (ct + (1 : Int32)))]) (rest := []) (lenOf pd_8 rfl) rfl (by show 2 * 0 + _ ≤ _; exact Nat.le_of_eq rfl) (hb hby d23_7) (fun _ _ => ⟨rfl, e179, (by decide : 0 + 0 ≤ _), (by decide : 0 + 0 ≤ _)⟩)
  dsimp only [Pt.U, Pt.locs, Pt.cells, Pt.slots] at X180 l180 y180 z180 st180 hQ180
  subst l180 y180 z180
  obtain ⟨rfl, N180q, e180⟩ := hQ180
  have N180 := Fr.app N0 N180q
  obtain ⟨cq181, kq181, q181a, q181b, q181c⟩ := isOf hZ e180 E_a0
  obtain ⟨_, _, ⟨T181, L181, k181, n181⟩, -, X181, ⟨Lc181, hQ181, l181, y181, z181⟩, st181⟩ := X180.virtualBack hx (y := (⟨"java/lang/AbstractStringBuilder", "isLatin1", "()Z"⟩ : MethodName)) (z := (⟨"java/lang/AbstractStringBuilder", "isLatin1", "()Z"⟩ : MethodName)) hown (mvT hZ (own_wk hw 123 rfl)) (mvT hZ (own_wk hw 124 rfl)) (notFace_of_selects (args := #[]) (mvT hZ (own_wk hw 126 rfl))) (mvT hZ (own_wk hw 126 rfl)) (mvT hZ (own_wk hw 125 rfl)) (by decide) (backOf (W := 0) (rm25 l Z ag hw [] a0 cs h0 n0 Z0 E_a0 F_coder_a0 O_ S_cs hcs) hZ (own_wk hw 127 rfl) (own_wk hw 36 rfl) (by decide) (by decide)) q181a q181c (g := (mkF m 11 #[.val (.ref a0), .val (.int p1)] [(.ref a0)])) rfl (by rw [hml]; rfl) (Steps.refl _) (argsL := []) (rest := []) (lenOf pd_3 rfl) rfl (by show 2 * 0 + _ ≤ _; exact Nat.le_of_eq rfl) (hb hby d23_11) (fun _ _ => ⟨rfl, e180, (by decide : 0 + 0 ≤ _), (by decide : 0 + 0 ≤ _)⟩)
  dsimp only [Pt.U, Pt.locs, Pt.cells, Pt.slots] at X181 l181 y181 z181 st181 hQ181
  subst l181 y181 z181
  obtain ⟨rfl, N181q, e181⟩ := hQ181
  have N181 := Fr.app N180 N181q
  obtain ⟨_, _, ⟨T182, L182, k182, n182⟩, -, X182, ⟨Lc182, hQ182, l182, y182, z182⟩, st182⟩ := Jvm.LawKit.callS X181 hx (y := (⟨"java/lang/StringLatin1", "canEncode", "(C)Z"⟩ : MethodName)) hown (mvT hZ (own_wk hw 128 rfl)) (mvT hZ (own_wk hw 129 rfl)) (mvT hZ (own_wk hw 130 rfl)) (mvT hZ (own_wk hw 131 rfl)) (by decide) (backOf (W := 0) (rm26 l Z ag hw [] p1  h0 n0 Z0 ) hZ (own_wk hw 131 rfl) (own_wk hw 130 rfl) (by decide) (by decide)) (g := (mkF m 18 #[.val (.ref a0), .val (.int p1)] [(.int p1)])) rfl (by rw [hml]; rfl) (argsL := [(.int p1)]) (rest := []) (lenOf pd_6 rfl) rfl (by show 2 * 0 + _ ≤ _; exact Nat.le_of_eq rfl) (hb hby d23_18) (fun _ _ => ⟨rfl, e181, (by decide : 0 + 0 ≤ _), (by decide : 0 + 0 ≤ _)⟩)
  dsimp only [Pt.U, Pt.locs, Pt.cells, Pt.slots] at X182 l182 y182 z182 st182 hQ182
  subst l182 y182 z182
  obtain ⟨rfl, N182q, e182⟩ := hQ182
  have N182 := Fr.app N181 N182q
  obtain ⟨T183, X183, e183, st183⟩ := getF X182 hx hZ hown (host := "") (Or.inl (own_wk hw 42 rfl)) Via.refl e182 F_value_a0 (g := (mkF m 25 #[.val (.ref a0), .val (.int p1)] [(.ref a0)])) rfl rfl (hb hby d23_25)
  obtain ⟨T184, X184, e184, st184⟩ := getF X183 hx hZ hown (host := "") (Or.inl (own_wk hw 89 rfl)) Via.refl e183 F_count_a0 (g := (mkF m 30 #[.val (.ref a0), .val (.int p1)] [(.ref a0), (.ref a0), (.ref vb)])) rfl rfl (hb hby d23_30)
  obtain ⟨T185, h185, X185, e185, W185, st185⟩ := putF X184 hx hZ hown (host := "") (Or.inl (own_wk hw 89 rfl)) Via.refl e184 F_count_a0 E_a0 (Or.inl (own_wk hw 90 rfl)) (own_wk hw 27 rfl) (ty := .int) (by decide) rfl rfl (g := (mkF m 36 #[.val (.ref a0), .val (.int p1)] [(.int (ct + (1 : Int32))), (.ref a0), (.int ct), (.ref vb)])) rfl rfl (hb hby d23_36)
  have Fw185 := F_count_a0.same W185
  have x186 := E_a0.wr W185
  have x187 := F_value_a0.other W185 (Or.inr (slot_ne (Or.inl (own_wk hw 43 rfl)) (Or.inl (own_wk hw 90 rfl)) (by decide) (t := (.array .byte)) (t' := .int) (by decide) (by decide)))
  have x188 := F_coder_a0.other W185 (Or.inr (slot_ne (Or.inl (own_wk hw 45 rfl)) (Or.inl (own_wk hw 90 rfl)) (by decide) (t := .byte) (t' := .int) (by decide) (by decide)))
  have x189 := V_vb.other W185 (Ne.symm ne_a0_vb)
  have x190 := O_.wr W185 ge_a0
  have sz191 : n0 ≤ h185.size := Nat.le_trans Z0 (Keep.of_wr W185).1
  have kp192 : Keep h0 h185 [a0, vb] := (Keep.refl h0 [a0, vb]).wr W185 (Or.inl (List.mem_of_getElem? (i := 0) rfl))
  have N185 := Fr.snoc X185 N182 ge_a0
  obtain ⟨cl193, Ar193, q193, S193, M193, H193, G193⟩ := id x189
  have hin193 : ¬ (ct < 0 ∨ cl193.slots.size ≤ (ct).toNatClampNeg) := inb_of S193 (own_ci hct)
  obtain ⟨T193, h193, X193, e193, W193, st193⟩ := stB X185 hx hZ e185 Ar193 (j := ct) hin193 (g := (mkF m 41 #[.val (.ref a0), .val (.int p1)] [(.int (p1.toInt8.toInt32)), (.int ct), (.ref vb)])) rfl rfl (hb hby d23_41)
  have V193 : Arv Z h193 vb kb .byte (16 : Int32) (lb.set (ct).toNatClampNeg (.int (nar .byte (p1.toInt8.toInt32)))) (.int (0 : Int32)) := Arv.set Ar193 q193 S193 M193 H193 G193 (fits_nar_byte _) W193 (ct).toNatClampNeg rfl (own_cl hct hlb)
  have x194 := x186.wr W193
  have x195 := x187.other W193 (Or.inl ne_a0_vb)
  have x196 := x188.other W193 (Or.inl ne_a0_vb)
  have x197 := x190.wr W193 ge_vb
  have x198 := Fw185.other W193 (Or.inl ne_a0_vb)
  have sz199 : n0 ≤ h193.size := Nat.le_trans sz191 (Keep.of_wr W193).1
  have kp200 : Keep h0 h193 [a0, vb] := kp192.wr W193 (Or.inl (List.mem_of_getElem? (i := 1) rfl))
  have N193 := Fr.snoc X193 N185 ge_vb
  obtain ⟨fs, hr, hrun, hended, hW, hsame⟩ := X193.leave (v := some (.ref a0)) (fun h => by rw [Bd.returns] at h; cases h)
  refine ⟨_, _, pre0 _ ?_, hrun, hended, _, _, rfl, ?_, ⟨_, rfl⟩, hW, hsame.mono (by decide) (by decide)⟩
  · show own_S p e below s₁ (mkF m 0 #[.val (.ref a0), .val (.int p1)] []) _
    refine XS.aloadN X0.here hx rfl (hb hby d23_0) rfl rfl (XS.aloadN X0.here hx rfl (hb hby d23_1) rfl rfl (st179 _ (XS.iconst X179.here hx rfl (hb hby d23_5) (XS.iadd X179.here hx rfl (hb hby d23_6) rfl (st180.trans (XS.aloadN X180.here hx rfl (hb hby d23_10) rfl rfl (st181.trans (XS.ifNo X181.here hx rfl (hb hby d23_14) rfl ((if0 _ _).trans (feq (by decide : ¬ ((1 : Int32) = (0 : Int32)))).1) (XS.iloadN X181.here hx rfl (hb hby d23_17) rfl ?_)))))))))
    refine st182 _ (XS.ifNo X182.here hx rfl (hb hby d23_21) rfl ((if0 _ _).trans (feq (show ¬ ((own_ce p1) = (0 : Int32)) from (own_ce1 hch))).1) (XS.aloadN X182.here hx rfl (hb hby d23_24) rfl rfl (st183 _ ?_)))
    show own_S p e below T183 (mkF m 28 #[.val (.ref a0), .val (.int p1)] [(.ref vb)]) _
    refine XS.aloadN X183.here hx rfl (hb hby d23_28) rfl rfl (XS.dup X183.here hx rfl (hb hby d23_29) rfl rfl (st184 _ (XS.dupX1 X184.here hx rfl (hb hby d23_33) rfl rfl rfl (XS.iconst X184.here hx rfl (hb hby d23_34) (XS.iadd X184.here hx rfl (hb hby d23_35) rfl (st185 _ (XS.iloadN X185.here hx rfl (hb hby d23_39) rfl (XS.i2b X185.here hx rfl (hb hby d23_40) rfl (st193 _ ?_)))))))))
    refine XS.goto X193.here hx rfl (pc0 := 42) (pc' := 75) rfl (hb hby d23_42) (by decide) (by decide) (XS.aloadN X193.here hx rfl (hb hby d23_75) rfl rfl ?_)
    show own_S p e below T193 (mkF m 76 #[.val (.ref a0), .val (.int p1)] [(.ref a0)]) _
    exact Jvm.RoadKit.retOut X193 hx Bd.returns rfl (Or.inr (Or.inr (Or.inr (Or.inr ⟨rfl, rfl, rfl⟩)))) (hb hby d23_76) hr
  · show Q23 Z a0 p1 vb ct kb lb cs h0 n0 _ T193.heap _
    rw [e193]
    exact ⟨rfl, N193, kp200, x195, x196, x198, V193⟩
theorem ef_22 (m : MethodId) (a0 : Addr) (p1 : Int32) : entryFrame m #[(.ref a0), (.int p1)] 2 = mkF m 0 #[.val (.ref a0), .val (.int p1)] [] := by first | (simp [entryFrame, mkF, argsToLocals, Value.category]; done) | rfl
abbrev own_d22 (p : Nat) (i : Instr) (n : Nat) : Prop := decode jdk_67_method_14_code p = .ok (i, n)
theorem d22_0 : own_d22 0 (.aload_n 0) 1 := by decide +kernel
theorem d22_1 : own_d22 1 (.iload_n 1) 1 := by decide +kernel
theorem pd_4 : parseMethodDescriptor "(C)Ljava/lang/AbstractStringBuilder;" = some ⟨[.char], some (.object "java/lang/AbstractStringBuilder")⟩ := by decide +kernel
theorem d22_2 : own_d22 2 (.invokespecial 50) 3 := by decide +kernel
theorem d22_5 : own_d22 5 .pop 1 := by decide +kernel
theorem d22_6 : own_d22 6 (.aload_n 0) 1 := by decide +kernel
theorem d22_7 : own_d22 7 .areturn 1 := by decide +kernel
def Q22 (Z : State) (a0 : Addr) (p1 : Int32) (vb : Addr) (ct : Int32) (kb : ClassId) (lb : List Value) (cs : Int32) (h0 : Heap) (n0 : Nat) (v : Option Value) (h : Heap) (L : List Loc) : Prop := v = some (.ref a0) ∧ Fr n0 L ∧ Keep h0 h [a0, vb] ∧ Fld Z h a0 "java/lang/AbstractStringBuilder" "value" "[B" (.ref vb) ∧ Fld Z h a0 "java/lang/AbstractStringBuilder" "coder" "B" (.int (0 : Int32)) ∧ Fld Z h a0 "java/lang/AbstractStringBuilder" "count" "I" (.int (ct + (1 : Int32))) ∧ Arv Z h vb kb .byte (16 : Int32) (lb.set (ct).toNatClampNeg (.int (nar .byte (p1.toInt8.toInt32)))) (.int (0 : Int32))
set_option maxRecDepth 65536 in
set_option maxHeartbeats 40000000 in
theorem rm22 (l : Launch) (Z : State) (ag : Array Value) (hw : ∀ d ∈ tables_1, d.before ag Z = true) (ws : List Jvm.Cond) (a0 : Addr) (p1 : Int32) (vb : Addr) (ct : Int32) (kb : ClassId) (lb : List Value) (cs : Int32) (h0 : Heap) (n0 : Nat) (Z0 : n0 ≤ h0.size) (E_a0 : Exa Z h0 a0 "java/lang/StringBuilder") (F_value_a0 : Fld Z h0 a0 "java/lang/AbstractStringBuilder" "value" "[B" (.ref vb)) (F_coder_a0 : Fld Z h0 a0 "java/lang/AbstractStringBuilder" "coder" "B" (.int (0 : Int32))) (F_count_a0 : Fld Z h0 a0 "java/lang/AbstractStringBuilder" "count" "I" (.int ct)) (V_vb : Arv Z h0 vb kb .byte (16 : Int32) lb (.int (0 : Int32))) (ge_a0 : n0 ≤ a0) (ge_vb : n0 ≤ vb) (ne_a0_vb : a0 ≠ vb) (O_ : Old Z n0 h0) (S_cs : Sta Z Z.heap "java/lang/String" "COMPACT_STRINGS" "Z" (.int cs)) (hcs : ¬ cs = (0 : Int32)) (hct : 0 ≤ ct.toInt ∧ ct.toInt < 16) (hlb : lb.length = 16) (hch : ¬ (255 : Int32) < p1) :
    MetFree l (⟨"java/lang/StringBuilder", "append", "(C)Ljava/lang/StringBuilder;"⟩ : MethodName) (head1 (Jvm.Cond.code (⟨"java/lang/StringBuilder", "append", "(C)Ljava/lang/StringBuilder;"⟩ : MethodName) jdk_67_method_14_code 2 (some (.object "java/lang/StringBuilder")) :: ws) ({ frames := 2, cells := 0, slots := 0, locals := 27 } : Room)) (fun a U => a = #[(.ref a0), (.int p1)] ∧ Z.Warmed39 U.vm ∧ U.heap = h0) (fun _ _ _ _ _ => True) (fun _ U o U' => ∃ v L, o = .returned v ∧ Q22 Z a0 p1 vb ct kb lb cs h0 n0 v U'.heap L ∧ FrameEnd U o U' L ({ frames := 2, cells := 0, slots := 0, locals := 27 } : Room).cells ({ frames := 2, cells := 0, slots := 0, locals := 27 } : Room).slots) := by
  refine MetFree.of_bodySF (plainFor_of_name pn_6) hisR ?_
  intro p e s m args below meth c s₁ Bd hml0 hP hK
  obtain ⟨rfl, hZ, hh⟩ := hP
  have hx := Bd.exec
  have hby := Bd.bytes
  have hml : c.maxLocals = 2 := hml0
  have hown : s.vm.findClass "java/lang/StringBuilder" = some m.cls := findClass_of_methodNamed Bd.named
  have hnm := (name_of_methodNamed Bd.named Bd.method).1
  have X0 : Stand p l e ({ frames := 2, cells := 0, slots := 0, locals := 27 } : Room) s m #[(.ref a0), (.int p1)] below meth c s₁ [] 0 0 := Stand.of_body Bd
  have e0 : s₁.heap = h0 := by rw [← hh, Bd.state]; rfl
  have N0 := Fr.nil n0
  have pre0 : ∀ t, Steps p.tables e below (s₁.setTop (mkF m 0 #[.val (.ref a0), .val (.int p1)] [])) t → Steps p.tables e below (s₁.setTop (entryFrame m #[(.ref a0), (.int p1)] 2)) t := fun t k => castTop (ef_22 m a0 p1) k
  obtain ⟨_, _, ⟨T201, L201, k201, n201⟩, -, X201, ⟨Lc201, hQ201, l201, y201, z201⟩, st201⟩ := superBack X0 hx (y := (⟨"java/lang/AbstractStringBuilder", "append", "(C)Ljava/lang/AbstractStringBuilder;"⟩ : MethodName)) hZ hown (own_wk hw 114 rfl) (own_same (ym := (⟨"java/lang/AbstractStringBuilder", "ensureCapacityInternal", "(I)V"⟩ : MethodName)) (own_wk hw 115 rfl) (own_wk hw 121 rfl) (by decide) rfl) (own_wk hw 115 rfl) (own_wk hw 86 rfl) (by decide) (backOf (W := 0) (rm23 l Z ag hw [] a0 p1 vb ct kb lb cs h0 n0 Z0 E_a0 F_value_a0 F_coder_a0 F_count_a0 V_vb ge_a0 ge_vb ne_a0_vb O_ S_cs hcs hct hlb hch) hZ (own_wk hw 117 rfl) (own_wk hw 36 rfl) (by decide) (by decide)) e0 (Ins.self E_a0) (g := (mkF m 2 #[.val (.ref a0), .val (.int p1)] [(.int p1), (.ref a0)])) rfl (by rw [hml]; rfl) (own_wk hw 117 rfl) (argsL := [(.int p1)]) (rest := []) (lenOf pd_4 rfl) rfl (by show 2 * 0 + _ ≤ _; exact Nat.le_of_eq rfl) (hb hby d22_2) (fun _ _ => ⟨rfl, e0, (by decide : 0 + 0 ≤ _), (by decide : 0 + 0 ≤ _)⟩)
  dsimp only [Pt.U, Pt.locs, Pt.cells, Pt.slots] at X201 l201 y201 z201 st201 hQ201
  subst l201 y201 z201
  obtain ⟨rfl, N201q, K201, o201_0, o201_1, o201_2, o201_3⟩ := hQ201
  have N201 := Fr.app N0 N201q
  have x202 := E_a0.keep K201
  have x203 := O_.keep K201 (allS ge_a0 (allS ge_vb all0))
  have sz204 : n0 ≤ T201.heap.size := Nat.le_trans Z0 K201.1
  have kp205 : Keep h0 T201.heap [a0, vb] := (Keep.refl h0 [a0, vb]).trans K201 (allS (Or.inl (List.mem_of_getElem? (i := 0) rfl)) (allS (Or.inl (List.mem_of_getElem? (i := 1) rfl)) all0))
  obtain ⟨fs, hr, hrun, hended, hW, hsame⟩ := X201.leave (v := some (.ref a0)) (fun h => by rw [Bd.returns] at h; cases h)
  refine ⟨_, _, pre0 _ ?_, hrun, hended, _, _, rfl, ?_, ⟨_, rfl⟩, hW, hsame.mono (by decide) (by decide)⟩
  · show own_S p e below s₁ (mkF m 0 #[.val (.ref a0), .val (.int p1)] []) _
    refine XS.aloadN X0.here hx rfl (hb hby d22_0) rfl rfl (XS.iloadN X0.here hx rfl (hb hby d22_1) rfl (st201.trans (XS.pop X201.here hx rfl (hb hby d22_5) rfl rfl (XS.aloadN X201.here hx rfl (hb hby d22_6) rfl rfl ?_))))
    show own_S p e below T201 (mkF m 7 #[.val (.ref a0), .val (.int p1)] [(.ref a0)]) _
    exact Jvm.RoadKit.retOut X201 hx Bd.returns rfl (Or.inr (Or.inr (Or.inr (Or.inr ⟨rfl, rfl, rfl⟩)))) (hb hby d22_7) hr
  · show Q22 Z a0 p1 vb ct kb lb cs h0 n0 _ T201.heap _
    exact ⟨rfl, N201, kp205, o201_0, o201_1, o201_2, o201_3⟩
theorem pn_9 : plainName "jdk/internal/util/Preconditions" = true := by first | (simp [plainName, overriddenIn]; done) | decide +kernel
theorem ef_40 (m : MethodId) (p0 : Int32) (p1 : Int32) (v2 : Value) (rv_v2 : v2.isRef = true) : entryFrame m #[(.int p0), (.int p1), v2] 3 = mkF m 0 #[.val (.int p0), .val (.int p1), .val v2] [] := by rcases ref_cases rv_v2 with rfl | ⟨a, rfl⟩ <;> first | (simp [entryFrame, mkF, argsToLocals, Value.category]; done) | rfl
abbrev own_d40 (p : Nat) (i : Instr) (n : Nat) : Prop := decode jdk_41_method_11_code p = .ok (i, n)
theorem d40_0 : own_d40 0 (.iload_n 0) 1 := by decide +kernel
theorem d40_1 : own_d40 1 (.ifCond .lt 8) 3 := by decide +kernel
theorem d40_4 : own_d40 4 (.iload_n 0) 1 := by decide +kernel
theorem d40_5 : own_d40 5 (.iload_n 1) 1 := by decide +kernel
theorem d40_6 : own_d40 6 (.if_icmp .lt 10) 3 := by decide +kernel
theorem d40_16 : own_d40 16 (.iload_n 0) 1 := by decide +kernel
theorem d40_17 : own_d40 17 .ireturn 1 := by decide +kernel
def Q40 (Z : State) (p0 p1 : Int32) (v2 : Value) (h0 : Heap) (n0 : Nat) (v : Option Value) (h : Heap) (L : List Loc) : Prop := v = some (.int p0) ∧ Fr n0 L ∧ h = h0
set_option maxRecDepth 65536 in
set_option maxHeartbeats 40000000 in
theorem rm40 (l : Launch) (Z : State) (ag : Array Value) (hw : ∀ d ∈ tables_1, d.before ag Z = true) (ws : List Jvm.Cond) (p0 p1 : Int32) (v2 : Value) (h0 : Heap) (n0 : Nat) (Z0 : n0 ≤ h0.size) (rv_v2 : v2.isRef = true) (h1 : ¬ p0 < (0 : Int32)) (h2 : p0 < p1) :
    MetFree l (⟨"jdk/internal/util/Preconditions", "checkIndex", "(IILjava/util/function/BiFunction;)I"⟩ : MethodName) (head1 (Jvm.Cond.code (⟨"jdk/internal/util/Preconditions", "checkIndex", "(IILjava/util/function/BiFunction;)I"⟩ : MethodName) jdk_41_method_11_code 3 (some .int) :: ws) ({ frames := 0, cells := 0, slots := 0, locals := 0 } : Room)) (fun a U => a = #[(.int p0), (.int p1), v2] ∧ Z.Warmed39 U.vm ∧ U.heap = h0) (fun _ _ _ _ _ => True) (fun _ U o U' => ∃ v L, o = .returned v ∧ Q40 Z p0 p1 v2 h0 n0 v U'.heap L ∧ FrameEnd U o U' L ({ frames := 0, cells := 0, slots := 0, locals := 0 } : Room).cells ({ frames := 0, cells := 0, slots := 0, locals := 0 } : Room).slots) := by
  refine MetFree.of_bodySF (plainFor_of_name pn_9) hisR ?_
  intro p e s m args below meth c s₁ Bd hml0 hP hK
  obtain ⟨rfl, hZ, hh⟩ := hP
  have hx := Bd.exec
  have hby := Bd.bytes
  have hml : c.maxLocals = 3 := hml0
  have hown : s.vm.findClass "jdk/internal/util/Preconditions" = some m.cls := findClass_of_methodNamed Bd.named
  have hnm := (name_of_methodNamed Bd.named Bd.method).1
  have X0 : Stand p l e ({ frames := 0, cells := 0, slots := 0, locals := 0 } : Room) s m #[(.int p0), (.int p1), v2] below meth c s₁ [] 0 0 := Stand.of_body Bd
  have e0 : s₁.heap = h0 := by rw [← hh, Bd.state]; rfl
  have N0 := Fr.nil n0
  have pre0 : ∀ t, Steps p.tables e below (s₁.setTop (mkF m 0 #[.val (.int p0), .val (.int p1), .val v2] [])) t → Steps p.tables e below (s₁.setTop (entryFrame m #[(.int p0), (.int p1), v2] 3)) t := fun t k => castTop (ef_40 m p0 p1 v2 rv_v2) k
  obtain ⟨fs, hr, hrun, hended, hW, hsame⟩ := X0.leave (v := some (.int p0)) (fun h => by rw [Bd.returns] at h; cases h)
  refine ⟨_, _, pre0 _ ?_, hrun, hended, _, _, rfl, ?_, ⟨_, rfl⟩, hW, hsame.mono (by decide) (by decide)⟩
  · show own_S p e below s₁ (mkF m 0 #[.val (.int p0), .val (.int p1), .val v2] []) _
    refine XS.iloadN X0.here hx rfl (hb hby d40_0) rfl (XS.ifNo X0.here hx rfl (hb hby d40_1) rfl ((if0 _ _).trans (flt (show ¬ (p0 < (0 : Int32)) from h1)).1) (XS.iloadN X0.here hx rfl (hb hby d40_4) rfl (XS.iloadN X0.here hx rfl (hb hby d40_5) rfl (XS.icmpYes X0.here hx rfl (pc0 := 6) (pc' := 16) rfl (hb hby d40_6) rfl (tlt (show p0 < p1 from h2)).1 (by decide) (by decide) (XS.iloadN X0.here hx rfl (hb hby d40_16) rfl ?_)))))
    show own_S p e below s₁ (mkF m 17 #[.val (.int p0), .val (.int p1), .val v2] [(.int p0)]) _
    exact retI X0 hx Bd.returns (hb hby d40_17) hr
  · show Q40 Z p0 p1 v2 h0 n0 _ s₁.heap _
    rw [e0]
    exact ⟨rfl, N0, rfl⟩
theorem pn_5 : plainName "java/lang/String" = true := by first | (simp [plainName, overriddenIn]; done) | decide +kernel
theorem ef_39 (m : MethodId) (p0 : Int32) (p1 : Int32) : entryFrame m #[(.int p0), (.int p1)] 2 = mkF m 0 #[.val (.int p0), .val (.int p1)] [] := by first | (simp [entryFrame, mkF, argsToLocals, Value.category]; done) | rfl
abbrev own_d39 (p : Nat) (i : Instr) (n : Nat) : Prop := decode jdk_42_method_155_code p = .ok (i, n)
theorem d39_0 : own_d39 0 (.iload_n 0) 1 := by decide +kernel
theorem d39_1 : own_d39 1 (.iload_n 1) 1 := by decide +kernel
theorem d39_2 : own_d39 2 (.getstatic 1053) 3 := by decide +kernel
theorem pd_11 : parseMethodDescriptor "(IILjava/util/function/BiFunction;)I" = some ⟨[.int, .int, (.object "java/util/function/BiFunction")], some .int⟩ := by decide +kernel
theorem d39_5 : own_d39 5 (.invokestatic 1059) 3 := by decide +kernel
theorem d39_8 : own_d39 8 .pop 1 := by decide +kernel
theorem d39_9 : own_d39 9 .return_ 1 := by decide +kernel
def Q39 (Z : State) (p0 p1 : Int32) (gf : Value) (h0 : Heap) (n0 : Nat) (v : Option Value) (h : Heap) (L : List Loc) : Prop := v = none ∧ Fr n0 L ∧ h = h0
set_option maxRecDepth 65536 in
set_option maxHeartbeats 40000000 in
theorem rm39 (l : Launch) (Z : State) (ag : Array Value) (hw : ∀ d ∈ tables_1, d.before ag Z = true) (ws : List Jvm.Cond) (p0 p1 : Int32) (gf : Value) (h0 : Heap) (n0 : Nat) (Z0 : n0 ≤ h0.size) (h1 : ¬ p0 < (0 : Int32)) (h2 : p0 < p1) (O_ : Old Z n0 h0) (S_gf : Sta Z Z.heap "jdk/internal/util/Preconditions" "SIOOBE_FORMATTER" "Ljava/util/function/BiFunction;" gf) (rv_gf : gf.isRef = true) :
    MetFree l (⟨"java/lang/String", "checkIndex", "(II)V"⟩ : MethodName) (head1 (Jvm.Cond.code (⟨"java/lang/String", "checkIndex", "(II)V"⟩ : MethodName) jdk_42_method_155_code 2 none :: ws) ({ frames := 1, cells := 0, slots := 0, locals := 14 } : Room)) (fun a U => a = #[(.int p0), (.int p1)] ∧ Z.Warmed39 U.vm ∧ U.heap = h0) (fun _ _ _ _ _ => True) (fun _ U o U' => ∃ v L, o = .returned v ∧ Q39 Z p0 p1 gf h0 n0 v U'.heap L ∧ FrameEnd U o U' L ({ frames := 1, cells := 0, slots := 0, locals := 14 } : Room).cells ({ frames := 1, cells := 0, slots := 0, locals := 14 } : Room).slots) := by
  refine MetFree.of_bodySF (plainFor_of_name pn_5) hisR ?_
  intro p e s m args below meth c s₁ Bd hml0 hP hK
  obtain ⟨rfl, hZ, hh⟩ := hP
  have hx := Bd.exec
  have hby := Bd.bytes
  have hml : c.maxLocals = 2 := hml0
  have hown : s.vm.findClass "java/lang/String" = some m.cls := findClass_of_methodNamed Bd.named
  have hnm := (name_of_methodNamed Bd.named Bd.method).1
  have X0 : Stand p l e ({ frames := 1, cells := 0, slots := 0, locals := 14 } : Room) s m #[(.int p0), (.int p1)] below meth c s₁ [] 0 0 := Stand.of_body Bd
  have e0 : s₁.heap = h0 := by rw [← hh, Bd.state]; rfl
  have N0 := Fr.nil n0
  have pre0 : ∀ t, Steps p.tables e below (s₁.setTop (mkF m 0 #[.val (.int p0), .val (.int p1)] [])) t → Steps p.tables e below (s₁.setTop (entryFrame m #[(.int p0), (.int p1)] 2)) t := fun t k => castTop (ef_39 m p0 p1) k
  obtain ⟨T206, X206, e206, st206⟩ := getS2 X0 hx hZ hown (host := "") (Or.inl (own_wk hw 195 rfl)) Via.refl e0 (Sta.ext O_.2 S_gf) (g := (mkF m 2 #[.val (.int p0), .val (.int p1)] [(.int p1), (.int p0)])) rfl (hb hby d39_2)
  obtain ⟨_, _, ⟨T207, L207, k207, n207⟩, -, X207, ⟨Lc207, hQ207, l207, y207, z207⟩, st207⟩ := Jvm.LawKit.callS X206 hx (y := (⟨"jdk/internal/util/Preconditions", "checkIndex", "(IILjava/util/function/BiFunction;)I"⟩ : MethodName)) hown (mvT hZ (own_wk hw 197 rfl)) (mvT hZ (own_wk hw 198 rfl)) (mvT hZ (own_wk hw 196 rfl)) (mvT hZ (own_wk hw 199 rfl)) (by decide) (backOf (W := 0) (rm40 l Z ag hw [] p0 p1 gf  h0 n0 Z0 rv_gf h1 h2) hZ (own_wk hw 199 rfl) (own_wk hw 196 rfl) (by decide) (by decide)) (g := (mkF m 5 #[.val (.int p0), .val (.int p1)] [gf, (.int p1), (.int p0)])) rfl (by rw [hml]; rfl) (argsL := [(.int p0), (.int p1), gf]) (rest := []) (lenOf pd_11 rfl) rfl (by show 2 * 0 + _ ≤ _; exact Nat.le_of_eq rfl) (hb hby d39_5) (fun _ _ => ⟨rfl, e206, (by decide : 0 + 0 ≤ _), (by decide : 0 + 0 ≤ _)⟩)
  dsimp only [Pt.U, Pt.locs, Pt.cells, Pt.slots] at X207 l207 y207 z207 st207 hQ207
  subst l207 y207 z207
  obtain ⟨rfl, N207q, e207⟩ := hQ207
  have N207 := Fr.app N0 N207q
  obtain ⟨fs, hr, hrun, hended, hW, hsame⟩ := X207.leave (v := none) (fun _ => rfl)
  refine ⟨_, _, pre0 _ ?_, hrun, hended, _, _, rfl, ?_, ⟨_, rfl⟩, hW, hsame.mono (by decide) (by decide)⟩
  · show own_S p e below s₁ (mkF m 0 #[.val (.int p0), .val (.int p1)] []) _
    refine XS.iloadN X0.here hx rfl (hb hby d39_0) rfl (XS.iloadN X0.here hx rfl (hb hby d39_1) rfl (st206 _ (st207 _ (XS.pop X207.here hx rfl (hb hby d39_8) rfl rfl ?_))))
    show own_S p e below T207 (mkF m 9 #[.val (.int p0), .val (.int p1)] []) _
    exact X207.returnOut hx Bd.returns (hb hby d39_9) hr
  · show Q39 Z p0 p1 gf h0 n0 _ T207.heap _
    rw [e207]
    exact ⟨rfl, N207, rfl⟩
theorem ef_37 (m : MethodId) (a0 : Addr) : entryFrame m #[(.ref a0)] 1 = mkF m 0 #[.val (.ref a0)] [] := by first | (simp [entryFrame, mkF, argsToLocals, Value.category]; done) | rfl
abbrev own_d37 (p : Nat) (i : Instr) (n : Nat) : Prop := decode jdk_42_method_154_code p = .ok (i, n)
theorem d37_0 : own_d37 0 (.getstatic 38) 3 := by decide +kernel
theorem d37_3 : own_d37 3 (.ifCond .eq 14) 3 := by decide +kernel
theorem d37_6 : own_d37 6 (.aload_n 0) 1 := by decide +kernel
theorem d37_7 : own_d37 7 (.getfield 15) 3 := by decide +kernel
theorem d37_10 : own_d37 10 (.ifCond .ne 7) 3 := by decide +kernel
theorem d37_13 : own_d37 13 (.iconst 1) 1 := by decide +kernel
theorem d37_14 : own_d37 14 (.goto 4) 3 := by decide +kernel
theorem d37_18 : own_d37 18 .ireturn 1 := by decide +kernel
def Q37_0 (Z : State) (a0 : Addr) (cs : Int32) (h0 : Heap) (n0 : Nat) (v : Option Value) (h : Heap) (L : List Loc) : Prop := v = some (.int (1 : Int32)) ∧ Fr n0 L ∧ h = h0
set_option maxRecDepth 65536 in
set_option maxHeartbeats 40000000 in
theorem rm37_0 (l : Launch) (Z : State) (ag : Array Value) (hw : ∀ d ∈ tables_1, d.before ag Z = true) (ws : List Jvm.Cond) (a0 : Addr) (cs : Int32) (h0 : Heap) (n0 : Nat) (Z0 : n0 ≤ h0.size) (F_coder_a0 : Fld Z h0 a0 "java/lang/String" "coder" "B" (.int (0 : Int32))) (O_ : Old Z n0 h0) (S_cs : Sta Z Z.heap "java/lang/String" "COMPACT_STRINGS" "Z" (.int cs)) (hcs : ¬ cs = (0 : Int32)) :
    MetFree l (⟨"java/lang/String", "isLatin1", "()Z"⟩ : MethodName) (head1 (Jvm.Cond.code (⟨"java/lang/String", "isLatin1", "()Z"⟩ : MethodName) jdk_42_method_154_code 1 (some .boolean) :: ws) ({ frames := 0, cells := 0, slots := 0, locals := 0 } : Room)) (fun a U => a = #[(.ref a0)] ∧ Z.Warmed39 U.vm ∧ U.heap = h0) (fun _ _ _ _ _ => True) (fun _ U o U' => ∃ v L, o = .returned v ∧ Q37_0 Z a0 cs h0 n0 v U'.heap L ∧ FrameEnd U o U' L ({ frames := 0, cells := 0, slots := 0, locals := 0 } : Room).cells ({ frames := 0, cells := 0, slots := 0, locals := 0 } : Room).slots) := by
  refine MetFree.of_bodySF (plainFor_of_name pn_5) hisR ?_
  intro p e s m args below meth c s₁ Bd hml0 hP hK
  obtain ⟨rfl, hZ, hh⟩ := hP
  have hx := Bd.exec
  have hby := Bd.bytes
  have hml : c.maxLocals = 1 := hml0
  have hown : s.vm.findClass "java/lang/String" = some m.cls := findClass_of_methodNamed Bd.named
  have hnm := (name_of_methodNamed Bd.named Bd.method).1
  have X0 : Stand p l e ({ frames := 0, cells := 0, slots := 0, locals := 0 } : Room) s m #[(.ref a0)] below meth c s₁ [] 0 0 := Stand.of_body Bd
  have e0 : s₁.heap = h0 := by rw [← hh, Bd.state]; rfl
  have N0 := Fr.nil n0
  have pre0 : ∀ t, Steps p.tables e below (s₁.setTop (mkF m 0 #[.val (.ref a0)] [])) t → Steps p.tables e below (s₁.setTop (entryFrame m #[(.ref a0)] 1)) t := fun t k => castTop (ef_37 m a0) k
  obtain ⟨T208, X208, e208, st208⟩ := getS2 X0 hx hZ hown (host := "") (Or.inl (own_wk hw 142 rfl)) Via.refl e0 (Sta.ext O_.2 S_cs) (g := (mkF m 0 #[.val (.ref a0)] [])) rfl (hb hby d37_0)
  obtain ⟨T209, X209, e209, st209⟩ := getF X208 hx hZ hown (host := "") (Or.inl (own_wk hw 153 rfl)) Via.refl e208 F_coder_a0 (g := (mkF m 7 #[.val (.ref a0)] [(.ref a0)])) rfl rfl (hb hby d37_7)
  obtain ⟨fs, hr, hrun, hended, hW, hsame⟩ := X209.leave (v := some (.int (1 : Int32))) (fun h => by rw [Bd.returns] at h; cases h)
  refine ⟨_, _, pre0 _ ?_, hrun, hended, _, _, rfl, ?_, ⟨_, rfl⟩, hW, hsame.mono (by decide) (by decide)⟩
  · show own_S p e below s₁ (mkF m 0 #[.val (.ref a0)] []) _
    refine st208 _ (XS.ifNo X208.here hx rfl (hb hby d37_3) rfl ((if0 _ _).trans (feq (show ¬ (cs = (0 : Int32)) from hcs)).1) (XS.aloadN X208.here hx rfl (hb hby d37_6) rfl rfl (st209 _ (XS.ifNo X209.here hx rfl (hb hby d37_10) rfl ((if0 _ _).trans (teq (by decide : (0 : Int32) = (0 : Int32))).2) (XS.iconst X209.here hx rfl (hb hby d37_13) (XS.goto X209.here hx rfl (pc0 := 14) (pc' := 18) rfl (hb hby d37_14) (by decide) (by decide) ?_))))))
    show own_S p e below T209 (mkF m 18 #[.val (.ref a0)] [.int 1]) _
    exact retN X209 hx (t := .boolean) Bd.returns (by simp) (hb hby d37_18) hr
  · show Q37_0 Z a0 cs h0 n0 _ T209.heap _
    rw [e209]
    exact ⟨rfl, N0, rfl⟩
theorem d37_17 : own_d37 17 (.iconst 0) 1 := by decide +kernel
def Q37_1 (Z : State) (a0 : Addr) (cs : Int32) (h0 : Heap) (n0 : Nat) (v : Option Value) (h : Heap) (L : List Loc) : Prop := v = some (.int (0 : Int32)) ∧ Fr n0 L ∧ h = h0
set_option maxRecDepth 65536 in
set_option maxHeartbeats 40000000 in
theorem rm37_1 (l : Launch) (Z : State) (ag : Array Value) (hw : ∀ d ∈ tables_1, d.before ag Z = true) (ws : List Jvm.Cond) (a0 : Addr) (cs : Int32) (h0 : Heap) (n0 : Nat) (Z0 : n0 ≤ h0.size) (F_coder_a0 : Fld Z h0 a0 "java/lang/String" "coder" "B" (.int (1 : Int32))) (O_ : Old Z n0 h0) (S_cs : Sta Z Z.heap "java/lang/String" "COMPACT_STRINGS" "Z" (.int cs)) (hcs : ¬ cs = (0 : Int32)) :
    MetFree l (⟨"java/lang/String", "isLatin1", "()Z"⟩ : MethodName) (head1 (Jvm.Cond.code (⟨"java/lang/String", "isLatin1", "()Z"⟩ : MethodName) jdk_42_method_154_code 1 (some .boolean) :: ws) ({ frames := 0, cells := 0, slots := 0, locals := 0 } : Room)) (fun a U => a = #[(.ref a0)] ∧ Z.Warmed39 U.vm ∧ U.heap = h0) (fun _ _ _ _ _ => True) (fun _ U o U' => ∃ v L, o = .returned v ∧ Q37_1 Z a0 cs h0 n0 v U'.heap L ∧ FrameEnd U o U' L ({ frames := 0, cells := 0, slots := 0, locals := 0 } : Room).cells ({ frames := 0, cells := 0, slots := 0, locals := 0 } : Room).slots) := by
  refine MetFree.of_bodySF (plainFor_of_name pn_5) hisR ?_
  intro p e s m args below meth c s₁ Bd hml0 hP hK
  obtain ⟨rfl, hZ, hh⟩ := hP
  have hx := Bd.exec
  have hby := Bd.bytes
  have hml : c.maxLocals = 1 := hml0
  have hown : s.vm.findClass "java/lang/String" = some m.cls := findClass_of_methodNamed Bd.named
  have hnm := (name_of_methodNamed Bd.named Bd.method).1
  have X0 : Stand p l e ({ frames := 0, cells := 0, slots := 0, locals := 0 } : Room) s m #[(.ref a0)] below meth c s₁ [] 0 0 := Stand.of_body Bd
  have e0 : s₁.heap = h0 := by rw [← hh, Bd.state]; rfl
  have N0 := Fr.nil n0
  have pre0 : ∀ t, Steps p.tables e below (s₁.setTop (mkF m 0 #[.val (.ref a0)] [])) t → Steps p.tables e below (s₁.setTop (entryFrame m #[(.ref a0)] 1)) t := fun t k => castTop (ef_37 m a0) k
  obtain ⟨T210, X210, e210, st210⟩ := getS2 X0 hx hZ hown (host := "") (Or.inl (own_wk hw 142 rfl)) Via.refl e0 (Sta.ext O_.2 S_cs) (g := (mkF m 0 #[.val (.ref a0)] [])) rfl (hb hby d37_0)
  obtain ⟨T211, X211, e211, st211⟩ := getF X210 hx hZ hown (host := "") (Or.inl (own_wk hw 153 rfl)) Via.refl e210 F_coder_a0 (g := (mkF m 7 #[.val (.ref a0)] [(.ref a0)])) rfl rfl (hb hby d37_7)
  obtain ⟨fs, hr, hrun, hended, hW, hsame⟩ := X211.leave (v := some (.int (0 : Int32))) (fun h => by rw [Bd.returns] at h; cases h)
  refine ⟨_, _, pre0 _ ?_, hrun, hended, _, _, rfl, ?_, ⟨_, rfl⟩, hW, hsame.mono (by decide) (by decide)⟩
  · show own_S p e below s₁ (mkF m 0 #[.val (.ref a0)] []) _
    refine st210 _ (XS.ifNo X210.here hx rfl (hb hby d37_3) rfl ((if0 _ _).trans (feq (show ¬ (cs = (0 : Int32)) from hcs)).1) (XS.aloadN X210.here hx rfl (hb hby d37_6) rfl rfl (st211 _ (XS.ifYes X211.here hx rfl (pc0 := 10) (pc' := 17) rfl (hb hby d37_10) rfl ((if0 _ _).trans (feq (by decide : ¬ ((1 : Int32) = (0 : Int32)))).2) (by decide) (by decide) (XS.iconst X211.here hx rfl (hb hby d37_17) ?_)))))
    show own_S p e below T211 (mkF m 18 #[.val (.ref a0)] [.int 0]) _
    exact retN X211 hx (t := .boolean) Bd.returns (by simp) (hb hby d37_18) hr
  · show Q37_1 Z a0 cs h0 n0 _ T211.heap _
    rw [e211]
    exact ⟨rfl, N0, rfl⟩
theorem ef_38 (m : MethodId) (a0 : Addr) (p1 : Int32) : entryFrame m #[(.ref a0), (.int p1)] 2 = mkF m 0 #[.val (.ref a0), .val (.int p1)] [] := by first | (simp [entryFrame, mkF, argsToLocals, Value.category]; done) | rfl
abbrev own_d38 (p : Nat) (i : Instr) (n : Nat) : Prop := decode jdk_43_method_2_code p = .ok (i, n)
theorem d38_0 : own_d38 0 (.iload_n 1) 1 := by decide +kernel
theorem d38_1 : own_d38 1 (.aload_n 0) 1 := by decide +kernel
theorem d38_2 : own_d38 2 .arraylength 1 := by decide +kernel
theorem pd_10 : parseMethodDescriptor "(II)V" = some ⟨[.int, .int], none⟩ := by decide +kernel
theorem d38_3 : own_d38 3 (.invokestatic 9) 3 := by decide +kernel
theorem d38_6 : own_d38 6 (.aload_n 0) 1 := by decide +kernel
theorem d38_7 : own_d38 7 (.iload_n 1) 1 := by decide +kernel
theorem d38_8 : own_d38 8 .baload 1 := by decide +kernel
theorem d38_9 : own_d38 9 (.sipush 255) 3 := by decide +kernel
theorem d38_12 : own_d38 12 .iand 1 := by decide +kernel
theorem d38_13 : own_d38 13 .i2c 1 := by decide +kernel
theorem d38_14 : own_d38 14 .ireturn 1 := by decide +kernel
def Q38 (Z : State) (a0 : Addr) (p1 : Int32) (kb : ClassId) (nb : Int32) (bs : List Value) (u : Int32) (gf : Value) (h0 : Heap) (n0 : Nat) (v : Option Value) (h : Heap) (L : List Loc) : Prop := v = some (.int (nar .char ((u &&& (255 : Int32)).toUInt32.toUInt16.toUInt32.toInt32))) ∧ Fr n0 L ∧ h = h0
set_option maxRecDepth 65536 in
set_option maxHeartbeats 40000000 in
theorem rm38 (l : Launch) (Z : State) (ag : Array Value) (hw : ∀ d ∈ tables_1, d.before ag Z = true) (ws : List Jvm.Cond) (a0 : Addr) (p1 : Int32) (kb : ClassId) (nb : Int32) (bs : List Value) (u : Int32) (gf : Value) (h0 : Heap) (n0 : Nat) (Z0 : n0 ≤ h0.size) (V_a0 : Arv Z h0 a0 kb .byte nb bs (.int (0 : Int32))) (h1 : ¬ p1 < (0 : Int32)) (h2 : p1 < nb) (hu : bs.getD (p1).toNatClampNeg (.int (0 : Int32)) = .int u) (O_ : Old Z n0 h0) (S_gf : Sta Z Z.heap "jdk/internal/util/Preconditions" "SIOOBE_FORMATTER" "Ljava/util/function/BiFunction;" gf) (rv_gf : gf.isRef = true) :
    MetFree l (⟨"java/lang/StringLatin1", "charAt", "([BI)C"⟩ : MethodName) (head1 (Jvm.Cond.code (⟨"java/lang/StringLatin1", "charAt", "([BI)C"⟩ : MethodName) jdk_43_method_2_code 2 (some .char) :: ws) ({ frames := 2, cells := 0, slots := 0, locals := 27 } : Room)) (fun a U => a = #[(.ref a0), (.int p1)] ∧ Z.Warmed39 U.vm ∧ U.heap = h0) (fun _ _ _ _ _ => True) (fun _ U o U' => ∃ v L, o = .returned v ∧ Q38 Z a0 p1 kb nb bs u gf h0 n0 v U'.heap L ∧ FrameEnd U o U' L ({ frames := 2, cells := 0, slots := 0, locals := 27 } : Room).cells ({ frames := 2, cells := 0, slots := 0, locals := 27 } : Room).slots) := by
  refine MetFree.of_bodySF (plainFor_of_name pn_7) hisR ?_
  intro p e s m args below meth c s₁ Bd hml0 hP hK
  obtain ⟨rfl, hZ, hh⟩ := hP
  have hx := Bd.exec
  have hby := Bd.bytes
  have hml : c.maxLocals = 2 := hml0
  have hown : s.vm.findClass "java/lang/StringLatin1" = some m.cls := findClass_of_methodNamed Bd.named
  have hnm := (name_of_methodNamed Bd.named Bd.method).1
  have X0 : Stand p l e ({ frames := 2, cells := 0, slots := 0, locals := 27 } : Room) s m #[(.ref a0), (.int p1)] below meth c s₁ [] 0 0 := Stand.of_body Bd
  have e0 : s₁.heap = h0 := by rw [← hh, Bd.state]; rfl
  have N0 := Fr.nil n0
  have pre0 : ∀ t, Steps p.tables e below (s₁.setTop (mkF m 0 #[.val (.ref a0), .val (.int p1)] [])) t → Steps p.tables e below (s₁.setTop (entryFrame m #[(.ref a0), (.int p1)] 2)) t := fun t k => castTop (ef_38 m a0 p1) k
  obtain ⟨cl212, Ar212, -, S212, M212, -, -⟩ := id V_a0
  have ld212 := X0.arraylength hx (by rw [e0]; exact Ar212.1) (State.isArrayOf_alike hZ.alike Ar212.2.1) (g := (mkF m 2 #[.val (.ref a0), .val (.int p1)] [(.ref a0), (.int p1)])) rfl rfl (hb hby d38_2)
  obtain ⟨_, _, ⟨T213, L213, k213, n213⟩, -, X213, ⟨Lc213, hQ213, l213, y213, z213⟩, st213⟩ := Jvm.LawKit.callS X0 hx (y := (⟨"java/lang/String", "checkIndex", "(II)V"⟩ : MethodName)) hown (mvT hZ (own_wk hw 192 rfl)) (mvT hZ (own_wk hw 193 rfl)) (mvT hZ (own_wk hw 40 rfl)) (mvT hZ (own_wk hw 194 rfl)) (by decide) (backOf (W := 0) (rm39 l Z ag hw [] p1 nb gf h0 n0 Z0 h1 h2 O_ S_gf rv_gf) hZ (own_wk hw 194 rfl) (own_wk hw 40 rfl) (by decide) (by decide)) (g := (mkF m 3 #[.val (.ref a0), .val (.int p1)] [(.int nb), (.int p1)])) rfl (by rw [hml]; rfl) (argsL := [(.int p1), (.int nb)]) (rest := []) (lenOf pd_10 rfl) rfl (by show 2 * 0 + _ ≤ _; exact Nat.le_of_eq rfl) (hb hby d38_3) (fun _ _ => ⟨rfl, e0, (by decide : 0 + 0 ≤ _), (by decide : 0 + 0 ≤ _)⟩)
  dsimp only [Pt.U, Pt.locs, Pt.cells, Pt.slots] at X213 l213 y213 z213 st213 hQ213
  subst l213 y213 z213
  obtain ⟨rfl, N213q, e213⟩ := hQ213
  have N213 := Fr.app N0 N213q
  obtain ⟨cl214, Ar214, q214, S214, M214, H214, G214⟩ := id V_a0
  have hin214 : ¬ (p1 < 0 ∨ cl214.slots.size ≤ (p1).toNatClampNeg) := inb_of S214 ⟨h1, h2⟩
  have hat214 : cl214.slots[(p1).toNatClampNeg]? = some (.int u) := Has.at H214 hin214 hu
  have ld214 := X213.baloadBytes hx (j := p1) (v := (.int u)) (by rw [e213]; exact Ar214.1) (State.isArrayOf_alike hZ.alike Ar214.2.1) Ar214.2.2 hin214 hat214 (g := (mkF m 8 #[.val (.ref a0), .val (.int p1)] [(.int p1), (.ref a0)])) rfl rfl (hb hby d38_8)
  obtain ⟨fs, hr, hrun, hended, hW, hsame⟩ := X213.leave (v := some (.int (nar .char ((u &&& (255 : Int32)).toUInt32.toUInt16.toUInt32.toInt32)))) (fun h => by rw [Bd.returns] at h; cases h)
  refine ⟨_, _, pre0 _ ?_, hrun, hended, _, _, rfl, ?_, ⟨_, rfl⟩, hW, hsame.mono (by decide) (by decide)⟩
  · show own_S p e below s₁ (mkF m 0 #[.val (.ref a0), .val (.int p1)] []) _
    refine XS.iloadN X0.here hx rfl (hb hby d38_0) rfl (XS.aloadN X0.here hx rfl (hb hby d38_1) rfl rfl (ld212 _ ?_))
    rw [len_of S212 M212]
    show own_S p e below s₁ (mkF m 3 #[.val (.ref a0), .val (.int p1)] [(.int nb), (.int p1)]) _
    refine st213 _ (XS.aloadN X213.here hx rfl (hb hby d38_6) rfl rfl (XS.iloadN X213.here hx rfl (hb hby d38_7) rfl (ld214 _ (XS.sipush X213.here hx rfl (hb hby d38_9) (XS.iand X213.here hx rfl (hb hby d38_12) rfl (XS.i2c X213.here hx rfl (hb hby d38_13) rfl ?_))))))
    show own_S p e below T213 (mkF m 14 #[.val (.ref a0), .val (.int p1)] [(.int ((u &&& (255 : Int32)).toUInt32.toUInt16.toUInt32.toInt32))]) _
    exact retN X213 hx (t := .char) Bd.returns (by simp) (hb hby d38_14) hr
  · show Q38 Z a0 p1 kb nb bs u gf h0 n0 _ T213.heap _
    rw [e213]
    exact ⟨rfl, N213, rfl⟩
theorem ef_36 (m : MethodId) (a0 : Addr) (p1 : Int32) : entryFrame m #[(.ref a0), (.int p1)] 2 = mkF m 0 #[.val (.ref a0), .val (.int p1)] [] := by first | (simp [entryFrame, mkF, argsToLocals, Value.category]; done) | rfl
abbrev own_d36 (p : Nat) (i : Instr) (n : Nat) : Prop := decode jdk_42_method_56_code p = .ok (i, n)
theorem d36_0 : own_d36 0 (.aload_n 0) 1 := by decide +kernel
theorem d36_1 : own_d36 1 (.invokevirtual 492) 3 := by decide +kernel
theorem d36_4 : own_d36 4 (.ifCond .eq 12) 3 := by decide +kernel
theorem d36_7 : own_d36 7 (.aload_n 0) 1 := by decide +kernel
theorem d36_8 : own_d36 8 (.getfield 9) 3 := by decide +kernel
theorem d36_11 : own_d36 11 (.iload_n 1) 1 := by decide +kernel
theorem pd_16 : parseMethodDescriptor "([BI)C" = some ⟨[(.array .byte), .int], some .char⟩ := by decide +kernel
theorem d36_12 : own_d36 12 (.invokestatic 495) 3 := by decide +kernel
theorem d36_15 : own_d36 15 .ireturn 1 := by decide +kernel
def Q36 (Z : State) (a0 : Addr) (p1 : Int32) (b : Addr) (kb : ClassId) (nb : Int32) (bs : List Value) (u cs : Int32) (gf : Value) (h0 : Heap) (n0 : Nat) (v : Option Value) (h : Heap) (L : List Loc) : Prop := v = some (.int (nar .char (nar .char ((u &&& (255 : Int32)).toUInt32.toUInt16.toUInt32.toInt32)))) ∧ Fr n0 L ∧ h = h0
set_option maxRecDepth 65536 in
set_option maxHeartbeats 40000000 in
theorem rm36 (l : Launch) (Z : State) (ag : Array Value) (hw : ∀ d ∈ tables_1, d.before ag Z = true) (ws : List Jvm.Cond) (a0 : Addr) (p1 : Int32) (b : Addr) (kb : ClassId) (nb : Int32) (bs : List Value) (u cs : Int32) (gf : Value) (h0 : Heap) (n0 : Nat) (Z0 : n0 ≤ h0.size) (E_a0 : Exa Z h0 a0 "java/lang/String") (F_value_a0 : Fld Z h0 a0 "java/lang/String" "value" "[B" (.ref b)) (F_coder_a0 : Fld Z h0 a0 "java/lang/String" "coder" "B" (.int (0 : Int32))) (V_b : Arv Z h0 b kb .byte nb bs (.int (0 : Int32))) (h1 : ¬ p1 < (0 : Int32)) (h2 : p1 < nb) (hu : bs.getD (p1).toNatClampNeg (.int (0 : Int32)) = .int u) (O_ : Old Z n0 h0) (S_cs : Sta Z Z.heap "java/lang/String" "COMPACT_STRINGS" "Z" (.int cs)) (hcs : ¬ cs = (0 : Int32)) (S_gf : Sta Z Z.heap "jdk/internal/util/Preconditions" "SIOOBE_FORMATTER" "Ljava/util/function/BiFunction;" gf) (rv_gf : gf.isRef = true) :
    MetFree l (⟨"java/lang/String", "charAt", "(I)C"⟩ : MethodName) (head1 (Jvm.Cond.code (⟨"java/lang/String", "charAt", "(I)C"⟩ : MethodName) jdk_42_method_56_code 2 (some .char) :: ws) ({ frames := 3, cells := 0, slots := 0, locals := 40 } : Room)) (fun a U => a = #[(.ref a0), (.int p1)] ∧ Z.Warmed39 U.vm ∧ U.heap = h0) (fun _ _ _ _ _ => True) (fun _ U o U' => ∃ v L, o = .returned v ∧ Q36 Z a0 p1 b kb nb bs u cs gf h0 n0 v U'.heap L ∧ FrameEnd U o U' L ({ frames := 3, cells := 0, slots := 0, locals := 40 } : Room).cells ({ frames := 3, cells := 0, slots := 0, locals := 40 } : Room).slots) := by
  refine MetFree.of_bodySF (plainFor_of_name pn_5) hisR ?_
  intro p e s m args below meth c s₁ Bd hml0 hP hK
  obtain ⟨rfl, hZ, hh⟩ := hP
  have hx := Bd.exec
  have hby := Bd.bytes
  have hml : c.maxLocals = 2 := hml0
  have hown : s.vm.findClass "java/lang/String" = some m.cls := findClass_of_methodNamed Bd.named
  have hnm := (name_of_methodNamed Bd.named Bd.method).1
  have X0 : Stand p l e ({ frames := 3, cells := 0, slots := 0, locals := 40 } : Room) s m #[(.ref a0), (.int p1)] below meth c s₁ [] 0 0 := Stand.of_body Bd
  have e0 : s₁.heap = h0 := by rw [← hh, Bd.state]; rfl
  have N0 := Fr.nil n0
  have pre0 : ∀ t, Steps p.tables e below (s₁.setTop (mkF m 0 #[.val (.ref a0), .val (.int p1)] [])) t → Steps p.tables e below (s₁.setTop (entryFrame m #[(.ref a0), (.int p1)] 2)) t := fun t k => castTop (ef_36 m a0 p1) k
  obtain ⟨cq215, kq215, q215a, q215b, q215c⟩ := isOf hZ e0 E_a0
  obtain ⟨_, _, ⟨T215, L215, k215, n215⟩, -, X215, ⟨Lc215, hQ215, l215, y215, z215⟩, st215⟩ := X0.virtualBack hx (y := (⟨"java/lang/String", "isLatin1", "()Z"⟩ : MethodName)) (z := (⟨"java/lang/String", "isLatin1", "()Z"⟩ : MethodName)) hown (mvT hZ (own_wk hw 184 rfl)) (mvT hZ (own_wk hw 185 rfl)) (notFace_of_selects (args := #[]) (mvT hZ (own_wk hw 187 rfl))) (mvT hZ (own_wk hw 187 rfl)) (mvT hZ (own_wk hw 186 rfl)) (by decide) (backOf (W := 0) (rm37_0 l Z ag hw [] a0 cs h0 n0 Z0 F_coder_a0 O_ S_cs hcs) hZ (own_wk hw 188 rfl) (own_wk hw 40 rfl) (by decide) (by decide)) q215a q215c (g := (mkF m 1 #[.val (.ref a0), .val (.int p1)] [(.ref a0)])) rfl (by rw [hml]; rfl) (Steps.refl _) (argsL := []) (rest := []) (lenOf pd_3 rfl) rfl (by show 2 * 0 + _ ≤ _; exact Nat.le_of_eq rfl) (hb hby d36_1) (fun _ _ => ⟨rfl, e0, (by decide : 0 + 0 ≤ _), (by decide : 0 + 0 ≤ _)⟩)
  dsimp only [Pt.U, Pt.locs, Pt.cells, Pt.slots] at X215 l215 y215 z215 st215 hQ215
  subst l215 y215 z215
  obtain ⟨rfl, N215q, e215⟩ := hQ215
  have N215 := Fr.app N0 N215q
  obtain ⟨T216, X216, e216, st216⟩ := getF X215 hx hZ hown (host := "") (Or.inl (own_wk hw 155 rfl)) Via.refl e215 F_value_a0 (g := (mkF m 8 #[.val (.ref a0), .val (.int p1)] [(.ref a0)])) rfl rfl (hb hby d36_8)
  obtain ⟨_, _, ⟨T217, L217, k217, n217⟩, -, X217, ⟨Lc217, hQ217, l217, y217, z217⟩, st217⟩ := Jvm.LawKit.callS X216 hx (y := (⟨"java/lang/StringLatin1", "charAt", "([BI)C"⟩ : MethodName)) hown (mvT hZ (own_wk hw 189 rfl)) (mvT hZ (own_wk hw 190 rfl)) (mvT hZ (own_wk hw 130 rfl)) (mvT hZ (own_wk hw 191 rfl)) (by decide) (backOf (W := 0) (rm38 l Z ag hw [] b p1 kb nb bs u gf h0 n0 Z0 V_b h1 h2 hu O_ S_gf rv_gf) hZ (own_wk hw 191 rfl) (own_wk hw 130 rfl) (by decide) (by decide)) (g := (mkF m 12 #[.val (.ref a0), .val (.int p1)] [(.int p1), (.ref b)])) rfl (by rw [hml]; rfl) (argsL := [(.ref b), (.int p1)]) (rest := []) (lenOf pd_16 rfl) rfl (by show 2 * 0 + _ ≤ _; exact Nat.le_of_eq rfl) (hb hby d36_12) (fun _ _ => ⟨rfl, e216, (by decide : 0 + 0 ≤ _), (by decide : 0 + 0 ≤ _)⟩)
  dsimp only [Pt.U, Pt.locs, Pt.cells, Pt.slots] at X217 l217 y217 z217 st217 hQ217
  subst l217 y217 z217
  obtain ⟨rfl, N217q, e217⟩ := hQ217
  have N217 := Fr.app N215 N217q
  obtain ⟨fs, hr, hrun, hended, hW, hsame⟩ := X217.leave (v := some (.int (nar .char (nar .char ((u &&& (255 : Int32)).toUInt32.toUInt16.toUInt32.toInt32))))) (fun h => by rw [Bd.returns] at h; cases h)
  refine ⟨_, _, pre0 _ ?_, hrun, hended, _, _, rfl, ?_, ⟨_, rfl⟩, hW, hsame.mono (by decide) (by decide)⟩
  · show own_S p e below s₁ (mkF m 0 #[.val (.ref a0), .val (.int p1)] []) _
    refine XS.aloadN X0.here hx rfl (hb hby d36_0) rfl rfl (st215.trans (XS.ifNo X215.here hx rfl (hb hby d36_4) rfl ((if0 _ _).trans (feq (by decide : ¬ ((1 : Int32) = (0 : Int32)))).1) (XS.aloadN X215.here hx rfl (hb hby d36_7) rfl rfl (st216 _ (XS.iloadN X216.here hx rfl (hb hby d36_11) rfl (st217 _ ?_))))))
    show own_S p e below T217 (mkF m 15 #[.val (.ref a0), .val (.int p1)] [(.int (nar .char ((u &&& (255 : Int32)).toUInt32.toUInt16.toUInt32.toInt32)))]) _
    exact retN X217 hx (t := .char) Bd.returns (by simp) (hb hby d36_15) hr
  · show Q36 Z a0 p1 b kb nb bs u cs gf h0 n0 _ T217.heap _
    rw [e217]
    exact ⟨rfl, N217, rfl⟩
theorem ef_35 (m : MethodId) (a0 : Addr) : entryFrame m #[(.ref a0)] 1 = mkF m 0 #[.val (.ref a0)] [] := by first | (simp [entryFrame, mkF, argsToLocals, Value.category]; done) | rfl
abbrev own_d35 (p : Nat) (i : Instr) (n : Nat) : Prop := decode jdk_42_method_152_code p = .ok (i, n)
theorem d35_0 : own_d35 0 (.getstatic 38) 3 := by decide +kernel
theorem d35_3 : own_d35 3 (.ifCond .eq 10) 3 := by decide +kernel
theorem d35_6 : own_d35 6 (.aload_n 0) 1 := by decide +kernel
theorem d35_7 : own_d35 7 (.getfield 15) 3 := by decide +kernel
theorem d35_10 : own_d35 10 (.goto 4) 3 := by decide +kernel
theorem d35_14 : own_d35 14 .ireturn 1 := by decide +kernel
def Q35 (Z : State) (a0 : Addr) (cd cs : Int32) (h0 : Heap) (n0 : Nat) (v : Option Value) (h : Heap) (L : List Loc) : Prop := v = some (.int (nar .byte cd)) ∧ Fr n0 L ∧ h = h0
set_option maxRecDepth 65536 in
set_option maxHeartbeats 40000000 in
theorem rm35 (l : Launch) (Z : State) (ag : Array Value) (hw : ∀ d ∈ tables_1, d.before ag Z = true) (ws : List Jvm.Cond) (a0 : Addr) (cd cs : Int32) (h0 : Heap) (n0 : Nat) (Z0 : n0 ≤ h0.size) (F_coder_a0 : Fld Z h0 a0 "java/lang/String" "coder" "B" (.int cd)) (O_ : Old Z n0 h0) (S_cs : Sta Z Z.heap "java/lang/String" "COMPACT_STRINGS" "Z" (.int cs)) (hcs : ¬ cs = (0 : Int32)) :
    MetFree l (⟨"java/lang/String", "coder", "()B"⟩ : MethodName) (head1 (Jvm.Cond.code (⟨"java/lang/String", "coder", "()B"⟩ : MethodName) jdk_42_method_152_code 1 (some .byte) :: ws) ({ frames := 0, cells := 0, slots := 0, locals := 0 } : Room)) (fun a U => a = #[(.ref a0)] ∧ Z.Warmed39 U.vm ∧ U.heap = h0) (fun _ _ _ _ _ => True) (fun _ U o U' => ∃ v L, o = .returned v ∧ Q35 Z a0 cd cs h0 n0 v U'.heap L ∧ FrameEnd U o U' L ({ frames := 0, cells := 0, slots := 0, locals := 0 } : Room).cells ({ frames := 0, cells := 0, slots := 0, locals := 0 } : Room).slots) := by
  refine MetFree.of_bodySF (plainFor_of_name pn_5) hisR ?_
  intro p e s m args below meth c s₁ Bd hml0 hP hK
  obtain ⟨rfl, hZ, hh⟩ := hP
  have hx := Bd.exec
  have hby := Bd.bytes
  have hml : c.maxLocals = 1 := hml0
  have hown : s.vm.findClass "java/lang/String" = some m.cls := findClass_of_methodNamed Bd.named
  have hnm := (name_of_methodNamed Bd.named Bd.method).1
  have X0 : Stand p l e ({ frames := 0, cells := 0, slots := 0, locals := 0 } : Room) s m #[(.ref a0)] below meth c s₁ [] 0 0 := Stand.of_body Bd
  have e0 : s₁.heap = h0 := by rw [← hh, Bd.state]; rfl
  have N0 := Fr.nil n0
  have pre0 : ∀ t, Steps p.tables e below (s₁.setTop (mkF m 0 #[.val (.ref a0)] [])) t → Steps p.tables e below (s₁.setTop (entryFrame m #[(.ref a0)] 1)) t := fun t k => castTop (ef_35 m a0) k
  obtain ⟨T218, X218, e218, st218⟩ := getS2 X0 hx hZ hown (host := "") (Or.inl (own_wk hw 142 rfl)) Via.refl e0 (Sta.ext O_.2 S_cs) (g := (mkF m 0 #[.val (.ref a0)] [])) rfl (hb hby d35_0)
  obtain ⟨T219, X219, e219, st219⟩ := getF X218 hx hZ hown (host := "") (Or.inl (own_wk hw 153 rfl)) Via.refl e218 F_coder_a0 (g := (mkF m 7 #[.val (.ref a0)] [(.ref a0)])) rfl rfl (hb hby d35_7)
  obtain ⟨fs, hr, hrun, hended, hW, hsame⟩ := X219.leave (v := some (.int (nar .byte cd))) (fun h => by rw [Bd.returns] at h; cases h)
  refine ⟨_, _, pre0 _ ?_, hrun, hended, _, _, rfl, ?_, ⟨_, rfl⟩, hW, hsame.mono (by decide) (by decide)⟩
  · show own_S p e below s₁ (mkF m 0 #[.val (.ref a0)] []) _
    refine st218 _ (XS.ifNo X218.here hx rfl (hb hby d35_3) rfl ((if0 _ _).trans (feq (show ¬ (cs = (0 : Int32)) from hcs)).1) (XS.aloadN X218.here hx rfl (hb hby d35_6) rfl rfl (st219 _ (XS.goto X219.here hx rfl (pc0 := 10) (pc' := 14) rfl (hb hby d35_10) (by decide) (by decide) ?_))))
    show own_S p e below T219 (mkF m 14 #[.val (.ref a0)] [(.int cd)]) _
    exact retN X219 hx (t := .byte) Bd.returns (by simp) (hb hby d35_14) hr
  · show Q35 Z a0 cd cs h0 n0 _ T219.heap _
    rw [e219]
    exact ⟨rfl, N0, rfl⟩
theorem ef_34 (m : MethodId) (a0 : Addr) : entryFrame m #[(.ref a0)] 1 = mkF m 0 #[.val (.ref a0)] [] := by first | (simp [entryFrame, mkF, argsToLocals, Value.category]; done) | rfl
abbrev own_d34 (p : Nat) (i : Instr) (n : Nat) : Prop := decode jdk_42_method_54_code p = .ok (i, n)
theorem d34_0 : own_d34 0 (.aload_n 0) 1 := by decide +kernel
theorem d34_1 : own_d34 1 (.getfield 9) 3 := by decide +kernel
theorem d34_4 : own_d34 4 .arraylength 1 := by decide +kernel
theorem d34_5 : own_d34 5 (.aload_n 0) 1 := by decide +kernel
theorem pd_0 : parseMethodDescriptor "()B" = some ⟨[], some .byte⟩ := by decide +kernel
theorem d34_6 : own_d34 6 (.invokevirtual 335) 3 := by decide +kernel
theorem d34_9 : own_d34 9 .ishr 1 := by decide +kernel
theorem d34_10 : own_d34 10 .ireturn 1 := by decide +kernel
def Q34 (Z : State) (a0 b : Addr) (kb : ClassId) (nb : Int32) (bs : List Value) (cd cs : Int32) (h0 : Heap) (n0 : Nat) (v : Option Value) (h : Heap) (L : List Loc) : Prop := v = some (.int (nb >>> ((nar .byte cd) &&& 31))) ∧ Fr n0 L ∧ h = h0
set_option maxRecDepth 65536 in
set_option maxHeartbeats 40000000 in
theorem rm34 (l : Launch) (Z : State) (ag : Array Value) (hw : ∀ d ∈ tables_1, d.before ag Z = true) (ws : List Jvm.Cond) (a0 b : Addr) (kb : ClassId) (nb : Int32) (bs : List Value) (cd cs : Int32) (h0 : Heap) (n0 : Nat) (Z0 : n0 ≤ h0.size) (E_a0 : Exa Z h0 a0 "java/lang/String") (F_value_a0 : Fld Z h0 a0 "java/lang/String" "value" "[B" (.ref b)) (F_coder_a0 : Fld Z h0 a0 "java/lang/String" "coder" "B" (.int cd)) (V_b : Arv Z h0 b kb .byte nb bs (.int (0 : Int32))) (O_ : Old Z n0 h0) (S_cs : Sta Z Z.heap "java/lang/String" "COMPACT_STRINGS" "Z" (.int cs)) (hcs : ¬ cs = (0 : Int32)) :
    MetFree l (⟨"java/lang/String", "length", "()I"⟩ : MethodName) (head1 (Jvm.Cond.code (⟨"java/lang/String", "length", "()I"⟩ : MethodName) jdk_42_method_54_code 1 (some .int) :: ws) ({ frames := 1, cells := 0, slots := 0, locals := 13 } : Room)) (fun a U => a = #[(.ref a0)] ∧ Z.Warmed39 U.vm ∧ U.heap = h0) (fun _ _ _ _ _ => True) (fun _ U o U' => ∃ v L, o = .returned v ∧ Q34 Z a0 b kb nb bs cd cs h0 n0 v U'.heap L ∧ FrameEnd U o U' L ({ frames := 1, cells := 0, slots := 0, locals := 13 } : Room).cells ({ frames := 1, cells := 0, slots := 0, locals := 13 } : Room).slots) := by
  refine MetFree.of_bodySF (plainFor_of_name pn_5) hisR ?_
  intro p e s m args below meth c s₁ Bd hml0 hP hK
  obtain ⟨rfl, hZ, hh⟩ := hP
  have hx := Bd.exec
  have hby := Bd.bytes
  have hml : c.maxLocals = 1 := hml0
  have hown : s.vm.findClass "java/lang/String" = some m.cls := findClass_of_methodNamed Bd.named
  have hnm := (name_of_methodNamed Bd.named Bd.method).1
  have X0 : Stand p l e ({ frames := 1, cells := 0, slots := 0, locals := 13 } : Room) s m #[(.ref a0)] below meth c s₁ [] 0 0 := Stand.of_body Bd
  have e0 : s₁.heap = h0 := by rw [← hh, Bd.state]; rfl
  have N0 := Fr.nil n0
  have pre0 : ∀ t, Steps p.tables e below (s₁.setTop (mkF m 0 #[.val (.ref a0)] [])) t → Steps p.tables e below (s₁.setTop (entryFrame m #[(.ref a0)] 1)) t := fun t k => castTop (ef_34 m a0) k
  obtain ⟨T220, X220, e220, st220⟩ := getF X0 hx hZ hown (host := "") (Or.inl (own_wk hw 155 rfl)) Via.refl e0 F_value_a0 (g := (mkF m 1 #[.val (.ref a0)] [(.ref a0)])) rfl rfl (hb hby d34_1)
  obtain ⟨cl221, Ar221, -, S221, M221, -, -⟩ := id V_b
  have ld221 := X220.arraylength hx (by rw [e220]; exact Ar221.1) (State.isArrayOf_alike hZ.alike Ar221.2.1) (g := (mkF m 4 #[.val (.ref a0)] [(.ref b)])) rfl rfl (hb hby d34_4)
  obtain ⟨cq222, kq222, q222a, q222b, q222c⟩ := isOf hZ e220 E_a0
  obtain ⟨_, _, ⟨T222, L222, k222, n222⟩, -, X222, ⟨Lc222, hQ222, l222, y222, z222⟩, st222⟩ := X220.virtualBack hx (y := (⟨"java/lang/String", "coder", "()B"⟩ : MethodName)) (z := (⟨"java/lang/String", "coder", "()B"⟩ : MethodName)) hown (mvT hZ (own_wk hw 174 rfl)) (mvT hZ (own_wk hw 175 rfl)) (notFace_of_selects (args := #[]) (mvT hZ (own_wk hw 177 rfl))) (mvT hZ (own_wk hw 177 rfl)) (mvT hZ (own_wk hw 176 rfl)) (by decide) (backOf (W := 1) (rm35 l Z ag hw [] a0 cd cs h0 n0 Z0 F_coder_a0 O_ S_cs hcs) hZ (own_wk hw 178 rfl) (own_wk hw 40 rfl) (by decide) (by decide)) q222a q222c (g := (mkF m 6 #[.val (.ref a0)] [(.ref a0), (.int nb)])) rfl (by rw [hml]; rfl) (Steps.refl _) (argsL := []) (rest := [(.int nb)]) (lenOf pd_0 rfl) rfl (by show 2 * 0 + _ ≤ _; exact Nat.le_of_eq rfl) (hb hby d34_6) (fun _ _ => ⟨rfl, e220, (by decide : 0 + 0 ≤ _), (by decide : 0 + 0 ≤ _)⟩)
  dsimp only [Pt.U, Pt.locs, Pt.cells, Pt.slots] at X222 l222 y222 z222 st222 hQ222
  subst l222 y222 z222
  obtain ⟨rfl, N222q, e222⟩ := hQ222
  have N222 := Fr.app N0 N222q
  obtain ⟨fs, hr, hrun, hended, hW, hsame⟩ := X222.leave (v := some (.int (nb >>> ((nar .byte cd) &&& 31)))) (fun h => by rw [Bd.returns] at h; cases h)
  refine ⟨_, _, pre0 _ ?_, hrun, hended, _, _, rfl, ?_, ⟨_, rfl⟩, hW, hsame.mono (by decide) (by decide)⟩
  · show own_S p e below s₁ (mkF m 0 #[.val (.ref a0)] []) _
    refine XS.aloadN X0.here hx rfl (hb hby d34_0) rfl rfl (st220 _ (ld221 _ ?_))
    rw [len_of S221 M221]
    show own_S p e below T220 (mkF m 5 #[.val (.ref a0)] [(.int nb)]) _
    refine XS.aloadN X220.here hx rfl (hb hby d34_5) rfl rfl (st222.trans (XS.ishr X222.here hx rfl (hb hby d34_9) rfl ?_))
    show own_S p e below T222 (mkF m 10 #[.val (.ref a0)] [(.int (nb >>> ((nar .byte cd) &&& 31)))]) _
    exact retI X222 hx Bd.returns (hb hby d34_10) hr
  · show Q34 Z a0 b kb nb bs cd cs h0 n0 _ T222.heap _
    rw [e222]
    exact ⟨rfl, N222, rfl⟩
def own_F (Z : State) (h : Heap) (a0 a1 bd vb : Addr) (k1 kb : ClassId) (n : Int32) (sg : own_Sg) : Prop := Exa Z h a0 "com/example/needle_in_json/needleinjson/MaskedDigits" ∧ Fld Z h a0 "com/example/needle_in_json/needleinjson/MaskedDigits" "row" "I" (.int sg.1) ∧ Fld Z h a0 "com/example/needle_in_json/needleinjson/MaskedDigits" "escapeRead" "I" (.int sg.2.1) ∧ Fld Z h a0 "com/example/needle_in_json/needleinjson/MaskedDigits" "digitEscape" "Z" (.int sg.2.2.1) ∧ Fld Z h a0 "com/example/needle_in_json/needleinjson/MaskedDigits" "held" "Ljava/lang/StringBuilder;" (.ref bd) ∧ Exa Z h bd "java/lang/StringBuilder" ∧ Fld Z h bd "java/lang/AbstractStringBuilder" "value" "[B" (.ref vb) ∧ Fld Z h bd "java/lang/AbstractStringBuilder" "coder" "B" (.int (0 : Int32)) ∧ Fld Z h bd "java/lang/AbstractStringBuilder" "count" "I" (.int sg.2.2.2.1) ∧ Arv Z h vb kb .byte (16 : Int32) sg.2.2.2.2.2 (.int (0 : Int32)) ∧ Arv Z h a1 k1 .char n (sg.2.2.2.2.1.map Value.int) (.int (0 : Int32))
def own_Nn (a0 a1 bd vb : Addr) : Prop := a0 ≠ a1 ∧ a0 ≠ bd ∧ a0 ≠ vb ∧ a1 ≠ bd ∧ a1 ≠ vb ∧ bd ≠ vb
def own_G (n0 : Nat) (a0 a1 bd vb : Addr) : Prop := n0 ≤ a0 ∧ n0 ≤ a1 ∧ n0 ≤ bd ∧ n0 ≤ vb
def own_Kk (n : Int32) (sg : own_Sg) : Prop := (0 ≤ sg.2.2.2.1.toInt ∧ sg.2.2.2.1.toInt < 16) ∧ sg.2.2.2.2.2.length = 16 ∧ sg.2.2.2.2.1.length = n.toNatClampNeg
theorem own_mset (l : List Int32) (i : Nat) : (l.set i 57).map Value.int = (l.map Value.int).set i (.int (nar .char (57 : Int32))) := by rw [List.map_set]; rfl
theorem own_isD255 {c : Int32} (h : ¬ own_isD c = (0 : Int32)) : ¬ (255 : Int32) < c := fun q => h (by
  unfold own_isD
  by_cases a : c < (48 : Int32)
  · rw [if_pos a]
  · rw [if_neg a, if_pos (by rw [Int32.lt_iff_toInt_lt] at q ⊢; have e1 : (255 : Int32).toInt = 255 := rfl; have e2 : (57 : Int32).toInt = 57 := rfl; omega)])
theorem own_il {i n : Int32} {l : List Value} (h : ¬ i < 0 ∧ i < n) (q : l.length = n.toNatClampNeg) : i.toNatClampNeg < l.length := by
  rw [q]
  have h1 := h.1
  have h2 := h.2
  rw [Int32.lt_iff_toInt_lt] at h1 h2
  have z0 : (0 : Int32).toInt = 0 := rfl
  have e1 : i.toNatClampNeg = i.toInt.toNat := rfl
  have e2 : n.toNatClampNeg = n.toInt.toNat := rfl
  omega
theorem ef_21 (m : MethodId) (a0 : Addr) (a1 : Addr) (p2 : Int32) (p3 : Int32) : entryFrame m #[(.ref a0), (.ref a1), (.int p2), (.int p3)] 4 = mkF m 0 #[.val (.ref a0), .val (.ref a1), .val (.int p2), .val (.int p3)] [] := by first | (simp [entryFrame, mkF, argsToLocals, Value.category]; done) | rfl
abbrev own_d21 (p : Nat) (i : Instr) (n : Nat) : Prop := decode prog_32_method_10_code p = .ok (i, n)
theorem d21_0 : own_d21 0 (.iload_n 3) 1 := by decide +kernel
theorem d21_1 : own_d21 1 (.ifCond .eq 41) 3 := by decide +kernel
theorem d21_42 : own_d21 42 (.aload_n 0) 1 := by decide +kernel
theorem d21_43 : own_d21 43 (.iconst 0) 1 := by decide +kernel
theorem d21_44 : own_d21 44 (.putfield 46) 3 := by decide +kernel
theorem d21_47 : own_d21 47 .return_ 1 := by decide +kernel
theorem d21_4 : own_d21 4 (.aload_n 0) 1 := by decide +kernel
theorem d21_5 : own_d21 5 .dup 1 := by decide +kernel
theorem d21_6 : own_d21 6 (.getfield 46) 3 := by decide +kernel
theorem d21_9 : own_d21 9 (.iconst 1) 1 := by decide +kernel
theorem d21_10 : own_d21 10 .iadd 1 := by decide +kernel
theorem d21_11 : own_d21 11 (.putfield 46) 3 := by decide +kernel
theorem d21_14 : own_d21 14 (.aload_n 0) 1 := by decide +kernel
theorem d21_15 : own_d21 15 (.getfield 46) 3 := by decide +kernel
theorem d21_18 : own_d21 18 (.bipush 19) 2 := by decide +kernel
theorem d21_20 : own_d21 20 (.if_icmp .le 27) 3 := by decide +kernel
theorem d21_23 : own_d21 23 (.aload_n 0) 1 := by decide +kernel
theorem d21_24 : own_d21 24 (.getfield 10) 3 := by decide +kernel
theorem d21_27 : own_d21 27 (.aload_n 1) 1 := by decide +kernel
theorem d21_28 : own_d21 28 (.iload_n 2) 1 := by decide +kernel
theorem d21_29 : own_d21 29 .caload 1 := by decide +kernel
theorem pd_5 : parseMethodDescriptor "(C)Ljava/lang/StringBuilder;" = some ⟨[.char], some (.object "java/lang/StringBuilder")⟩ := by decide +kernel
theorem d21_30 : own_d21 30 (.invokevirtual 83) 3 := by decide +kernel
theorem d21_33 : own_d21 33 .pop 1 := by decide +kernel
theorem d21_34 : own_d21 34 (.aload_n 1) 1 := by decide +kernel
theorem d21_35 : own_d21 35 (.iload_n 2) 1 := by decide +kernel
theorem d21_36 : own_d21 36 (.bipush 57) 2 := by decide +kernel
theorem d21_38 : own_d21 38 .castore 1 := by decide +kernel
theorem d21_39 : own_d21 39 (.goto 8) 3 := by decide +kernel
def Q21 (Z : State) (a0 a1 : Addr) (p2 p3 : Int32) (bd vb : Addr) (k1 kb : ClassId) (n : Int32) (sg : own_Sg) (cs : Int32) (gf : Value) (h0 : Heap) (n0 : Nat) (v : Option Value) (h : Heap) (L : List Loc) : Prop := v = none ∧ Fr n0 L ∧ Keep h0 h [a0, a1, bd, vb] ∧ own_F Z h a0 a1 bd vb k1 kb n (own_count p2 p3 sg)
set_option maxRecDepth 65536 in
set_option maxHeartbeats 40000000 in
theorem rm21 (l : Launch) (Z : State) (ag : Array Value) (hw : ∀ d ∈ tables_1, d.before ag Z = true) (ws : List Jvm.Cond) (a0 a1 : Addr) (p2 p3 : Int32) (bd vb : Addr) (k1 kb : ClassId) (n : Int32) (sg : own_Sg) (cs : Int32) (gf : Value) (h0 : Heap) (n0 : Nat) (Z0 : n0 ≤ h0.size) (hF : own_F Z h0 a0 a1 bd vb k1 kb n sg) (hN : own_Nn a0 a1 bd vb) (hG : own_G n0 a0 a1 bd vb) (O_ : Old Z n0 h0) (S_cs : Sta Z Z.heap "java/lang/String" "COMPACT_STRINGS" "Z" (.int cs)) (hcs : ¬ cs = (0 : Int32)) (S_gf : Sta Z Z.heap "jdk/internal/util/Preconditions" "SIOOBE_FORMATTER" "Ljava/util/function/BiFunction;" gf) (rv_gf : gf.isRef = true) (hi : ¬ p2 < 0 ∧ p2 < n) (hKk : own_Kk n sg) (hD : ¬ p3 = (0 : Int32) → ¬ own_isD (own_at sg.2.2.2.2.1 p2) = (0 : Int32)) :
    MetFree l (⟨"com/example/needle_in_json/needleinjson/MaskedDigits", "count", "([CIZ)V"⟩ : MethodName) (head1 (Jvm.Cond.code (⟨"com/example/needle_in_json/needleinjson/MaskedDigits", "count", "([CIZ)V"⟩ : MethodName) prog_32_method_10_code 4 none :: ws) ({ frames := 3, cells := 0, slots := 0, locals := 40 } : Room)) (fun a U => a = #[(.ref a0), (.ref a1), (.int p2), (.int p3)] ∧ Z.Warmed39 U.vm ∧ U.heap = h0) (fun _ _ _ _ _ => True) (fun _ U o U' => ∃ v L, o = .returned v ∧ Q21 Z a0 a1 p2 p3 bd vb k1 kb n sg cs gf h0 n0 v U'.heap L ∧ FrameEnd U o U' L ({ frames := 3, cells := 0, slots := 0, locals := 40 } : Room).cells ({ frames := 3, cells := 0, slots := 0, locals := 40 } : Room).slots) := by
  refine MetFree.of_bodySF (plainFor_of_name pn_0) hisR ?_
  intro p e s m args below meth c s₁ Bd hml0 hP hK
  obtain ⟨rfl, hZ, hh⟩ := hP
  have hx := Bd.exec
  have hby := Bd.bytes
  have hml : c.maxLocals = 4 := hml0
  have hown : s.vm.findClass "com/example/needle_in_json/needleinjson/MaskedDigits" = some m.cls := findClass_of_methodNamed Bd.named
  have hnm := (name_of_methodNamed Bd.named Bd.method).1
  have X0 : Stand p l e ({ frames := 3, cells := 0, slots := 0, locals := 40 } : Room) s m #[(.ref a0), (.ref a1), (.int p2), (.int p3)] below meth c s₁ [] 0 0 := Stand.of_body Bd
  have e0 : s₁.heap = h0 := by rw [← hh, Bd.state]; rfl
  have N0 := Fr.nil n0
  have pre0 : ∀ t, Steps p.tables e below (s₁.setTop (mkF m 0 #[.val (.ref a0), .val (.ref a1), .val (.int p2), .val (.int p3)] [])) t → Steps p.tables e below (s₁.setTop (entryFrame m #[(.ref a0), (.ref a1), (.int p2), (.int p3)] 4)) t := fun t k => castTop (ef_21 m a0 a1 p2 p3) k
  obtain ⟨E_a0, F_row, F_er, F_de, F_h, E_bd, F_v, F_c, F_n, V_vb, V_a1⟩ := id hF
  obtain ⟨ne_a0_a1, ne_a0_bd, ne_a0_vb, ne_a1_bd, ne_a1_vb, ne_bd_vb⟩ := id hN
  obtain ⟨ge_a0, ge_a1, ge_bd, ge_vb⟩ := id hG
  obtain ⟨hct, hlb, hlc⟩ := id hKk
  by_cases hc223 : p3 = (0 : Int32)
  · obtain ⟨T224, h224, X224, e224, W224, st224⟩ := putF X0 hx hZ hown (host := "") (Or.inl (own_wk hw 55 rfl)) Via.refl e0 F_row E_a0 (Or.inl (own_wk hw 56 rfl)) (own_wk hw 18 rfl) (ty := .int) (by decide) rfl rfl (g := (mkF m 44 #[.val (.ref a0), .val (.ref a1), .val (.int p2), .val (.int p3)] [.int 0, (.ref a0)])) rfl rfl (hb hby d21_44)
    have Fw224 := F_row.same W224
    have x225 := E_a0.wr W224
    have x226 := F_er.other W224 (Or.inr (slot_ne (Or.inl (own_wk hw 49 rfl)) (Or.inl (own_wk hw 56 rfl)) (by decide) (t := .int) (t' := .int) (by decide) (by decide)))
    have x227 := F_de.other W224 (Or.inr (slot_ne (Or.inl (own_wk hw 97 rfl)) (Or.inl (own_wk hw 56 rfl)) (by decide) (t := .boolean) (t' := .int) (by decide) (by decide)))
    have x228 := F_h.other W224 (Or.inr (slot_ne (Or.inr (own_wk hw 47 rfl)) (Or.inl (own_wk hw 56 rfl)) (by decide) (t := (.object "java/lang/StringBuilder")) (t' := .int) (by decide) (by decide)))
    have x229 := E_bd.wr W224
    have x230 := F_v.other W224 (Or.inl (Ne.symm ne_a0_bd))
    have x231 := F_c.other W224 (Or.inl (Ne.symm ne_a0_bd))
    have x232 := F_n.other W224 (Or.inl (Ne.symm ne_a0_bd))
    have x233 := V_vb.other W224 (Ne.symm ne_a0_vb)
    have x234 := V_a1.other W224 (Ne.symm ne_a0_a1)
    have x235 := O_.wr W224 ge_a0
    have sz236 : n0 ≤ h224.size := Nat.le_trans Z0 (Keep.of_wr W224).1
    have kp237 : Keep h0 h224 [a0, a1, bd, vb] := (Keep.refl h0 [a0, a1, bd, vb]).wr W224 (Or.inl (List.mem_of_getElem? (i := 0) rfl))
    have N224 := Fr.snoc X224 N0 ge_a0
    obtain ⟨fs, hr, hrun, hended, hW, hsame⟩ := X224.leave (v := none) (fun _ => rfl)
    refine ⟨_, _, pre0 _ ?_, hrun, hended, _, _, rfl, ?_, ⟨_, rfl⟩, hW, hsame.mono (by decide) (by decide)⟩
    · show own_S p e below s₁ (mkF m 0 #[.val (.ref a0), .val (.ref a1), .val (.int p2), .val (.int p3)] []) _
      refine XS.iloadN X0.here hx rfl (hb hby d21_0) rfl (XS.ifYes X0.here hx rfl (pc0 := 1) (pc' := 42) rfl (hb hby d21_1) rfl ((if0 _ _).trans (teq hc223).1) (by decide) (by decide) (XS.aloadN X0.here hx rfl (hb hby d21_42) rfl rfl (XS.iconst X0.here hx rfl (hb hby d21_43) (st224 _ ?_))))
      show own_S p e below T224 (mkF m 47 #[.val (.ref a0), .val (.ref a1), .val (.int p2), .val (.int p3)] []) _
      exact X224.returnOut hx Bd.returns (hb hby d21_47) hr
    · show Q21 Z a0 a1 p2 p3 bd vb k1 kb n sg cs gf h0 n0 _ T224.heap _
      rw [e224]
      refine ⟨rfl, N224, kp237, ?_⟩
      rw [show own_count p2 p3 sg = ((0 : Int32), sg.2) from if_pos hc223]
      exact ⟨x225, Fw224, x226, x227, x228, x229, x230, x231, x232, x233, x234⟩
  · obtain ⟨T238, X238, e238, st238⟩ := getF X0 hx hZ hown (host := "") (Or.inl (own_wk hw 55 rfl)) Via.refl e0 F_row (g := (mkF m 6 #[.val (.ref a0), .val (.ref a1), .val (.int p2), .val (.int p3)] [(.ref a0), (.ref a0)])) rfl rfl (hb hby d21_6)
    obtain ⟨T239, h239, X239, e239, W239, st239⟩ := putF X238 hx hZ hown (host := "") (Or.inl (own_wk hw 55 rfl)) Via.refl e238 F_row E_a0 (Or.inl (own_wk hw 56 rfl)) (own_wk hw 18 rfl) (ty := .int) (by decide) rfl rfl (g := (mkF m 11 #[.val (.ref a0), .val (.ref a1), .val (.int p2), .val (.int p3)] [(.int (sg.1 + (1 : Int32))), (.ref a0)])) rfl rfl (hb hby d21_11)
    have Fw239 := F_row.same W239
    have x240 := E_a0.wr W239
    have x241 := F_er.other W239 (Or.inr (slot_ne (Or.inl (own_wk hw 49 rfl)) (Or.inl (own_wk hw 56 rfl)) (by decide) (t := .int) (t' := .int) (by decide) (by decide)))
    have x242 := F_de.other W239 (Or.inr (slot_ne (Or.inl (own_wk hw 97 rfl)) (Or.inl (own_wk hw 56 rfl)) (by decide) (t := .boolean) (t' := .int) (by decide) (by decide)))
    have x243 := F_h.other W239 (Or.inr (slot_ne (Or.inr (own_wk hw 47 rfl)) (Or.inl (own_wk hw 56 rfl)) (by decide) (t := (.object "java/lang/StringBuilder")) (t' := .int) (by decide) (by decide)))
    have x244 := E_bd.wr W239
    have x245 := F_v.other W239 (Or.inl (Ne.symm ne_a0_bd))
    have x246 := F_c.other W239 (Or.inl (Ne.symm ne_a0_bd))
    have x247 := F_n.other W239 (Or.inl (Ne.symm ne_a0_bd))
    have x248 := V_vb.other W239 (Ne.symm ne_a0_vb)
    have x249 := V_a1.other W239 (Ne.symm ne_a0_a1)
    have x250 := O_.wr W239 ge_a0
    have sz251 : n0 ≤ h239.size := Nat.le_trans Z0 (Keep.of_wr W239).1
    have kp252 : Keep h0 h239 [a0, a1, bd, vb] := (Keep.refl h0 [a0, a1, bd, vb]).wr W239 (Or.inl (List.mem_of_getElem? (i := 0) rfl))
    have N239 := Fr.snoc X239 N0 ge_a0
    obtain ⟨T253, X253, e253, st253⟩ := getF X239 hx hZ hown (host := "") (Or.inl (own_wk hw 55 rfl)) Via.refl e239 Fw239 (g := (mkF m 15 #[.val (.ref a0), .val (.ref a1), .val (.int p2), .val (.int p3)] [(.ref a0)])) rfl rfl (hb hby d21_15)
    have cp255 : ∀ target, own_S p e below T253 (mkF m 20 #[.val (.ref a0), .val (.ref a1), .val (.int p2), .val (.int p3)] [.int 19, (.int (sg.1 + (1 : Int32)))]) target → own_S p e below s₁ (mkF m 0 #[.val (.ref a0), .val (.ref a1), .val (.int p2), .val (.int p3)] []) target := by
      intro target kt
      show own_S p e below s₁ (mkF m 0 #[.val (.ref a0), .val (.ref a1), .val (.int p2), .val (.int p3)] []) _
      refine XS.iloadN X0.here hx rfl (hb hby d21_0) rfl (XS.ifNo X0.here hx rfl (hb hby d21_1) rfl ((if0 _ _).trans (feq hc223).1) (XS.aloadN X0.here hx rfl (hb hby d21_4) rfl rfl (XS.dup X0.here hx rfl (hb hby d21_5) rfl rfl (st238 _ (XS.iconst X238.here hx rfl (hb hby d21_9) (XS.iadd X238.here hx rfl (hb hby d21_10) rfl (st239 _ (XS.aloadN X239.here hx rfl (hb hby d21_14) rfl rfl (st253 _ ?_)))))))))
      refine XS.bipush X253.here hx rfl (hb hby d21_18) ?_
      exact kt
    by_cases hc254 : (19 : Int32) < (sg.1 + (1 : Int32))
    · obtain ⟨T256, X256, e256, st256⟩ := getF X253 hx hZ hown (host := "") (Or.inl (own_wk hw 46 rfl)) Via.refl e253 x243 (g := (mkF m 24 #[.val (.ref a0), .val (.ref a1), .val (.int p2), .val (.int p3)] [(.ref a0)])) rfl rfl (hb hby d21_24)
      obtain ⟨cl257, Ar257, q257, S257, M257, H257, G257⟩ := id x249
      have hin257 : ¬ (p2 < 0 ∨ cl257.slots.size ≤ (p2).toNatClampNeg) := inb_of S257 hi
      have hat257 : cl257.slots[(p2).toNatClampNeg]? = some (.int (own_at sg.2.2.2.2.1 p2)) := Has.at H257 hin257 (own_mg sg.2.2.2.2.1 p2)
      have ld257 := X256.caload hx (j := p2) (v := (.int (own_at sg.2.2.2.2.1 p2))) (by rw [e256]; exact Ar257.1) (State.isArrayOf_alike hZ.alike Ar257.2.1) Ar257.2.2 hin257 hat257 (g := (mkF m 29 #[.val (.ref a0), .val (.ref a1), .val (.int p2), .val (.int p3)] [(.int p2), (.ref a1), (.ref bd)])) rfl rfl (hb hby d21_29)
      obtain ⟨cq258, kq258, q258a, q258b, q258c⟩ := isOf hZ e256 x244
      obtain ⟨_, _, ⟨T258, L258, k258, n258⟩, -, X258, ⟨Lc258, hQ258, l258, y258, z258⟩, st258⟩ := X256.virtualBack hx (y := (⟨"java/lang/StringBuilder", "append", "(C)Ljava/lang/StringBuilder;"⟩ : MethodName)) (z := (⟨"java/lang/StringBuilder", "append", "(C)Ljava/lang/StringBuilder;"⟩ : MethodName)) hown (mvT hZ (own_wk hw 109 rfl)) (mvT hZ (own_wk hw 110 rfl)) (notFace_of_selects (args := #[]) (mvT hZ (own_wk hw 112 rfl))) (mvT hZ (own_wk hw 112 rfl)) (mvT hZ (own_wk hw 111 rfl)) (by decide) (backOf (W := 0) (rm22 l Z ag hw [] bd (own_at sg.2.2.2.2.1 p2) vb sg.2.2.2.1 kb sg.2.2.2.2.2 cs h239 n0 sz251 x244 x245 x246 x247 x248 ge_bd ge_vb ne_bd_vb x250 S_cs hcs hct hlb (own_isD255 (hD hc223))) hZ (own_wk hw 113 rfl) (own_wk hw 28 rfl) (by decide) (by decide)) q258a q258c (g := (mkF m 30 #[.val (.ref a0), .val (.ref a1), .val (.int p2), .val (.int p3)] [(.int (own_at sg.2.2.2.2.1 p2)), (.ref bd)])) rfl (by rw [hml]; rfl) (Steps.refl _) (argsL := [(.int (own_at sg.2.2.2.2.1 p2))]) (rest := []) (lenOf pd_5 rfl) rfl (by show 2 * 0 + _ ≤ _; exact Nat.le_of_eq rfl) (hb hby d21_30) (fun _ _ => ⟨rfl, e256, (by decide : 0 + 0 ≤ _), (by decide : 0 + 0 ≤ _)⟩)
      dsimp only [Pt.U, Pt.locs, Pt.cells, Pt.slots] at X258 l258 y258 z258 st258 hQ258
      subst l258 y258 z258
      obtain ⟨rfl, N258q, K258, o258_0, o258_1, o258_2, o258_3⟩ := hQ258
      have N258 := Fr.app N239 N258q
      have x259 := x240.keep K258
      have x260 := x241.keep K258 (ninS ne_a0_bd (ninS ne_a0_vb nin0))
      have x261 := x242.keep K258 (ninS ne_a0_bd (ninS ne_a0_vb nin0))
      have x262 := x243.keep K258 (ninS ne_a0_bd (ninS ne_a0_vb nin0))
      have x263 := x244.keep K258
      have x264 := x249.keep K258 (ninS ne_a1_bd (ninS ne_a1_vb nin0))
      have x265 := x250.keep K258 (allS ge_bd (allS ge_vb all0))
      have x266 := Fw239.keep K258 (ninS ne_a0_bd (ninS ne_a0_vb nin0))
      have sz267 : n0 ≤ T258.heap.size := Nat.le_trans sz251 K258.1
      have kp268 : Keep h0 T258.heap [a0, a1, bd, vb] := kp252.trans K258 (allS (Or.inl (List.mem_of_getElem? (i := 2) rfl)) (allS (Or.inl (List.mem_of_getElem? (i := 3) rfl)) all0))
      obtain ⟨cl269, Ar269, q269, S269, M269, H269, G269⟩ := id x264
      have hin269 : ¬ (p2 < 0 ∨ cl269.slots.size ≤ (p2).toNatClampNeg) := inb_of S269 hi
      obtain ⟨T269, h269, X269, e269, W269, st269⟩ := stC X258 hx hZ rfl Ar269 (j := p2) hin269 (g := (mkF m 38 #[.val (.ref a0), .val (.ref a1), .val (.int p2), .val (.int p3)] [.int 57, (.int p2), (.ref a1)])) rfl rfl (hb hby d21_38)
      have V269 : Arv Z h269 a1 k1 .char n ((sg.2.2.2.2.1.map Value.int).set (p2).toNatClampNeg (.int (nar .char (57 : Int32)))) (.int (0 : Int32)) := Arv.set Ar269 q269 S269 M269 H269 G269 (fits_nar_char _) W269 (p2).toNatClampNeg rfl (own_il hi (by rw [List.length_map]; exact hlc))
      have x270 := x259.wr W269
      have x271 := x260.other W269 (Or.inl ne_a0_a1)
      have x272 := x261.other W269 (Or.inl ne_a0_a1)
      have x273 := x262.other W269 (Or.inl ne_a0_a1)
      have x274 := x263.wr W269
      have x275 := x265.wr W269 ge_a1
      have x276 := x266.other W269 (Or.inl ne_a0_a1)
      have x277 := o258_0.other W269 (Or.inl (Ne.symm ne_a1_bd))
      have x278 := o258_1.other W269 (Or.inl (Ne.symm ne_a1_bd))
      have x279 := o258_2.other W269 (Or.inl (Ne.symm ne_a1_bd))
      have x280 := o258_3.other W269 (Ne.symm ne_a1_vb)
      have sz281 : n0 ≤ h269.size := Nat.le_trans sz267 (Keep.of_wr W269).1
      have kp282 : Keep h0 h269 [a0, a1, bd, vb] := kp268.wr W269 (Or.inl (List.mem_of_getElem? (i := 1) rfl))
      have N269 := Fr.snoc X269 N258 ge_a1
      obtain ⟨fs, hr, hrun, hended, hW, hsame⟩ := X269.leave (v := none) (fun _ => rfl)
      refine ⟨_, _, pre0 _ ?_, hrun, hended, _, _, rfl, ?_, ⟨_, rfl⟩, hW, hsame.mono (by decide) (by decide)⟩
      · show own_S p e below s₁ (mkF m 0 #[.val (.ref a0), .val (.ref a1), .val (.int p2), .val (.int p3)] []) _
        refine cp255 _ (XS.icmpNo X253.here hx rfl (hb hby d21_20) rfl (tlt hc254).2.2.2 (XS.aloadN X253.here hx rfl (hb hby d21_23) rfl rfl (st256 _ (XS.aloadN X256.here hx rfl (hb hby d21_27) rfl rfl (XS.iloadN X256.here hx rfl (hb hby d21_28) rfl (ld257 _ (st258.trans (XS.pop X258.here hx rfl (hb hby d21_33) rfl rfl (XS.aloadN X258.here hx rfl (hb hby d21_34) rfl rfl ?_)))))))))
        refine XS.iloadN X258.here hx rfl (hb hby d21_35) rfl (XS.bipush X258.here hx rfl (hb hby d21_36) (st269 _ (XS.goto X269.here hx rfl (pc0 := 39) (pc' := 47) rfl (hb hby d21_39) (by decide) (by decide) ?_)))
        show own_S p e below T269 (mkF m 47 #[.val (.ref a0), .val (.ref a1), .val (.int p2), .val (.int p3)] []) _
        exact X269.returnOut hx Bd.returns (hb hby d21_47) hr
      · show Q21 Z a0 a1 p2 p3 bd vb k1 kb n sg cs gf h0 n0 _ T269.heap _
        rw [e269]
        have x283 : Arv Z h269 a1 k1 .char n ((sg.2.2.2.2.1.set p2.toNatClampNeg 57).map Value.int) (.int (0 : Int32)) := by rw [own_mset]; exact V269
        refine ⟨rfl, N269, kp282, ?_⟩
        rw [show own_count p2 p3 sg = (sg.1 + (1 : Int32), sg.2.1, sg.2.2.1, sg.2.2.2.1 + (1 : Int32), sg.2.2.2.2.1.set p2.toNatClampNeg 57, sg.2.2.2.2.2.set sg.2.2.2.1.toNatClampNeg (.int (nar .byte ((own_at sg.2.2.2.2.1 p2).toInt8.toInt32)))) from (if_neg hc223).trans (if_pos hc254)]
        exact ⟨x270, x276, x271, x272, x273, x274, x277, x278, x279, x280, x283⟩
    · obtain ⟨fs, hr, hrun, hended, hW, hsame⟩ := X253.leave (v := none) (fun _ => rfl)
      refine ⟨_, _, pre0 _ ?_, hrun, hended, _, _, rfl, ?_, ⟨_, rfl⟩, hW, hsame.mono (by decide) (by decide)⟩
      · show own_S p e below s₁ (mkF m 0 #[.val (.ref a0), .val (.ref a1), .val (.int p2), .val (.int p3)] []) _
        refine cp255 _ (XS.icmpYes X253.here hx rfl (pc0 := 20) (pc' := 47) rfl (hb hby d21_20) rfl (flt hc254).2.2.2 (by decide) (by decide) ?_)
        show own_S p e below T253 (mkF m 47 #[.val (.ref a0), .val (.ref a1), .val (.int p2), .val (.int p3)] []) _
        exact X253.returnOut hx Bd.returns (hb hby d21_47) hr
      · show Q21 Z a0 a1 p2 p3 bd vb k1 kb n sg cs gf h0 n0 _ T253.heap _
        rw [e253]
        refine ⟨rfl, N239, kp252, ?_⟩
        rw [show own_count p2 p3 sg = (sg.1 + (1 : Int32), sg.2) from (if_neg hc223).trans (if_neg hc254)]
        exact ⟨x240, Fw239, x241, x242, x243, x244, x245, x246, x247, x248, x249⟩
theorem own_ug (er : Int32) : [(Value.int (117 : Int32)), (Value.int (48 : Int32)), (Value.int (48 : Int32)), (Value.int (51 : Int32))].getD er.toNatClampNeg (.int (0 : Int32)) = .int (own_u er) := own_mg [117, 48, 48, 51] er
theorem own_er4 {er : Int32} (h0 : ¬ er < 0) (h4 : er < (4 : Int32)) : er = 0 ∨ er = 1 ∨ er = 2 ∨ er = 3 := by
  rw [Int32.lt_iff_toInt_lt] at h0 h4
  have z0 : (0 : Int32).toInt = 0 := rfl
  have z1 : (1 : Int32).toInt = 1 := rfl
  have z2 : (2 : Int32).toInt = 2 := rfl
  have z3 : (3 : Int32).toInt = 3 := rfl
  have z4 : (4 : Int32).toInt = 4 := rfl
  rw [← Int32.toInt_inj, ← Int32.toInt_inj, ← Int32.toInt_inj, ← Int32.toInt_inj, z0, z1, z2, z3]
  omega
theorem own_uc {er : Int32} (h0 : ¬ er < 0) (h4 : er < (4 : Int32)) : (nar .char (nar .char (((own_u er) &&& (255 : Int32)).toUInt32.toUInt16.toUInt32.toInt32))) = own_u er := by rcases own_er4 h0 h4 with rfl | rfl | rfl | rfl <;> decide
theorem ef_20 (m : MethodId) (a0 : Addr) (a1 : Addr) (p2 : Int32) : entryFrame m #[(.ref a0), (.ref a1), (.int p2)] 4 = mkF m 0 #[.val (.ref a0), .val (.ref a1), .val (.int p2), .unset] [] := by first | (simp [entryFrame, mkF, argsToLocals, Value.category]; done) | rfl
abbrev own_d20 (p : Nat) (i : Instr) (n : Nat) : Prop := decode prog_32_method_9_code p = .ok (i, n)
theorem d20_0 : own_d20 0 (.aload_n 1) 1 := by decide +kernel
theorem d20_1 : own_d20 1 (.iload_n 2) 1 := by decide +kernel
theorem d20_2 : own_d20 2 .caload 1 := by decide +kernel
theorem d20_3 : own_d20 3 (.istore_n 3) 1 := by decide +kernel
theorem d20_4 : own_d20 4 (.aload_n 0) 1 := by decide +kernel
theorem d20_5 : own_d20 5 (.getfield 16) 3 := by decide +kernel
theorem d20_8 : own_d20 8 (.ifCond .ne 22) 3 := by decide +kernel
theorem d20_11 : own_d20 11 (.iload_n 3) 1 := by decide +kernel
theorem d20_12 : own_d20 12 (.bipush 117) 2 := by decide +kernel
theorem d20_14 : own_d20 14 (.if_icmp .eq 16) 3 := by decide +kernel
theorem d20_17 : own_d20 17 (.aload_n 0) 1 := by decide +kernel
theorem d20_18 : own_d20 18 (.iconst 0) 1 := by decide +kernel
theorem d20_19 : own_d20 19 (.putfield 46) 3 := by decide +kernel
theorem d20_22 : own_d20 22 (.aload_n 0) 1 := by decide +kernel
theorem d20_23 : own_d20 23 (.iconst (-1)) 1 := by decide +kernel
theorem d20_24 : own_d20 24 (.putfield 16) 3 := by decide +kernel
theorem d20_27 : own_d20 27 (.goto 94) 3 := by decide +kernel
theorem d20_121 : own_d20 121 .return_ 1 := by decide +kernel
def Q20_n (Z : State) (a0 a1 : Addr) (p2 : Int32) (bd vb : Addr) (k1 kb : ClassId) (n : Int32) (sg : own_Sg) (cs : Int32) (gf : Value) (h0 : Heap) (n0 : Nat) (v : Option Value) (h : Heap) (L : List Loc) : Prop := v = none ∧ Fr n0 L ∧ Keep h0 h [a0, a1, bd, vb] ∧ own_F Z h a0 a1 bd vb k1 kb n (own_esc p2 sg)
set_option maxRecDepth 65536 in
set_option maxHeartbeats 40000000 in
theorem rm20_n (l : Launch) (Z : State) (ag : Array Value) (hw : ∀ d ∈ tables_1, d.before ag Z = true) (ws : List Jvm.Cond) (a0 a1 : Addr) (p2 : Int32) (bd vb : Addr) (k1 kb : ClassId) (n : Int32) (sg : own_Sg) (cs : Int32) (gf : Value) (h0 : Heap) (n0 : Nat) (Z0 : n0 ≤ h0.size) (hF : own_F Z h0 a0 a1 bd vb k1 kb n sg) (hN : own_Nn a0 a1 bd vb) (hG : own_G n0 a0 a1 bd vb) (O_ : Old Z n0 h0) (S_cs : Sta Z Z.heap "java/lang/String" "COMPACT_STRINGS" "Z" (.int cs)) (hcs : ¬ cs = (0 : Int32)) (S_gf : Sta Z Z.heap "jdk/internal/util/Preconditions" "SIOOBE_FORMATTER" "Ljava/util/function/BiFunction;" gf) (rv_gf : gf.isRef = true) (hi : ¬ p2 < 0 ∧ p2 < n) (hKk : own_Kk n sg) (hno : sg.2.1 = (0 : Int32) ∧ ¬ (own_at sg.2.2.2.2.1 p2) = (117 : Int32)) :
    MetFree l (⟨"com/example/needle_in_json/needleinjson/MaskedDigits", "maskEscaped", "([CI)V"⟩ : MethodName) (head1 (Jvm.Cond.code (⟨"com/example/needle_in_json/needleinjson/MaskedDigits", "maskEscaped", "([CI)V"⟩ : MethodName) prog_32_method_9_code 4 none :: ws) ({ frames := 0, cells := 0, slots := 0, locals := 0 } : Room)) (fun a U => a = #[(.ref a0), (.ref a1), (.int p2)] ∧ Z.Warmed39 U.vm ∧ U.heap = h0) (fun _ _ _ _ _ => True) (fun _ U o U' => ∃ v L, o = .returned v ∧ Q20_n Z a0 a1 p2 bd vb k1 kb n sg cs gf h0 n0 v U'.heap L ∧ FrameEnd U o U' L ({ frames := 0, cells := 0, slots := 0, locals := 0 } : Room).cells ({ frames := 0, cells := 0, slots := 0, locals := 0 } : Room).slots) := by
  refine MetFree.of_bodySF (plainFor_of_name pn_0) hisR ?_
  intro p e s m args below meth c s₁ Bd hml0 hP hK
  obtain ⟨rfl, hZ, hh⟩ := hP
  have hx := Bd.exec
  have hby := Bd.bytes
  have hml : c.maxLocals = 4 := hml0
  have hown : s.vm.findClass "com/example/needle_in_json/needleinjson/MaskedDigits" = some m.cls := findClass_of_methodNamed Bd.named
  have hnm := (name_of_methodNamed Bd.named Bd.method).1
  have X0 : Stand p l e ({ frames := 0, cells := 0, slots := 0, locals := 0 } : Room) s m #[(.ref a0), (.ref a1), (.int p2)] below meth c s₁ [] 0 0 := Stand.of_body Bd
  have e0 : s₁.heap = h0 := by rw [← hh, Bd.state]; rfl
  have N0 := Fr.nil n0
  have pre0 : ∀ t, Steps p.tables e below (s₁.setTop (mkF m 0 #[.val (.ref a0), .val (.ref a1), .val (.int p2), .unset] [])) t → Steps p.tables e below (s₁.setTop (entryFrame m #[(.ref a0), (.ref a1), (.int p2)] 4)) t := fun t k => castTop (ef_20 m a0 a1 p2) k
  obtain ⟨E_a0, F_row, F_er, F_de, F_h, E_bd, F_v, F_c, F_n, V_vb, V_a1⟩ := id hF
  obtain ⟨ne_a0_a1, ne_a0_bd, ne_a0_vb, ne_a1_bd, ne_a1_vb, ne_bd_vb⟩ := id hN
  obtain ⟨ge_a0, ge_a1, ge_bd, ge_vb⟩ := id hG
  obtain ⟨cl284, Ar284, q284, S284, M284, H284, G284⟩ := id V_a1
  have hin284 : ¬ (p2 < 0 ∨ cl284.slots.size ≤ (p2).toNatClampNeg) := inb_of S284 hi
  have hat284 : cl284.slots[(p2).toNatClampNeg]? = some (.int (own_at sg.2.2.2.2.1 p2)) := Has.at H284 hin284 (own_mg sg.2.2.2.2.1 p2)
  have ld284 := X0.caload hx (j := p2) (v := (.int (own_at sg.2.2.2.2.1 p2))) (by rw [e0]; exact Ar284.1) (State.isArrayOf_alike hZ.alike Ar284.2.1) Ar284.2.2 hin284 hat284 (g := (mkF m 2 #[.val (.ref a0), .val (.ref a1), .val (.int p2), .unset] [(.int p2), (.ref a1)])) rfl rfl (hb hby d20_2)
  obtain ⟨T285, X285, e285, st285⟩ := getF X0 hx hZ hown (host := "") (Or.inl (own_wk hw 48 rfl)) Via.refl e0 F_er (g := (mkF m 5 #[.val (.ref a0), .val (.ref a1), .val (.int p2), .val (.int (own_at sg.2.2.2.2.1 p2))] [(.ref a0)])) rfl rfl (hb hby d20_5)
  obtain ⟨T286, h286, X286, e286, W286, st286⟩ := putF X285 hx hZ hown (host := "") (Or.inl (own_wk hw 55 rfl)) Via.refl e285 F_row E_a0 (Or.inl (own_wk hw 56 rfl)) (own_wk hw 18 rfl) (ty := .int) (by decide) rfl rfl (g := (mkF m 19 #[.val (.ref a0), .val (.ref a1), .val (.int p2), .val (.int (own_at sg.2.2.2.2.1 p2))] [.int 0, (.ref a0)])) rfl rfl (hb hby d20_19)
  have Fw286 := F_row.same W286
  have x287 := E_a0.wr W286
  have x288 := F_er.other W286 (Or.inr (slot_ne (Or.inl (own_wk hw 49 rfl)) (Or.inl (own_wk hw 56 rfl)) (by decide) (t := .int) (t' := .int) (by decide) (by decide)))
  have x289 := F_de.other W286 (Or.inr (slot_ne (Or.inl (own_wk hw 97 rfl)) (Or.inl (own_wk hw 56 rfl)) (by decide) (t := .boolean) (t' := .int) (by decide) (by decide)))
  have x290 := F_h.other W286 (Or.inr (slot_ne (Or.inr (own_wk hw 47 rfl)) (Or.inl (own_wk hw 56 rfl)) (by decide) (t := (.object "java/lang/StringBuilder")) (t' := .int) (by decide) (by decide)))
  have x291 := E_bd.wr W286
  have x292 := F_v.other W286 (Or.inl (Ne.symm ne_a0_bd))
  have x293 := F_c.other W286 (Or.inl (Ne.symm ne_a0_bd))
  have x294 := F_n.other W286 (Or.inl (Ne.symm ne_a0_bd))
  have x295 := V_vb.other W286 (Ne.symm ne_a0_vb)
  have x296 := V_a1.other W286 (Ne.symm ne_a0_a1)
  have x297 := O_.wr W286 ge_a0
  have sz298 : n0 ≤ h286.size := Nat.le_trans Z0 (Keep.of_wr W286).1
  have kp299 : Keep h0 h286 [a0, a1, bd, vb] := (Keep.refl h0 [a0, a1, bd, vb]).wr W286 (Or.inl (List.mem_of_getElem? (i := 0) rfl))
  have N286 := Fr.snoc X286 N0 ge_a0
  obtain ⟨T300, h300, X300, e300, W300, st300⟩ := putF X286 hx hZ hown (host := "") (Or.inl (own_wk hw 48 rfl)) Via.refl e286 x288 x287 (Or.inl (own_wk hw 49 rfl)) (own_wk hw 18 rfl) (ty := .int) (by decide) rfl rfl (g := (mkF m 24 #[.val (.ref a0), .val (.ref a1), .val (.int p2), .val (.int (own_at sg.2.2.2.2.1 p2))] [.int (-1), (.ref a0)])) rfl rfl (hb hby d20_24)
  have Fw300 := x288.same W300
  have x301 := x287.wr W300
  have x302 := x289.other W300 (Or.inr (slot_ne (Or.inl (own_wk hw 97 rfl)) (Or.inl (own_wk hw 49 rfl)) (by decide) (t := .boolean) (t' := .int) (by decide) (by decide)))
  have x303 := x290.other W300 (Or.inr (slot_ne (Or.inr (own_wk hw 47 rfl)) (Or.inl (own_wk hw 49 rfl)) (by decide) (t := (.object "java/lang/StringBuilder")) (t' := .int) (by decide) (by decide)))
  have x304 := x291.wr W300
  have x305 := x292.other W300 (Or.inl (Ne.symm ne_a0_bd))
  have x306 := x293.other W300 (Or.inl (Ne.symm ne_a0_bd))
  have x307 := x294.other W300 (Or.inl (Ne.symm ne_a0_bd))
  have x308 := x295.other W300 (Ne.symm ne_a0_vb)
  have x309 := x296.other W300 (Ne.symm ne_a0_a1)
  have x310 := x297.wr W300 ge_a0
  have x311 := Fw286.other W300 (Or.inr (slot_ne (Or.inl (own_wk hw 56 rfl)) (Or.inl (own_wk hw 49 rfl)) (by decide) (t := .int) (t' := .int) (by decide) (by decide)))
  have sz312 : n0 ≤ h300.size := Nat.le_trans sz298 (Keep.of_wr W300).1
  have kp313 : Keep h0 h300 [a0, a1, bd, vb] := kp299.wr W300 (Or.inl (List.mem_of_getElem? (i := 0) rfl))
  have N300 := Fr.snoc X300 N286 ge_a0
  obtain ⟨fs, hr, hrun, hended, hW, hsame⟩ := X300.leave (v := none) (fun _ => rfl)
  refine ⟨_, _, pre0 _ ?_, hrun, hended, _, _, rfl, ?_, ⟨_, rfl⟩, hW, hsame.mono (by decide) (by decide)⟩
  · show own_S p e below s₁ (mkF m 0 #[.val (.ref a0), .val (.ref a1), .val (.int p2), .unset] []) _
    refine XS.aloadN X0.here hx rfl (hb hby d20_0) rfl rfl (XS.iloadN X0.here hx rfl (hb hby d20_1) rfl (ld284 _ (XS.istoreN X0.here hx rfl (hb hby d20_3) rfl (l' := #[.val (.ref a0), .val (.ref a1), .val (.int p2), .val (.int (own_at sg.2.2.2.2.1 p2))]) rfl (XS.aloadN X0.here hx rfl (hb hby d20_4) rfl rfl (st285 _ (XS.ifNo X285.here hx rfl (hb hby d20_8) rfl ((if0 _ _).trans (teq (show sg.2.1 = (0 : Int32) from hno.1)).2) (XS.iloadN X285.here hx rfl (hb hby d20_11) rfl (XS.bipush X285.here hx rfl (hb hby d20_12) (XS.icmpNo X285.here hx rfl (hb hby d20_14) rfl (feq (show ¬ ((own_at sg.2.2.2.2.1 p2) = (117 : Int32)) from hno.2)).1 ?_)))))))))
    refine XS.aloadN X285.here hx rfl (hb hby d20_17) rfl rfl (XS.iconst X285.here hx rfl (hb hby d20_18) (st286 _ (XS.aloadN X286.here hx rfl (hb hby d20_22) rfl rfl (XS.iconst X286.here hx rfl (hb hby d20_23) ?_))))
    show own_S p e below T286 (mkF m 24 #[.val (.ref a0), .val (.ref a1), .val (.int p2), .val (.int (own_at sg.2.2.2.2.1 p2))] [.int (-1), (.ref a0)]) _
    refine st300 _ (XS.goto X300.here hx rfl (pc0 := 27) (pc' := 121) rfl (hb hby d20_27) (by decide) (by decide) ?_)
    show own_S p e below T300 (mkF m 121 #[.val (.ref a0), .val (.ref a1), .val (.int p2), .val (.int (own_at sg.2.2.2.2.1 p2))] []) _
    exact X300.returnOut hx Bd.returns (hb hby d20_121) hr
  · show Q20_n Z a0 a1 p2 bd vb k1 kb n sg cs gf h0 n0 _ T300.heap _
    rw [e300]
    refine ⟨rfl, N300, kp313, ?_⟩
    rw [show own_esc p2 sg = ((0 : Int32), (-1 : Int32), sg.2.2) from (if_pos hno.1).trans (if_neg hno.2)]
    exact ⟨x301, x311, Fw300, x302, x303, x304, x305, x306, x307, x308, x309⟩
def own_St (Z : State) (h : Heap) (la lba : Addr) (kl : ClassId) : Prop := Exa Z h la "java/lang/String" ∧ Fld Z h la "java/lang/String" "coder" "B" (.int (0 : Int32)) ∧ Fld Z h la "java/lang/String" "value" "[B" (.ref lba) ∧ Arv Z h lba kl .byte (4 : Int32) [(.int (117 : Int32)), (.int (48 : Int32)), (.int (48 : Int32)), (.int (51 : Int32))] (.int (0 : Int32))
theorem own_escL {i : Int32} {sg : own_Sg} (h : sg.2.1 = (0 : Int32) → own_at sg.2.2.2.2.1 i = (117 : Int32)) : own_esc i sg = own_esc2 i sg := by
  unfold own_esc
  by_cases a : sg.2.1 = (0 : Int32)
  · rw [if_pos a, if_pos (h a)]
  · rw [if_neg a]
theorem d20_30 : own_d20 30 (.aload_n 0) 1 := by decide +kernel
theorem d20_31 : own_d20 31 (.getfield 16) 3 := by decide +kernel
theorem d20_34 : own_d20 34 (.ldc 80) 2 := by decide +kernel
theorem d20_36 : own_d20 36 (.invokevirtual 24) 3 := by decide +kernel
theorem d20_39 : own_d20 39 (.if_icmp .ge 52) 3 := by decide +kernel
theorem d20_42 : own_d20 42 (.aload_n 0) 1 := by decide +kernel
theorem d20_43 : own_d20 43 (.aload_n 0) 1 := by decide +kernel
theorem d20_44 : own_d20 44 (.getfield 16) 3 := by decide +kernel
theorem d20_47 : own_d20 47 (.ifCond .eq 10) 3 := by decide +kernel
theorem d20_57 : own_d20 57 (.iload_n 3) 1 := by decide +kernel
theorem d20_58 : own_d20 58 (.ldc 80) 2 := by decide +kernel
theorem d20_60 : own_d20 60 (.aload_n 0) 1 := by decide +kernel
theorem d20_61 : own_d20 61 (.getfield 16) 3 := by decide +kernel
theorem pd_7 : parseMethodDescriptor "(I)C" = some ⟨[.int], some .char⟩ := by decide +kernel
theorem d20_64 : own_d20 64 (.invokevirtual 82) 3 := by decide +kernel
theorem d20_67 : own_d20 67 (.if_icmp .ne 7) 3 := by decide +kernel
theorem d20_70 : own_d20 70 (.iconst 1) 1 := by decide +kernel
theorem d20_71 : own_d20 71 (.goto 4) 3 := by decide +kernel
theorem d20_75 : own_d20 75 (.putfield 49) 3 := by decide +kernel
theorem d20_78 : own_d20 78 (.aload_n 0) 1 := by decide +kernel
theorem d20_79 : own_d20 79 .dup 1 := by decide +kernel
theorem d20_80 : own_d20 80 (.getfield 16) 3 := by decide +kernel
theorem d20_83 : own_d20 83 (.iconst 1) 1 := by decide +kernel
theorem d20_84 : own_d20 84 .iadd 1 := by decide +kernel
theorem d20_85 : own_d20 85 (.putfield 16) 3 := by decide +kernel
theorem d20_88 : own_d20 88 (.goto 33) 3 := by decide +kernel
theorem d20_74 : own_d20 74 (.iconst 0) 1 := by decide +kernel
theorem d20_91 : own_d20 91 (.aload_n 0) 1 := by decide +kernel
theorem d20_92 : own_d20 92 (.aload_n 1) 1 := by decide +kernel
theorem d20_93 : own_d20 93 (.iload_n 2) 1 := by decide +kernel
theorem d20_94 : own_d20 94 (.aload_n 0) 1 := by decide +kernel
theorem d20_95 : own_d20 95 (.getfield 49) 3 := by decide +kernel
theorem d20_98 : own_d20 98 (.ifCond .eq 14) 3 := by decide +kernel
theorem d20_112 : own_d20 112 (.iconst 0) 1 := by decide +kernel
theorem pd_24 : parseMethodDescriptor "([CIZ)V" = some ⟨[(.array .char), .int, .boolean], none⟩ := by decide +kernel
theorem d20_113 : own_d20 113 (.invokevirtual 76) 3 := by decide +kernel
theorem d20_116 : own_d20 116 (.aload_n 0) 1 := by decide +kernel
theorem d20_117 : own_d20 117 (.iconst (-1)) 1 := by decide +kernel
theorem d20_118 : own_d20 118 (.putfield 16) 3 := by decide +kernel
theorem d20_101 : own_d20 101 (.iload_n 3) 1 := by decide +kernel
theorem d20_102 : own_d20 102 (.invokestatic 31) 3 := by decide +kernel
theorem d20_105 : own_d20 105 (.ifCond .eq 7) 3 := by decide +kernel
theorem d20_108 : own_d20 108 (.iconst 1) 1 := by decide +kernel
theorem d20_109 : own_d20 109 (.goto 4) 3 := by decide +kernel
theorem d20_50 : own_d20 50 (.aload_n 0) 1 := by decide +kernel
theorem d20_51 : own_d20 51 (.getfield 49) 3 := by decide +kernel
theorem d20_54 : own_d20 54 (.ifCond .eq 20) 3 := by decide +kernel
def Q20_r (Z : State) (a0 a1 : Addr) (p2 : Int32) (bd vb : Addr) (k1 kb : ClassId) (n : Int32) (sg : own_Sg) (cs : Int32) (gf : Value) (la lba : Addr) (kl : ClassId) (h0 : Heap) (n0 : Nat) (v : Option Value) (h : Heap) (L : List Loc) : Prop := v = none ∧ Fr n0 L ∧ Keep h0 h [a0, a1, bd, vb] ∧ own_F Z h a0 a1 bd vb k1 kb n (own_esc p2 sg)
set_option maxRecDepth 65536 in
set_option maxHeartbeats 40000000 in
theorem rm20_r (l : Launch) (Z : State) (ag : Array Value) (hw : ∀ d ∈ tables_1, d.before ag Z = true) (ws : List Jvm.Cond) (a0 a1 : Addr) (p2 : Int32) (bd vb : Addr) (k1 kb : ClassId) (n : Int32) (sg : own_Sg) (cs : Int32) (gf : Value) (la lba : Addr) (kl : ClassId) (h0 : Heap) (n0 : Nat) (Z0 : n0 ≤ h0.size) (hF : own_F Z h0 a0 a1 bd vb k1 kb n sg) (hN : own_Nn a0 a1 bd vb) (hG : own_G n0 a0 a1 bd vb) (O_ : Old Z n0 h0) (S_cs : Sta Z Z.heap "java/lang/String" "COMPACT_STRINGS" "Z" (.int cs)) (hcs : ¬ cs = (0 : Int32)) (S_gf : Sta Z Z.heap "jdk/internal/util/Preconditions" "SIOOBE_FORMATTER" "Ljava/util/function/BiFunction;" gf) (rv_gf : gf.isRef = true) (hi : ¬ p2 < 0 ∧ p2 < n) (hKk : own_Kk n sg) (hge : ¬ sg.2.1 < 0) (hld : sg.2.1 = (0 : Int32) → (own_at sg.2.2.2.2.1 p2) = (117 : Int32)) (hSt : own_St Z h0 la lba kl) :
    MetFree l (⟨"com/example/needle_in_json/needleinjson/MaskedDigits", "maskEscaped", "([CI)V"⟩ : MethodName) (head1 (Jvm.Cond.code (⟨"com/example/needle_in_json/needleinjson/MaskedDigits", "maskEscaped", "([CI)V"⟩ : MethodName) prog_32_method_9_code 4 none :: ws) ({ frames := 4, cells := 0, slots := 0, locals := 55 } : Room)) (fun a U => a = #[(.ref a0), (.ref a1), (.int p2)] ∧ Z.Warmed39 U.vm ∧ U.heap = h0 ∧ Lit U "com/example/needle_in_json/needleinjson/MaskedDigits" 80 la) (fun _ _ _ _ _ => True) (fun _ U o U' => ∃ v L, o = .returned v ∧ Q20_r Z a0 a1 p2 bd vb k1 kb n sg cs gf la lba kl h0 n0 v U'.heap L ∧ FrameEnd U o U' L ({ frames := 4, cells := 0, slots := 0, locals := 55 } : Room).cells ({ frames := 4, cells := 0, slots := 0, locals := 55 } : Room).slots) := by
  refine MetFree.of_bodySF (plainFor_of_name pn_0) hisR ?_
  intro p e s m args below meth c s₁ Bd hml0 hP hK
  obtain ⟨rfl, hZ, hh, hLs⟩ := hP
  have hx := Bd.exec
  have hby := Bd.bytes
  have hml : c.maxLocals = 4 := hml0
  have hown : s.vm.findClass "com/example/needle_in_json/needleinjson/MaskedDigits" = some m.cls := findClass_of_methodNamed Bd.named
  have hnm := (name_of_methodNamed Bd.named Bd.method).1
  have X0 : Stand p l e ({ frames := 4, cells := 0, slots := 0, locals := 55 } : Room) s m #[(.ref a0), (.ref a1), (.int p2)] below meth c s₁ [] 0 0 := Stand.of_body Bd
  have e0 : s₁.heap = h0 := by rw [← hh, Bd.state]; rfl
  have N0 := Fr.nil n0
  have pre0 : ∀ t, Steps p.tables e below (s₁.setTop (mkF m 0 #[.val (.ref a0), .val (.ref a1), .val (.int p2), .unset] [])) t → Steps p.tables e below (s₁.setTop (entryFrame m #[(.ref a0), (.ref a1), (.int p2)] 4)) t := fun t k => castTop (ef_20 m a0 a1 p2) k
  obtain ⟨E_a0, F_row, F_er, F_de, F_h, E_bd, F_v, F_c, F_n, V_vb, V_a1⟩ := id hF
  obtain ⟨ne_a0_a1, ne_a0_bd, ne_a0_vb, ne_a1_bd, ne_a1_vb, ne_bd_vb⟩ := id hN
  obtain ⟨ge_a0, ge_a1, ge_bd, ge_vb⟩ := id hG
  obtain ⟨E_la, F_lc, F_lv, V_lb⟩ := id hSt
  obtain ⟨cl314, Ar314, q314, S314, M314, H314, G314⟩ := id V_a1
  have hin314 : ¬ (p2 < 0 ∨ cl314.slots.size ≤ (p2).toNatClampNeg) := inb_of S314 hi
  have hat314 : cl314.slots[(p2).toNatClampNeg]? = some (.int (own_at sg.2.2.2.2.1 p2)) := Has.at H314 hin314 (own_mg sg.2.2.2.2.1 p2)
  have ld314 := X0.caload hx (j := p2) (v := (.int (own_at sg.2.2.2.2.1 p2))) (by rw [e0]; exact Ar314.1) (State.isArrayOf_alike hZ.alike Ar314.2.1) Ar314.2.2 hin314 hat314 (g := (mkF m 2 #[.val (.ref a0), .val (.ref a1), .val (.int p2), .unset] [(.int p2), (.ref a1)])) rfl rfl (hb hby d20_2)
  obtain ⟨T315, X315, e315, st315⟩ := getF X0 hx hZ hown (host := "") (Or.inl (own_wk hw 48 rfl)) Via.refl e0 F_er (g := (mkF m 5 #[.val (.ref a0), .val (.ref a1), .val (.int p2), .val (.int (own_at sg.2.2.2.2.1 p2))] [(.ref a0)])) rfl rfl (hb hby d20_5)
  have cp317 : ∀ target, own_S p e below T315 (mkF m 8 #[.val (.ref a0), .val (.ref a1), .val (.int p2), .val (.int (own_at sg.2.2.2.2.1 p2))] [(.int sg.2.1)]) target → own_S p e below s₁ (mkF m 0 #[.val (.ref a0), .val (.ref a1), .val (.int p2), .unset] []) target := by
    intro target kt
    show own_S p e below s₁ (mkF m 0 #[.val (.ref a0), .val (.ref a1), .val (.int p2), .unset] []) _
    refine XS.aloadN X0.here hx rfl (hb hby d20_0) rfl rfl (XS.iloadN X0.here hx rfl (hb hby d20_1) rfl (ld314 _ (XS.istoreN X0.here hx rfl (hb hby d20_3) rfl (l' := #[.val (.ref a0), .val (.ref a1), .val (.int p2), .val (.int (own_at sg.2.2.2.2.1 p2))]) rfl (XS.aloadN X0.here hx rfl (hb hby d20_4) rfl rfl (st315 _ ?_)))))
    exact kt
  by_cases hc316 : sg.2.1 = (0 : Int32)
  · obtain ⟨T318, X318, e318, st318⟩ := getF X315 hx hZ hown (host := "") (Or.inl (own_wk hw 48 rfl)) Via.refl e315 F_er (g := (mkF m 31 #[.val (.ref a0), .val (.ref a1), .val (.int p2), .val (.int (own_at sg.2.2.2.2.1 p2))] [(.ref a0)])) rfl rfl (hb hby d20_31)
    have ld319 := ldcAgain (s := s) (vm0 := s.vm) X318 hx hZ hown (own_wk hw 166 rfl) hLs (g := (mkF m 34 #[.val (.ref a0), .val (.ref a1), .val (.int p2), .val (.int (own_at sg.2.2.2.2.1 p2))] [(.int sg.2.1)])) rfl (hb hby d20_34)
    obtain ⟨cq320, kq320, q320a, q320b, q320c⟩ := isOf hZ e318 E_la
    obtain ⟨_, _, ⟨T320, L320, k320, n320⟩, -, X320, ⟨Lc320, hQ320, l320, y320, z320⟩, st320⟩ := X318.virtualBack hx (y := (⟨"java/lang/String", "length", "()I"⟩ : MethodName)) (z := (⟨"java/lang/String", "length", "()I"⟩ : MethodName)) hown (mvT hZ (own_wk hw 169 rfl)) (mvT hZ (own_wk hw 170 rfl)) (notFace_of_selects (args := #[]) (mvT hZ (own_wk hw 172 rfl))) (mvT hZ (own_wk hw 172 rfl)) (mvT hZ (own_wk hw 171 rfl)) (by decide) (backOf (W := 1) (rm34 l Z ag hw [] la lba kl (4 : Int32) [(.int (117 : Int32)), (.int (48 : Int32)), (.int (48 : Int32)), (.int (51 : Int32))] (0 : Int32) cs h0 n0 Z0 E_la F_lv F_lc V_lb O_ S_cs hcs) hZ (own_wk hw 173 rfl) (own_wk hw 40 rfl) (by decide) (by decide)) q320a q320c (g := (mkF m 36 #[.val (.ref a0), .val (.ref a1), .val (.int p2), .val (.int (own_at sg.2.2.2.2.1 p2))] [(.ref la), (.int sg.2.1)])) rfl (by rw [hml]; rfl) (Steps.refl _) (argsL := []) (rest := [(.int sg.2.1)]) (lenOf pd_1 rfl) rfl (by show 2 * 0 + _ ≤ _; exact Nat.le_of_eq rfl) (hb hby d20_36) (fun _ _ => ⟨rfl, e318, (by decide : 0 + 0 ≤ _), (by decide : 0 + 0 ≤ _)⟩)
    dsimp only [Pt.U, Pt.locs, Pt.cells, Pt.slots] at X320 l320 y320 z320 st320 hQ320
    subst l320 y320 z320
    obtain ⟨rfl, N320q, e320⟩ := hQ320
    have N320 := Fr.app N0 N320q
    have sg321 : ∀ target, Steps p.tables e below (T320.setTop (mkF m 39 #[.val (.ref a0), .val (.ref a1), .val (.int p2), .val (.int (own_at sg.2.2.2.2.1 p2))] [.int 4, (.int sg.2.1)])) target → Steps p.tables e below (T320.setTop (mkF m 39 #[.val (.ref a0), .val (.ref a1), .val (.int p2), .val (.int (own_at sg.2.2.2.2.1 p2))] [(.int ((4 : Int32) >>> ((nar .byte (0 : Int32)) &&& 31))), (.int sg.2.1)])) target := by rw [show ((4 : Int32) >>> ((nar .byte (0 : Int32)) &&& 31)) = (4 : Int32) from by decide]; exact fun _ k => k
    have cp323 : ∀ target, own_S p e below T320 (mkF m 39 #[.val (.ref a0), .val (.ref a1), .val (.int p2), .val (.int (own_at sg.2.2.2.2.1 p2))] [.int 4, (.int sg.2.1)]) target → own_S p e below s₁ (mkF m 0 #[.val (.ref a0), .val (.ref a1), .val (.int p2), .unset] []) target := by
      intro target kt
      show own_S p e below s₁ (mkF m 0 #[.val (.ref a0), .val (.ref a1), .val (.int p2), .unset] []) _
      refine cp317 _ (XS.ifNo X315.here hx rfl (hb hby d20_8) rfl ((if0 _ _).trans (teq hc316).2) (XS.iloadN X315.here hx rfl (hb hby d20_11) rfl (XS.bipush X315.here hx rfl (hb hby d20_12) (XS.icmpYes X315.here hx rfl (pc0 := 14) (pc' := 30) rfl (hb hby d20_14) rfl (teq (show (own_at sg.2.2.2.2.1 p2) = (117 : Int32) from (hld hc316))).1 (by decide) (by decide) (XS.aloadN X315.here hx rfl (hb hby d20_30) rfl rfl (st318 _ (ld319 _ (st320.trans (sg321 _ ?_)))))))))
      exact kt
    by_cases hc322 : sg.2.1 < (4 : Int32)
    · obtain ⟨T324, X324, e324, st324⟩ := getF X320 hx hZ hown (host := "") (Or.inl (own_wk hw 48 rfl)) Via.refl e320 F_er (g := (mkF m 44 #[.val (.ref a0), .val (.ref a1), .val (.int p2), .val (.int (own_at sg.2.2.2.2.1 p2))] [(.ref a0), (.ref a0)])) rfl rfl (hb hby d20_44)
      have ld325 := ldcAgain (s := s) (vm0 := s.vm) X324 hx hZ hown (own_wk hw 166 rfl) hLs (g := (mkF m 58 #[.val (.ref a0), .val (.ref a1), .val (.int p2), .val (.int (own_at sg.2.2.2.2.1 p2))] [(.int (own_at sg.2.2.2.2.1 p2)), (.ref a0)])) rfl (hb hby d20_58)
      obtain ⟨T326, X326, e326, st326⟩ := getF X324 hx hZ hown (host := "") (Or.inl (own_wk hw 48 rfl)) Via.refl e324 F_er (g := (mkF m 61 #[.val (.ref a0), .val (.ref a1), .val (.int p2), .val (.int (own_at sg.2.2.2.2.1 p2))] [(.ref a0), (.ref la), (.int (own_at sg.2.2.2.2.1 p2)), (.ref a0)])) rfl rfl (hb hby d20_61)
      obtain ⟨cq327, kq327, q327a, q327b, q327c⟩ := isOf hZ e326 E_la
      obtain ⟨_, _, ⟨T327, L327, k327, n327⟩, -, X327, ⟨Lc327, hQ327, l327, y327, z327⟩, st327⟩ := X326.virtualBack hx (y := (⟨"java/lang/String", "charAt", "(I)C"⟩ : MethodName)) (z := (⟨"java/lang/String", "charAt", "(I)C"⟩ : MethodName)) hown (mvT hZ (own_wk hw 179 rfl)) (mvT hZ (own_wk hw 180 rfl)) (notFace_of_selects (args := #[]) (mvT hZ (own_wk hw 182 rfl))) (mvT hZ (own_wk hw 182 rfl)) (mvT hZ (own_wk hw 181 rfl)) (by decide) (backOf (W := 2) (rm36 l Z ag hw [] la sg.2.1 lba kl (4 : Int32) [(.int (117 : Int32)), (.int (48 : Int32)), (.int (48 : Int32)), (.int (51 : Int32))] (own_u sg.2.1) cs gf h0 n0 Z0 E_la F_lv F_lc V_lb hge hc322 (own_ug sg.2.1) O_ S_cs hcs S_gf rv_gf) hZ (own_wk hw 183 rfl) (own_wk hw 40 rfl) (by decide) (by decide)) q327a q327c (g := (mkF m 64 #[.val (.ref a0), .val (.ref a1), .val (.int p2), .val (.int (own_at sg.2.2.2.2.1 p2))] [(.int sg.2.1), (.ref la), (.int (own_at sg.2.2.2.2.1 p2)), (.ref a0)])) rfl (by rw [hml]; rfl) (Steps.refl _) (argsL := [(.int sg.2.1)]) (rest := [(.int (own_at sg.2.2.2.2.1 p2)), (.ref a0)]) (lenOf pd_7 rfl) rfl (by show 2 * 0 + _ ≤ _; exact Nat.le_of_eq rfl) (hb hby d20_64) (fun _ _ => ⟨rfl, e326, (by decide : 0 + 0 ≤ _), (by decide : 0 + 0 ≤ _)⟩)
      dsimp only [Pt.U, Pt.locs, Pt.cells, Pt.slots] at X327 l327 y327 z327 st327 hQ327
      subst l327 y327 z327
      obtain ⟨rfl, N327q, e327⟩ := hQ327
      have N327 := Fr.app N320 N327q
      have sg328 : ∀ target, Steps p.tables e below (T327.setTop (mkF m 67 #[.val (.ref a0), .val (.ref a1), .val (.int p2), .val (.int (own_at sg.2.2.2.2.1 p2))] [(.int (own_u sg.2.1)), (.int (own_at sg.2.2.2.2.1 p2)), (.ref a0)])) target → Steps p.tables e below (T327.setTop (mkF m 67 #[.val (.ref a0), .val (.ref a1), .val (.int p2), .val (.int (own_at sg.2.2.2.2.1 p2))] [(.int (nar .char (nar .char (((own_u sg.2.1) &&& (255 : Int32)).toUInt32.toUInt16.toUInt32.toInt32)))), (.int (own_at sg.2.2.2.2.1 p2)), (.ref a0)])) target := by rw [own_uc hge hc322]; exact fun _ k => k
      have cp330 : ∀ target, own_S p e below T327 (mkF m 67 #[.val (.ref a0), .val (.ref a1), .val (.int p2), .val (.int (own_at sg.2.2.2.2.1 p2))] [(.int (own_u sg.2.1)), (.int (own_at sg.2.2.2.2.1 p2)), (.ref a0)]) target → own_S p e below s₁ (mkF m 0 #[.val (.ref a0), .val (.ref a1), .val (.int p2), .unset] []) target := by
        intro target kt
        show own_S p e below s₁ (mkF m 0 #[.val (.ref a0), .val (.ref a1), .val (.int p2), .unset] []) _
        refine cp323 _ (XS.icmpNo X320.here hx rfl (hb hby d20_39) rfl (tlt hc322).2.1 (XS.aloadN X320.here hx rfl (hb hby d20_42) rfl rfl (XS.aloadN X320.here hx rfl (hb hby d20_43) rfl rfl (st324 _ (XS.ifYes X324.here hx rfl (pc0 := 47) (pc' := 57) rfl (hb hby d20_47) rfl ((if0 _ _).trans (teq hc316).1) (by decide) (by decide) (XS.iloadN X324.here hx rfl (hb hby d20_57) rfl (ld325 _ (XS.aloadN X324.here hx rfl (hb hby d20_60) rfl rfl (st326 _ ?_)))))))))
        refine st327.trans (sg328 _ ?_)
        exact kt
      by_cases hc329 : (own_at sg.2.2.2.2.1 p2) = (own_u sg.2.1)
      · obtain ⟨T331, h331, X331, e331, W331, st331⟩ := putFN X327 hx hZ hown (own_wk hw 96 rfl) Via.refl e327 F_de E_a0 (Or.inl (own_wk hw 97 rfl)) (own_wk hw 18 rfl) (ty := .boolean) (v' := (.int (1 : Int32))) (by decide) rfl (fits_nar_bool (1 : Int32)) (g := (mkF m 75 #[.val (.ref a0), .val (.ref a1), .val (.int p2), .val (.int (own_at sg.2.2.2.2.1 p2))] [.int 1, (.ref a0)])) rfl rfl (hb hby d20_75)
        have Fw331 := F_de.same W331
        have x332 := E_a0.wr W331
        have x333 := F_row.other W331 (Or.inr (slot_ne (Or.inl (own_wk hw 56 rfl)) (Or.inl (own_wk hw 97 rfl)) (by decide) (t := .int) (t' := .boolean) (by decide) (by decide)))
        have x334 := F_er.other W331 (Or.inr (slot_ne (Or.inl (own_wk hw 49 rfl)) (Or.inl (own_wk hw 97 rfl)) (by decide) (t := .int) (t' := .boolean) (by decide) (by decide)))
        have x335 := F_h.other W331 (Or.inr (slot_ne (Or.inr (own_wk hw 47 rfl)) (Or.inl (own_wk hw 97 rfl)) (by decide) (t := (.object "java/lang/StringBuilder")) (t' := .boolean) (by decide) (by decide)))
        have x336 := E_bd.wr W331
        have x337 := F_v.other W331 (Or.inl (Ne.symm ne_a0_bd))
        have x338 := F_c.other W331 (Or.inl (Ne.symm ne_a0_bd))
        have x339 := F_n.other W331 (Or.inl (Ne.symm ne_a0_bd))
        have x340 := V_vb.other W331 (Ne.symm ne_a0_vb)
        have x341 := V_a1.other W331 (Ne.symm ne_a0_a1)
        have x342 := O_.wr W331 ge_a0
        have x343 := E_la.wr W331
        have sz344 : n0 ≤ h331.size := Nat.le_trans Z0 (Keep.of_wr W331).1
        have kp345 : Keep h0 h331 [a0, a1, bd, vb] := (Keep.refl h0 [a0, a1, bd, vb]).wr W331 (Or.inl (List.mem_of_getElem? (i := 0) rfl))
        have N331 := Fr.snoc X331 N327 ge_a0
        obtain ⟨T346, X346, e346, st346⟩ := getF X331 hx hZ hown (host := "") (Or.inl (own_wk hw 48 rfl)) Via.refl e331 x334 (g := (mkF m 80 #[.val (.ref a0), .val (.ref a1), .val (.int p2), .val (.int (own_at sg.2.2.2.2.1 p2))] [(.ref a0), (.ref a0)])) rfl rfl (hb hby d20_80)
        obtain ⟨T347, h347, X347, e347, W347, st347⟩ := putF X346 hx hZ hown (host := "") (Or.inl (own_wk hw 48 rfl)) Via.refl e346 x334 x332 (Or.inl (own_wk hw 49 rfl)) (own_wk hw 18 rfl) (ty := .int) (by decide) rfl rfl (g := (mkF m 85 #[.val (.ref a0), .val (.ref a1), .val (.int p2), .val (.int (own_at sg.2.2.2.2.1 p2))] [(.int (sg.2.1 + (1 : Int32))), (.ref a0)])) rfl rfl (hb hby d20_85)
        have Fw347 := x334.same W347
        have x348 := x332.wr W347
        have x349 := x333.other W347 (Or.inr (slot_ne (Or.inl (own_wk hw 56 rfl)) (Or.inl (own_wk hw 49 rfl)) (by decide) (t := .int) (t' := .int) (by decide) (by decide)))
        have x350 := x335.other W347 (Or.inr (slot_ne (Or.inr (own_wk hw 47 rfl)) (Or.inl (own_wk hw 49 rfl)) (by decide) (t := (.object "java/lang/StringBuilder")) (t' := .int) (by decide) (by decide)))
        have x351 := x336.wr W347
        have x352 := x337.other W347 (Or.inl (Ne.symm ne_a0_bd))
        have x353 := x338.other W347 (Or.inl (Ne.symm ne_a0_bd))
        have x354 := x339.other W347 (Or.inl (Ne.symm ne_a0_bd))
        have x355 := x340.other W347 (Ne.symm ne_a0_vb)
        have x356 := x341.other W347 (Ne.symm ne_a0_a1)
        have x357 := x342.wr W347 ge_a0
        have x358 := x343.wr W347
        have x359 := Fw331.other W347 (Or.inr (slot_ne (Or.inl (own_wk hw 97 rfl)) (Or.inl (own_wk hw 49 rfl)) (by decide) (t := .boolean) (t' := .int) (by decide) (by decide)))
        have sz360 : n0 ≤ h347.size := Nat.le_trans sz344 (Keep.of_wr W347).1
        have kp361 : Keep h0 h347 [a0, a1, bd, vb] := kp345.wr W347 (Or.inl (List.mem_of_getElem? (i := 0) rfl))
        have N347 := Fr.snoc X347 N331 ge_a0
        obtain ⟨fs, hr, hrun, hended, hW, hsame⟩ := X347.leave (v := none) (fun _ => rfl)
        refine ⟨_, _, pre0 _ ?_, hrun, hended, _, _, rfl, ?_, ⟨_, rfl⟩, hW, hsame.mono (by decide) (by decide)⟩
        · show own_S p e below s₁ (mkF m 0 #[.val (.ref a0), .val (.ref a1), .val (.int p2), .unset] []) _
          refine cp330 _ (XS.icmpNo X327.here hx rfl (hb hby d20_67) rfl (teq hc329).2 (XS.iconst X327.here hx rfl (hb hby d20_70) (XS.goto X327.here hx rfl (pc0 := 71) (pc' := 75) rfl (hb hby d20_71) (by decide) (by decide) (st331 _ (XS.aloadN X331.here hx rfl (hb hby d20_78) rfl rfl (XS.dup X331.here hx rfl (hb hby d20_79) rfl rfl (st346 _ (XS.iconst X346.here hx rfl (hb hby d20_83) (XS.iadd X346.here hx rfl (hb hby d20_84) rfl ?_)))))))))
          refine st347 _ (XS.goto X347.here hx rfl (pc0 := 88) (pc' := 121) rfl (hb hby d20_88) (by decide) (by decide) ?_)
          show own_S p e below T347 (mkF m 121 #[.val (.ref a0), .val (.ref a1), .val (.int p2), .val (.int (own_at sg.2.2.2.2.1 p2))] []) _
          exact X347.returnOut hx Bd.returns (hb hby d20_121) hr
        · show Q20_r Z a0 a1 p2 bd vb k1 kb n sg cs gf la lba kl h0 n0 _ T347.heap _
          rw [e347]
          refine ⟨rfl, N347, kp361, ?_⟩
          rw [own_escL hld, show own_esc2 p2 sg = (sg.1, sg.2.1 + (1 : Int32), (1 : Int32), sg.2.2.2) from (if_pos hc322).trans (by rw [show own_de sg.2.1 sg.2.2.1 (own_at sg.2.2.2.2.1 p2) = (1 : Int32) from by unfold own_de; rw [if_pos hc316, if_pos hc329]])]
          exact ⟨x348, x349, Fw347, x359, x350, x351, x352, x353, x354, x355, x356⟩
      · obtain ⟨T362, h362, X362, e362, W362, st362⟩ := putFN X327 hx hZ hown (own_wk hw 96 rfl) Via.refl e327 F_de E_a0 (Or.inl (own_wk hw 97 rfl)) (own_wk hw 18 rfl) (ty := .boolean) (v' := (.int (0 : Int32))) (by decide) rfl (fits_nar_bool (0 : Int32)) (g := (mkF m 75 #[.val (.ref a0), .val (.ref a1), .val (.int p2), .val (.int (own_at sg.2.2.2.2.1 p2))] [.int 0, (.ref a0)])) rfl rfl (hb hby d20_75)
        have Fw362 := F_de.same W362
        have x363 := E_a0.wr W362
        have x364 := F_row.other W362 (Or.inr (slot_ne (Or.inl (own_wk hw 56 rfl)) (Or.inl (own_wk hw 97 rfl)) (by decide) (t := .int) (t' := .boolean) (by decide) (by decide)))
        have x365 := F_er.other W362 (Or.inr (slot_ne (Or.inl (own_wk hw 49 rfl)) (Or.inl (own_wk hw 97 rfl)) (by decide) (t := .int) (t' := .boolean) (by decide) (by decide)))
        have x366 := F_h.other W362 (Or.inr (slot_ne (Or.inr (own_wk hw 47 rfl)) (Or.inl (own_wk hw 97 rfl)) (by decide) (t := (.object "java/lang/StringBuilder")) (t' := .boolean) (by decide) (by decide)))
        have x367 := E_bd.wr W362
        have x368 := F_v.other W362 (Or.inl (Ne.symm ne_a0_bd))
        have x369 := F_c.other W362 (Or.inl (Ne.symm ne_a0_bd))
        have x370 := F_n.other W362 (Or.inl (Ne.symm ne_a0_bd))
        have x371 := V_vb.other W362 (Ne.symm ne_a0_vb)
        have x372 := V_a1.other W362 (Ne.symm ne_a0_a1)
        have x373 := O_.wr W362 ge_a0
        have x374 := E_la.wr W362
        have sz375 : n0 ≤ h362.size := Nat.le_trans Z0 (Keep.of_wr W362).1
        have kp376 : Keep h0 h362 [a0, a1, bd, vb] := (Keep.refl h0 [a0, a1, bd, vb]).wr W362 (Or.inl (List.mem_of_getElem? (i := 0) rfl))
        have N362 := Fr.snoc X362 N327 ge_a0
        obtain ⟨T377, X377, e377, st377⟩ := getF X362 hx hZ hown (host := "") (Or.inl (own_wk hw 48 rfl)) Via.refl e362 x365 (g := (mkF m 80 #[.val (.ref a0), .val (.ref a1), .val (.int p2), .val (.int (own_at sg.2.2.2.2.1 p2))] [(.ref a0), (.ref a0)])) rfl rfl (hb hby d20_80)
        obtain ⟨T378, h378, X378, e378, W378, st378⟩ := putF X377 hx hZ hown (host := "") (Or.inl (own_wk hw 48 rfl)) Via.refl e377 x365 x363 (Or.inl (own_wk hw 49 rfl)) (own_wk hw 18 rfl) (ty := .int) (by decide) rfl rfl (g := (mkF m 85 #[.val (.ref a0), .val (.ref a1), .val (.int p2), .val (.int (own_at sg.2.2.2.2.1 p2))] [(.int (sg.2.1 + (1 : Int32))), (.ref a0)])) rfl rfl (hb hby d20_85)
        have Fw378 := x365.same W378
        have x379 := x363.wr W378
        have x380 := x364.other W378 (Or.inr (slot_ne (Or.inl (own_wk hw 56 rfl)) (Or.inl (own_wk hw 49 rfl)) (by decide) (t := .int) (t' := .int) (by decide) (by decide)))
        have x381 := x366.other W378 (Or.inr (slot_ne (Or.inr (own_wk hw 47 rfl)) (Or.inl (own_wk hw 49 rfl)) (by decide) (t := (.object "java/lang/StringBuilder")) (t' := .int) (by decide) (by decide)))
        have x382 := x367.wr W378
        have x383 := x368.other W378 (Or.inl (Ne.symm ne_a0_bd))
        have x384 := x369.other W378 (Or.inl (Ne.symm ne_a0_bd))
        have x385 := x370.other W378 (Or.inl (Ne.symm ne_a0_bd))
        have x386 := x371.other W378 (Ne.symm ne_a0_vb)
        have x387 := x372.other W378 (Ne.symm ne_a0_a1)
        have x388 := x373.wr W378 ge_a0
        have x389 := x374.wr W378
        have x390 := Fw362.other W378 (Or.inr (slot_ne (Or.inl (own_wk hw 97 rfl)) (Or.inl (own_wk hw 49 rfl)) (by decide) (t := .boolean) (t' := .int) (by decide) (by decide)))
        have sz391 : n0 ≤ h378.size := Nat.le_trans sz375 (Keep.of_wr W378).1
        have kp392 : Keep h0 h378 [a0, a1, bd, vb] := kp376.wr W378 (Or.inl (List.mem_of_getElem? (i := 0) rfl))
        have N378 := Fr.snoc X378 N362 ge_a0
        obtain ⟨fs, hr, hrun, hended, hW, hsame⟩ := X378.leave (v := none) (fun _ => rfl)
        refine ⟨_, _, pre0 _ ?_, hrun, hended, _, _, rfl, ?_, ⟨_, rfl⟩, hW, hsame.mono (by decide) (by decide)⟩
        · show own_S p e below s₁ (mkF m 0 #[.val (.ref a0), .val (.ref a1), .val (.int p2), .unset] []) _
          refine cp330 _ (XS.icmpYes X327.here hx rfl (pc0 := 67) (pc' := 74) rfl (hb hby d20_67) rfl (feq hc329).2 (by decide) (by decide) (XS.iconst X327.here hx rfl (hb hby d20_74) (st362 _ (XS.aloadN X362.here hx rfl (hb hby d20_78) rfl rfl (XS.dup X362.here hx rfl (hb hby d20_79) rfl rfl (st377 _ (XS.iconst X377.here hx rfl (hb hby d20_83) (XS.iadd X377.here hx rfl (hb hby d20_84) rfl (st378 _ ?_)))))))))
          refine XS.goto X378.here hx rfl (pc0 := 88) (pc' := 121) rfl (hb hby d20_88) (by decide) (by decide) ?_
          show own_S p e below T378 (mkF m 121 #[.val (.ref a0), .val (.ref a1), .val (.int p2), .val (.int (own_at sg.2.2.2.2.1 p2))] []) _
          exact X378.returnOut hx Bd.returns (hb hby d20_121) hr
        · show Q20_r Z a0 a1 p2 bd vb k1 kb n sg cs gf la lba kl h0 n0 _ T378.heap _
          rw [e378]
          refine ⟨rfl, N378, kp392, ?_⟩
          rw [own_escL hld, show own_esc2 p2 sg = (sg.1, sg.2.1 + (1 : Int32), (0 : Int32), sg.2.2.2) from (if_pos hc322).trans (by rw [show own_de sg.2.1 sg.2.2.1 (own_at sg.2.2.2.2.1 p2) = (0 : Int32) from by unfold own_de; rw [if_pos hc316, if_neg hc329]])]
          exact ⟨x379, x380, Fw378, x390, x381, x382, x383, x384, x385, x386, x387⟩
    · obtain ⟨T393, X393, e393, st393⟩ := getF X320 hx hZ hown (host := "") (Or.inl (own_wk hw 96 rfl)) Via.refl e320 F_de (g := (mkF m 95 #[.val (.ref a0), .val (.ref a1), .val (.int p2), .val (.int (own_at sg.2.2.2.2.1 p2))] [(.ref a0), (.int p2), (.ref a1), (.ref a0)])) rfl rfl (hb hby d20_95)
      have cp395 : ∀ target, own_S p e below T393 (mkF m 98 #[.val (.ref a0), .val (.ref a1), .val (.int p2), .val (.int (own_at sg.2.2.2.2.1 p2))] [(.int sg.2.2.1), (.int p2), (.ref a1), (.ref a0)]) target → own_S p e below s₁ (mkF m 0 #[.val (.ref a0), .val (.ref a1), .val (.int p2), .unset] []) target := by
        intro target kt
        show own_S p e below s₁ (mkF m 0 #[.val (.ref a0), .val (.ref a1), .val (.int p2), .unset] []) _
        refine cp323 _ (XS.icmpYes X320.here hx rfl (pc0 := 39) (pc' := 91) rfl (hb hby d20_39) rfl (flt hc322).2.1 (by decide) (by decide) (XS.aloadN X320.here hx rfl (hb hby d20_91) rfl rfl (XS.aloadN X320.here hx rfl (hb hby d20_92) rfl rfl (XS.iloadN X320.here hx rfl (hb hby d20_93) rfl (XS.aloadN X320.here hx rfl (hb hby d20_94) rfl rfl (st393 _ ?_))))))
        exact kt
      by_cases hc394 : sg.2.2.1 = (0 : Int32)
      · obtain ⟨cq396, q396, q396'⟩ := E_a0.cell
        obtain ⟨_, _, ⟨T396, L396, k396, n396⟩, -, X396, ⟨Lc396, hQ396, l396, y396, z396⟩, st396⟩ := X393.privateBack hx (y := (⟨"com/example/needle_in_json/needleinjson/MaskedDigits", "count", "([CIZ)V"⟩ : MethodName)) hown (mvT hZ (own_wk hw 105 rfl)) (mvT hZ (own_wk hw 106 rfl)) (own_selp (ym := (⟨"com/example/needle_in_json/needleinjson/MaskedDigits", "mask", "([CII)V"⟩ : MethodName)) (mvT hZ (own_wk hw 53 rfl)) rfl (Cond.privateMethod_at (mvP hZ (own_wk hw 107 rfl) (args := #[]))) (mvT hZ (own_wk hw 106 rfl)) (by decide)) (Cond.privateMethod_at (mvP hZ (own_wk hw 107 rfl) (args := #[]))) (mvT hZ (own_wk hw 108 rfl)) (by decide) (backOf (W := 0) (rm21 l Z ag hw [] a0 a1 p2 (0 : Int32) bd vb k1 kb n sg cs gf h0 n0 Z0 hF hN hG O_ S_cs hcs S_gf rv_gf hi hKk (fun q => absurd rfl q)) hZ (own_wk hw 108 rfl) (own_wk hw 19 rfl) (by decide) (by decide)) (g := (mkF m 113 #[.val (.ref a0), .val (.ref a1), .val (.int p2), .val (.int (own_at sg.2.2.2.2.1 p2))] [.int 0, (.int p2), (.ref a1), (.ref a0)])) rfl (by rw [hml]; rfl) (Steps.refl _) (a := a0) (by rw [e393]; exact q396) q396' (argsL := [(.ref a1), (.int p2), (.int (0 : Int32))]) (rest := []) (lenOf pd_24 rfl) rfl (by show 2 * 0 + _ ≤ _; exact Nat.le_of_eq rfl) (hb hby d20_113) (fun _ _ => ⟨rfl, e393, (by decide : 0 + 0 ≤ _), (by decide : 0 + 0 ≤ _)⟩)
        dsimp only [Pt.U, Pt.locs, Pt.cells, Pt.slots] at X396 l396 y396 z396 st396 hQ396
        subst l396 y396 z396
        obtain ⟨rfl, N396q, K396, F396⟩ := hQ396
        have N396 := Fr.app N320 N396q
        have x397 := E_a0.keep K396
        have x398 := E_bd.keep K396
        have x399 := O_.keep K396 (allS ge_a0 (allS ge_a1 (allS ge_bd (allS ge_vb all0))))
        have x400 := E_la.keep K396
        have sz401 : n0 ≤ T396.heap.size := Nat.le_trans Z0 K396.1
        have kp402 : Keep h0 T396.heap [a0, a1, bd, vb] := (Keep.refl h0 [a0, a1, bd, vb]).trans K396 (allS (Or.inl (List.mem_of_getElem? (i := 0) rfl)) (allS (Or.inl (List.mem_of_getElem? (i := 1) rfl)) (allS (Or.inl (List.mem_of_getElem? (i := 2) rfl)) (allS (Or.inl (List.mem_of_getElem? (i := 3) rfl)) all0))))
        obtain ⟨m396_0, m396_1, m396_2, m396_3, m396_4, m396_5, m396_6, m396_7, m396_8, m396_9, m396_10⟩ := id F396
        obtain ⟨T403, h403, X403, e403, W403, st403⟩ := putF X396 hx hZ hown (host := "") (Or.inl (own_wk hw 48 rfl)) Via.refl rfl m396_2 m396_0 (Or.inl (own_wk hw 49 rfl)) (own_wk hw 18 rfl) (ty := .int) (by decide) rfl rfl (g := (mkF m 118 #[.val (.ref a0), .val (.ref a1), .val (.int p2), .val (.int (own_at sg.2.2.2.2.1 p2))] [.int (-1), (.ref a0)])) rfl rfl (hb hby d20_118)
        have Fw403 := m396_2.same W403
        have x404 := m396_0.wr W403
        have x405 := m396_5.wr W403
        have x406 := x399.wr W403 ge_a0
        have x407 := x400.wr W403
        have x408 := m396_1.other W403 (Or.inr (slot_ne (Or.inl (own_wk hw 56 rfl)) (Or.inl (own_wk hw 49 rfl)) (by decide) (t := .int) (t' := .int) (by decide) (by decide)))
        have x409 := m396_3.other W403 (Or.inr (slot_ne (Or.inl (own_wk hw 97 rfl)) (Or.inl (own_wk hw 49 rfl)) (by decide) (t := .boolean) (t' := .int) (by decide) (by decide)))
        have x410 := m396_4.other W403 (Or.inr (slot_ne (Or.inr (own_wk hw 47 rfl)) (Or.inl (own_wk hw 49 rfl)) (by decide) (t := (.object "java/lang/StringBuilder")) (t' := .int) (by decide) (by decide)))
        have x411 := m396_6.other W403 (Or.inl (Ne.symm ne_a0_bd))
        have x412 := m396_7.other W403 (Or.inl (Ne.symm ne_a0_bd))
        have x413 := m396_8.other W403 (Or.inl (Ne.symm ne_a0_bd))
        have x414 := m396_9.other W403 (Ne.symm ne_a0_vb)
        have x415 := m396_10.other W403 (Ne.symm ne_a0_a1)
        have sz416 : n0 ≤ h403.size := Nat.le_trans sz401 (Keep.of_wr W403).1
        have kp417 : Keep h0 h403 [a0, a1, bd, vb] := kp402.wr W403 (Or.inl (List.mem_of_getElem? (i := 0) rfl))
        have N403 := Fr.snoc X403 N396 ge_a0
        obtain ⟨fs, hr, hrun, hended, hW, hsame⟩ := X403.leave (v := none) (fun _ => rfl)
        refine ⟨_, _, pre0 _ ?_, hrun, hended, _, _, rfl, ?_, ⟨_, rfl⟩, hW, hsame.mono (by decide) (by decide)⟩
        · show own_S p e below s₁ (mkF m 0 #[.val (.ref a0), .val (.ref a1), .val (.int p2), .unset] []) _
          refine cp395 _ (XS.ifYes X393.here hx rfl (pc0 := 98) (pc' := 112) rfl (hb hby d20_98) rfl ((if0 _ _).trans (teq hc394).1) (by decide) (by decide) (XS.iconst X393.here hx rfl (hb hby d20_112) (st396.trans (XS.aloadN X396.here hx rfl (hb hby d20_116) rfl rfl (XS.iconst X396.here hx rfl (hb hby d20_117) (st403 _ ?_))))))
          show own_S p e below T403 (mkF m 121 #[.val (.ref a0), .val (.ref a1), .val (.int p2), .val (.int (own_at sg.2.2.2.2.1 p2))] []) _
          exact X403.returnOut hx Bd.returns (hb hby d20_121) hr
        · show Q20_r Z a0 a1 p2 bd vb k1 kb n sg cs gf la lba kl h0 n0 _ T403.heap _
          rw [e403]
          refine ⟨rfl, N403, kp417, ?_⟩
          rw [own_escL hld, show own_esc2 p2 sg = own_er (-1) (own_count p2 (0 : Int32) sg) from (if_neg hc322).trans (by rw [show own_fl sg.2.2.1 (own_at sg.2.2.2.2.1 p2) = (0 : Int32) from by unfold own_fl; rw [if_pos hc394]])]
          exact ⟨x404, x408, Fw403, x409, x410, x405, x411, x412, x413, x414, x415⟩
      · obtain ⟨_, _, ⟨T418, L418, k418, n418⟩, -, X418, ⟨Lc418, hQ418, l418, y418, z418⟩, st418⟩ := Jvm.LawKit.callS X393 hx (y := (⟨"com/example/needle_in_json/needleinjson/MaskedDigits", "isDigit", "(C)Z"⟩ : MethodName)) hown (mvT hZ (own_wk hw 64 rfl)) (mvT hZ (own_wk hw 65 rfl)) (mvT hZ (own_wk hw 19 rfl)) (mvT hZ (own_wk hw 66 rfl)) (by decide) (backOf (W := 3) (rm12 l Z ag hw [] (own_at sg.2.2.2.2.1 p2)  h0 n0 Z0 ) hZ (own_wk hw 66 rfl) (own_wk hw 19 rfl) (by decide) (by decide)) (g := (mkF m 102 #[.val (.ref a0), .val (.ref a1), .val (.int p2), .val (.int (own_at sg.2.2.2.2.1 p2))] [(.int (own_at sg.2.2.2.2.1 p2)), (.int p2), (.ref a1), (.ref a0)])) rfl (by rw [hml]; rfl) (argsL := [(.int (own_at sg.2.2.2.2.1 p2))]) (rest := [(.int p2), (.ref a1), (.ref a0)]) (lenOf pd_6 rfl) rfl (by show 2 * 0 + _ ≤ _; exact Nat.le_of_eq rfl) (hb hby d20_102) (fun _ _ => ⟨rfl, e393, (by decide : 0 + 0 ≤ _), (by decide : 0 + 0 ≤ _)⟩)
        dsimp only [Pt.U, Pt.locs, Pt.cells, Pt.slots] at X418 l418 y418 z418 st418 hQ418
        subst l418 y418 z418
        obtain ⟨rfl, N418q, e418⟩ := hQ418
        have N418 := Fr.app N320 N418q
        have cp420 : ∀ target, own_S p e below T418 (mkF m 105 #[.val (.ref a0), .val (.ref a1), .val (.int p2), .val (.int (own_at sg.2.2.2.2.1 p2))] [(.int (own_isD (own_at sg.2.2.2.2.1 p2))), (.int p2), (.ref a1), (.ref a0)]) target → own_S p e below s₁ (mkF m 0 #[.val (.ref a0), .val (.ref a1), .val (.int p2), .unset] []) target := by
          intro target kt
          show own_S p e below s₁ (mkF m 0 #[.val (.ref a0), .val (.ref a1), .val (.int p2), .unset] []) _
          refine cp395 _ (XS.ifNo X393.here hx rfl (hb hby d20_98) rfl ((if0 _ _).trans (feq hc394).1) (XS.iloadN X393.here hx rfl (hb hby d20_101) rfl (st418 _ ?_)))
          exact kt
        by_cases hc419 : (own_isD (own_at sg.2.2.2.2.1 p2)) = (0 : Int32)
        · obtain ⟨cq421, q421, q421'⟩ := E_a0.cell
          obtain ⟨_, _, ⟨T421, L421, k421, n421⟩, -, X421, ⟨Lc421, hQ421, l421, y421, z421⟩, st421⟩ := X418.privateBack hx (y := (⟨"com/example/needle_in_json/needleinjson/MaskedDigits", "count", "([CIZ)V"⟩ : MethodName)) hown (mvT hZ (own_wk hw 105 rfl)) (mvT hZ (own_wk hw 106 rfl)) (own_selp (ym := (⟨"com/example/needle_in_json/needleinjson/MaskedDigits", "mask", "([CII)V"⟩ : MethodName)) (mvT hZ (own_wk hw 53 rfl)) rfl (Cond.privateMethod_at (mvP hZ (own_wk hw 107 rfl) (args := #[]))) (mvT hZ (own_wk hw 106 rfl)) (by decide)) (Cond.privateMethod_at (mvP hZ (own_wk hw 107 rfl) (args := #[]))) (mvT hZ (own_wk hw 108 rfl)) (by decide) (backOf (W := 0) (rm21 l Z ag hw [] a0 a1 p2 (0 : Int32) bd vb k1 kb n sg cs gf h0 n0 Z0 hF hN hG O_ S_cs hcs S_gf rv_gf hi hKk (fun q => absurd rfl q)) hZ (own_wk hw 108 rfl) (own_wk hw 19 rfl) (by decide) (by decide)) (g := (mkF m 113 #[.val (.ref a0), .val (.ref a1), .val (.int p2), .val (.int (own_at sg.2.2.2.2.1 p2))] [.int 0, (.int p2), (.ref a1), (.ref a0)])) rfl (by rw [hml]; rfl) (Steps.refl _) (a := a0) (by rw [e418]; exact q421) q421' (argsL := [(.ref a1), (.int p2), (.int (0 : Int32))]) (rest := []) (lenOf pd_24 rfl) rfl (by show 2 * 0 + _ ≤ _; exact Nat.le_of_eq rfl) (hb hby d20_113) (fun _ _ => ⟨rfl, e418, (by decide : 0 + 0 ≤ _), (by decide : 0 + 0 ≤ _)⟩)
          dsimp only [Pt.U, Pt.locs, Pt.cells, Pt.slots] at X421 l421 y421 z421 st421 hQ421
          subst l421 y421 z421
          obtain ⟨rfl, N421q, K421, F421⟩ := hQ421
          have N421 := Fr.app N418 N421q
          have x422 := E_a0.keep K421
          have x423 := E_bd.keep K421
          have x424 := O_.keep K421 (allS ge_a0 (allS ge_a1 (allS ge_bd (allS ge_vb all0))))
          have x425 := E_la.keep K421
          have sz426 : n0 ≤ T421.heap.size := Nat.le_trans Z0 K421.1
          have kp427 : Keep h0 T421.heap [a0, a1, bd, vb] := (Keep.refl h0 [a0, a1, bd, vb]).trans K421 (allS (Or.inl (List.mem_of_getElem? (i := 0) rfl)) (allS (Or.inl (List.mem_of_getElem? (i := 1) rfl)) (allS (Or.inl (List.mem_of_getElem? (i := 2) rfl)) (allS (Or.inl (List.mem_of_getElem? (i := 3) rfl)) all0))))
          obtain ⟨m421_0, m421_1, m421_2, m421_3, m421_4, m421_5, m421_6, m421_7, m421_8, m421_9, m421_10⟩ := id F421
          obtain ⟨T428, h428, X428, e428, W428, st428⟩ := putF X421 hx hZ hown (host := "") (Or.inl (own_wk hw 48 rfl)) Via.refl rfl m421_2 m421_0 (Or.inl (own_wk hw 49 rfl)) (own_wk hw 18 rfl) (ty := .int) (by decide) rfl rfl (g := (mkF m 118 #[.val (.ref a0), .val (.ref a1), .val (.int p2), .val (.int (own_at sg.2.2.2.2.1 p2))] [.int (-1), (.ref a0)])) rfl rfl (hb hby d20_118)
          have Fw428 := m421_2.same W428
          have x429 := m421_0.wr W428
          have x430 := m421_5.wr W428
          have x431 := x424.wr W428 ge_a0
          have x432 := x425.wr W428
          have x433 := m421_1.other W428 (Or.inr (slot_ne (Or.inl (own_wk hw 56 rfl)) (Or.inl (own_wk hw 49 rfl)) (by decide) (t := .int) (t' := .int) (by decide) (by decide)))
          have x434 := m421_3.other W428 (Or.inr (slot_ne (Or.inl (own_wk hw 97 rfl)) (Or.inl (own_wk hw 49 rfl)) (by decide) (t := .boolean) (t' := .int) (by decide) (by decide)))
          have x435 := m421_4.other W428 (Or.inr (slot_ne (Or.inr (own_wk hw 47 rfl)) (Or.inl (own_wk hw 49 rfl)) (by decide) (t := (.object "java/lang/StringBuilder")) (t' := .int) (by decide) (by decide)))
          have x436 := m421_6.other W428 (Or.inl (Ne.symm ne_a0_bd))
          have x437 := m421_7.other W428 (Or.inl (Ne.symm ne_a0_bd))
          have x438 := m421_8.other W428 (Or.inl (Ne.symm ne_a0_bd))
          have x439 := m421_9.other W428 (Ne.symm ne_a0_vb)
          have x440 := m421_10.other W428 (Ne.symm ne_a0_a1)
          have sz441 : n0 ≤ h428.size := Nat.le_trans sz426 (Keep.of_wr W428).1
          have kp442 : Keep h0 h428 [a0, a1, bd, vb] := kp427.wr W428 (Or.inl (List.mem_of_getElem? (i := 0) rfl))
          have N428 := Fr.snoc X428 N421 ge_a0
          obtain ⟨fs, hr, hrun, hended, hW, hsame⟩ := X428.leave (v := none) (fun _ => rfl)
          refine ⟨_, _, pre0 _ ?_, hrun, hended, _, _, rfl, ?_, ⟨_, rfl⟩, hW, hsame.mono (by decide) (by decide)⟩
          · show own_S p e below s₁ (mkF m 0 #[.val (.ref a0), .val (.ref a1), .val (.int p2), .unset] []) _
            refine cp420 _ (XS.ifYes X418.here hx rfl (pc0 := 105) (pc' := 112) rfl (hb hby d20_105) rfl ((if0 _ _).trans (teq hc419).1) (by decide) (by decide) (XS.iconst X418.here hx rfl (hb hby d20_112) (st421.trans (XS.aloadN X421.here hx rfl (hb hby d20_116) rfl rfl (XS.iconst X421.here hx rfl (hb hby d20_117) (st428 _ ?_))))))
            show own_S p e below T428 (mkF m 121 #[.val (.ref a0), .val (.ref a1), .val (.int p2), .val (.int (own_at sg.2.2.2.2.1 p2))] []) _
            exact X428.returnOut hx Bd.returns (hb hby d20_121) hr
          · show Q20_r Z a0 a1 p2 bd vb k1 kb n sg cs gf la lba kl h0 n0 _ T428.heap _
            rw [e428]
            refine ⟨rfl, N428, kp442, ?_⟩
            rw [own_escL hld, show own_esc2 p2 sg = own_er (-1) (own_count p2 (0 : Int32) sg) from (if_neg hc322).trans (by rw [show own_fl sg.2.2.1 (own_at sg.2.2.2.2.1 p2) = (0 : Int32) from by unfold own_fl; rw [if_neg hc394, if_pos hc419]])]
            exact ⟨x429, x433, Fw428, x434, x435, x430, x436, x437, x438, x439, x440⟩
        · obtain ⟨cq443, q443, q443'⟩ := E_a0.cell
          obtain ⟨_, _, ⟨T443, L443, k443, n443⟩, -, X443, ⟨Lc443, hQ443, l443, y443, z443⟩, st443⟩ := X418.privateBack hx (y := (⟨"com/example/needle_in_json/needleinjson/MaskedDigits", "count", "([CIZ)V"⟩ : MethodName)) hown (mvT hZ (own_wk hw 105 rfl)) (mvT hZ (own_wk hw 106 rfl)) (own_selp (ym := (⟨"com/example/needle_in_json/needleinjson/MaskedDigits", "mask", "([CII)V"⟩ : MethodName)) (mvT hZ (own_wk hw 53 rfl)) rfl (Cond.privateMethod_at (mvP hZ (own_wk hw 107 rfl) (args := #[]))) (mvT hZ (own_wk hw 106 rfl)) (by decide)) (Cond.privateMethod_at (mvP hZ (own_wk hw 107 rfl) (args := #[]))) (mvT hZ (own_wk hw 108 rfl)) (by decide) (backOf (W := 0) (rm21 l Z ag hw [] a0 a1 p2 (1 : Int32) bd vb k1 kb n sg cs gf h0 n0 Z0 hF hN hG O_ S_cs hcs S_gf rv_gf hi hKk (fun _ => hc419)) hZ (own_wk hw 108 rfl) (own_wk hw 19 rfl) (by decide) (by decide)) (g := (mkF m 113 #[.val (.ref a0), .val (.ref a1), .val (.int p2), .val (.int (own_at sg.2.2.2.2.1 p2))] [.int 1, (.int p2), (.ref a1), (.ref a0)])) rfl (by rw [hml]; rfl) (Steps.refl _) (a := a0) (by rw [e418]; exact q443) q443' (argsL := [(.ref a1), (.int p2), (.int (1 : Int32))]) (rest := []) (lenOf pd_24 rfl) rfl (by show 2 * 0 + _ ≤ _; exact Nat.le_of_eq rfl) (hb hby d20_113) (fun _ _ => ⟨rfl, e418, (by decide : 0 + 0 ≤ _), (by decide : 0 + 0 ≤ _)⟩)
          dsimp only [Pt.U, Pt.locs, Pt.cells, Pt.slots] at X443 l443 y443 z443 st443 hQ443
          subst l443 y443 z443
          obtain ⟨rfl, N443q, K443, F443⟩ := hQ443
          have N443 := Fr.app N418 N443q
          have x444 := E_a0.keep K443
          have x445 := E_bd.keep K443
          have x446 := O_.keep K443 (allS ge_a0 (allS ge_a1 (allS ge_bd (allS ge_vb all0))))
          have x447 := E_la.keep K443
          have sz448 : n0 ≤ T443.heap.size := Nat.le_trans Z0 K443.1
          have kp449 : Keep h0 T443.heap [a0, a1, bd, vb] := (Keep.refl h0 [a0, a1, bd, vb]).trans K443 (allS (Or.inl (List.mem_of_getElem? (i := 0) rfl)) (allS (Or.inl (List.mem_of_getElem? (i := 1) rfl)) (allS (Or.inl (List.mem_of_getElem? (i := 2) rfl)) (allS (Or.inl (List.mem_of_getElem? (i := 3) rfl)) all0))))
          obtain ⟨m443_0, m443_1, m443_2, m443_3, m443_4, m443_5, m443_6, m443_7, m443_8, m443_9, m443_10⟩ := id F443
          obtain ⟨T450, h450, X450, e450, W450, st450⟩ := putF X443 hx hZ hown (host := "") (Or.inl (own_wk hw 48 rfl)) Via.refl rfl m443_2 m443_0 (Or.inl (own_wk hw 49 rfl)) (own_wk hw 18 rfl) (ty := .int) (by decide) rfl rfl (g := (mkF m 118 #[.val (.ref a0), .val (.ref a1), .val (.int p2), .val (.int (own_at sg.2.2.2.2.1 p2))] [.int (-1), (.ref a0)])) rfl rfl (hb hby d20_118)
          have Fw450 := m443_2.same W450
          have x451 := m443_0.wr W450
          have x452 := m443_5.wr W450
          have x453 := x446.wr W450 ge_a0
          have x454 := x447.wr W450
          have x455 := m443_1.other W450 (Or.inr (slot_ne (Or.inl (own_wk hw 56 rfl)) (Or.inl (own_wk hw 49 rfl)) (by decide) (t := .int) (t' := .int) (by decide) (by decide)))
          have x456 := m443_3.other W450 (Or.inr (slot_ne (Or.inl (own_wk hw 97 rfl)) (Or.inl (own_wk hw 49 rfl)) (by decide) (t := .boolean) (t' := .int) (by decide) (by decide)))
          have x457 := m443_4.other W450 (Or.inr (slot_ne (Or.inr (own_wk hw 47 rfl)) (Or.inl (own_wk hw 49 rfl)) (by decide) (t := (.object "java/lang/StringBuilder")) (t' := .int) (by decide) (by decide)))
          have x458 := m443_6.other W450 (Or.inl (Ne.symm ne_a0_bd))
          have x459 := m443_7.other W450 (Or.inl (Ne.symm ne_a0_bd))
          have x460 := m443_8.other W450 (Or.inl (Ne.symm ne_a0_bd))
          have x461 := m443_9.other W450 (Ne.symm ne_a0_vb)
          have x462 := m443_10.other W450 (Ne.symm ne_a0_a1)
          have sz463 : n0 ≤ h450.size := Nat.le_trans sz448 (Keep.of_wr W450).1
          have kp464 : Keep h0 h450 [a0, a1, bd, vb] := kp449.wr W450 (Or.inl (List.mem_of_getElem? (i := 0) rfl))
          have N450 := Fr.snoc X450 N443 ge_a0
          obtain ⟨fs, hr, hrun, hended, hW, hsame⟩ := X450.leave (v := none) (fun _ => rfl)
          refine ⟨_, _, pre0 _ ?_, hrun, hended, _, _, rfl, ?_, ⟨_, rfl⟩, hW, hsame.mono (by decide) (by decide)⟩
          · show own_S p e below s₁ (mkF m 0 #[.val (.ref a0), .val (.ref a1), .val (.int p2), .unset] []) _
            refine cp420 _ (XS.ifNo X418.here hx rfl (hb hby d20_105) rfl ((if0 _ _).trans (feq hc419).1) (XS.iconst X418.here hx rfl (hb hby d20_108) (XS.goto X418.here hx rfl (pc0 := 109) (pc' := 113) rfl (hb hby d20_109) (by decide) (by decide) (st443.trans (XS.aloadN X443.here hx rfl (hb hby d20_116) rfl rfl (XS.iconst X443.here hx rfl (hb hby d20_117) (st450 _ ?_)))))))
            show own_S p e below T450 (mkF m 121 #[.val (.ref a0), .val (.ref a1), .val (.int p2), .val (.int (own_at sg.2.2.2.2.1 p2))] []) _
            exact X450.returnOut hx Bd.returns (hb hby d20_121) hr
          · show Q20_r Z a0 a1 p2 bd vb k1 kb n sg cs gf la lba kl h0 n0 _ T450.heap _
            rw [e450]
            refine ⟨rfl, N450, kp464, ?_⟩
            rw [own_escL hld, show own_esc2 p2 sg = own_er (-1) (own_count p2 (1 : Int32) sg) from (if_neg hc322).trans (by rw [show own_fl sg.2.2.1 (own_at sg.2.2.2.2.1 p2) = (1 : Int32) from by unfold own_fl; rw [if_neg hc394, if_neg hc419]])]
            exact ⟨x451, x455, Fw450, x456, x457, x452, x458, x459, x460, x461, x462⟩
  · obtain ⟨T465, X465, e465, st465⟩ := getF X315 hx hZ hown (host := "") (Or.inl (own_wk hw 48 rfl)) Via.refl e315 F_er (g := (mkF m 31 #[.val (.ref a0), .val (.ref a1), .val (.int p2), .val (.int (own_at sg.2.2.2.2.1 p2))] [(.ref a0)])) rfl rfl (hb hby d20_31)
    have ld466 := ldcAgain (s := s) (vm0 := s.vm) X465 hx hZ hown (own_wk hw 166 rfl) hLs (g := (mkF m 34 #[.val (.ref a0), .val (.ref a1), .val (.int p2), .val (.int (own_at sg.2.2.2.2.1 p2))] [(.int sg.2.1)])) rfl (hb hby d20_34)
    obtain ⟨cq467, kq467, q467a, q467b, q467c⟩ := isOf hZ e465 E_la
    obtain ⟨_, _, ⟨T467, L467, k467, n467⟩, -, X467, ⟨Lc467, hQ467, l467, y467, z467⟩, st467⟩ := X465.virtualBack hx (y := (⟨"java/lang/String", "length", "()I"⟩ : MethodName)) (z := (⟨"java/lang/String", "length", "()I"⟩ : MethodName)) hown (mvT hZ (own_wk hw 169 rfl)) (mvT hZ (own_wk hw 170 rfl)) (notFace_of_selects (args := #[]) (mvT hZ (own_wk hw 172 rfl))) (mvT hZ (own_wk hw 172 rfl)) (mvT hZ (own_wk hw 171 rfl)) (by decide) (backOf (W := 1) (rm34 l Z ag hw [] la lba kl (4 : Int32) [(.int (117 : Int32)), (.int (48 : Int32)), (.int (48 : Int32)), (.int (51 : Int32))] (0 : Int32) cs h0 n0 Z0 E_la F_lv F_lc V_lb O_ S_cs hcs) hZ (own_wk hw 173 rfl) (own_wk hw 40 rfl) (by decide) (by decide)) q467a q467c (g := (mkF m 36 #[.val (.ref a0), .val (.ref a1), .val (.int p2), .val (.int (own_at sg.2.2.2.2.1 p2))] [(.ref la), (.int sg.2.1)])) rfl (by rw [hml]; rfl) (Steps.refl _) (argsL := []) (rest := [(.int sg.2.1)]) (lenOf pd_1 rfl) rfl (by show 2 * 0 + _ ≤ _; exact Nat.le_of_eq rfl) (hb hby d20_36) (fun _ _ => ⟨rfl, e465, (by decide : 0 + 0 ≤ _), (by decide : 0 + 0 ≤ _)⟩)
    dsimp only [Pt.U, Pt.locs, Pt.cells, Pt.slots] at X467 l467 y467 z467 st467 hQ467
    subst l467 y467 z467
    obtain ⟨rfl, N467q, e467⟩ := hQ467
    have N467 := Fr.app N0 N467q
    have sg468 : ∀ target, Steps p.tables e below (T467.setTop (mkF m 39 #[.val (.ref a0), .val (.ref a1), .val (.int p2), .val (.int (own_at sg.2.2.2.2.1 p2))] [.int 4, (.int sg.2.1)])) target → Steps p.tables e below (T467.setTop (mkF m 39 #[.val (.ref a0), .val (.ref a1), .val (.int p2), .val (.int (own_at sg.2.2.2.2.1 p2))] [(.int ((4 : Int32) >>> ((nar .byte (0 : Int32)) &&& 31))), (.int sg.2.1)])) target := by rw [show ((4 : Int32) >>> ((nar .byte (0 : Int32)) &&& 31)) = (4 : Int32) from by decide]; exact fun _ k => k
    have cp470 : ∀ target, own_S p e below T467 (mkF m 39 #[.val (.ref a0), .val (.ref a1), .val (.int p2), .val (.int (own_at sg.2.2.2.2.1 p2))] [.int 4, (.int sg.2.1)]) target → own_S p e below s₁ (mkF m 0 #[.val (.ref a0), .val (.ref a1), .val (.int p2), .unset] []) target := by
      intro target kt
      show own_S p e below s₁ (mkF m 0 #[.val (.ref a0), .val (.ref a1), .val (.int p2), .unset] []) _
      refine cp317 _ (XS.ifYes X315.here hx rfl (pc0 := 8) (pc' := 30) rfl (hb hby d20_8) rfl ((if0 _ _).trans (feq hc316).2) (by decide) (by decide) (XS.aloadN X315.here hx rfl (hb hby d20_30) rfl rfl (st465 _ (ld466 _ (st467.trans (sg468 _ ?_))))))
      exact kt
    by_cases hc469 : sg.2.1 < (4 : Int32)
    · obtain ⟨T471, X471, e471, st471⟩ := getF X467 hx hZ hown (host := "") (Or.inl (own_wk hw 48 rfl)) Via.refl e467 F_er (g := (mkF m 44 #[.val (.ref a0), .val (.ref a1), .val (.int p2), .val (.int (own_at sg.2.2.2.2.1 p2))] [(.ref a0), (.ref a0)])) rfl rfl (hb hby d20_44)
      obtain ⟨T472, X472, e472, st472⟩ := getF X471 hx hZ hown (host := "") (Or.inl (own_wk hw 96 rfl)) Via.refl e471 F_de (g := (mkF m 51 #[.val (.ref a0), .val (.ref a1), .val (.int p2), .val (.int (own_at sg.2.2.2.2.1 p2))] [(.ref a0), (.ref a0)])) rfl rfl (hb hby d20_51)
      have cp474 : ∀ target, own_S p e below T472 (mkF m 54 #[.val (.ref a0), .val (.ref a1), .val (.int p2), .val (.int (own_at sg.2.2.2.2.1 p2))] [(.int sg.2.2.1), (.ref a0)]) target → own_S p e below s₁ (mkF m 0 #[.val (.ref a0), .val (.ref a1), .val (.int p2), .unset] []) target := by
        intro target kt
        show own_S p e below s₁ (mkF m 0 #[.val (.ref a0), .val (.ref a1), .val (.int p2), .unset] []) _
        refine cp470 _ (XS.icmpNo X467.here hx rfl (hb hby d20_39) rfl (tlt hc469).2.1 (XS.aloadN X467.here hx rfl (hb hby d20_42) rfl rfl (XS.aloadN X467.here hx rfl (hb hby d20_43) rfl rfl (st471 _ (XS.ifNo X471.here hx rfl (hb hby d20_47) rfl ((if0 _ _).trans (feq hc316).1) (XS.aloadN X471.here hx rfl (hb hby d20_50) rfl rfl (st472 _ ?_)))))))
        exact kt
      by_cases hc473 : sg.2.2.1 = (0 : Int32)
      · obtain ⟨T475, h475, X475, e475, W475, st475⟩ := putFN X472 hx hZ hown (own_wk hw 96 rfl) Via.refl e472 F_de E_a0 (Or.inl (own_wk hw 97 rfl)) (own_wk hw 18 rfl) (ty := .boolean) (v' := (.int (0 : Int32))) (by decide) rfl (fits_nar_bool (0 : Int32)) (g := (mkF m 75 #[.val (.ref a0), .val (.ref a1), .val (.int p2), .val (.int (own_at sg.2.2.2.2.1 p2))] [.int 0, (.ref a0)])) rfl rfl (hb hby d20_75)
        have Fw475 := F_de.same W475
        have x476 := E_a0.wr W475
        have x477 := F_row.other W475 (Or.inr (slot_ne (Or.inl (own_wk hw 56 rfl)) (Or.inl (own_wk hw 97 rfl)) (by decide) (t := .int) (t' := .boolean) (by decide) (by decide)))
        have x478 := F_er.other W475 (Or.inr (slot_ne (Or.inl (own_wk hw 49 rfl)) (Or.inl (own_wk hw 97 rfl)) (by decide) (t := .int) (t' := .boolean) (by decide) (by decide)))
        have x479 := F_h.other W475 (Or.inr (slot_ne (Or.inr (own_wk hw 47 rfl)) (Or.inl (own_wk hw 97 rfl)) (by decide) (t := (.object "java/lang/StringBuilder")) (t' := .boolean) (by decide) (by decide)))
        have x480 := E_bd.wr W475
        have x481 := F_v.other W475 (Or.inl (Ne.symm ne_a0_bd))
        have x482 := F_c.other W475 (Or.inl (Ne.symm ne_a0_bd))
        have x483 := F_n.other W475 (Or.inl (Ne.symm ne_a0_bd))
        have x484 := V_vb.other W475 (Ne.symm ne_a0_vb)
        have x485 := V_a1.other W475 (Ne.symm ne_a0_a1)
        have x486 := O_.wr W475 ge_a0
        have x487 := E_la.wr W475
        have sz488 : n0 ≤ h475.size := Nat.le_trans Z0 (Keep.of_wr W475).1
        have kp489 : Keep h0 h475 [a0, a1, bd, vb] := (Keep.refl h0 [a0, a1, bd, vb]).wr W475 (Or.inl (List.mem_of_getElem? (i := 0) rfl))
        have N475 := Fr.snoc X475 N467 ge_a0
        obtain ⟨T490, X490, e490, st490⟩ := getF X475 hx hZ hown (host := "") (Or.inl (own_wk hw 48 rfl)) Via.refl e475 x478 (g := (mkF m 80 #[.val (.ref a0), .val (.ref a1), .val (.int p2), .val (.int (own_at sg.2.2.2.2.1 p2))] [(.ref a0), (.ref a0)])) rfl rfl (hb hby d20_80)
        obtain ⟨T491, h491, X491, e491, W491, st491⟩ := putF X490 hx hZ hown (host := "") (Or.inl (own_wk hw 48 rfl)) Via.refl e490 x478 x476 (Or.inl (own_wk hw 49 rfl)) (own_wk hw 18 rfl) (ty := .int) (by decide) rfl rfl (g := (mkF m 85 #[.val (.ref a0), .val (.ref a1), .val (.int p2), .val (.int (own_at sg.2.2.2.2.1 p2))] [(.int (sg.2.1 + (1 : Int32))), (.ref a0)])) rfl rfl (hb hby d20_85)
        have Fw491 := x478.same W491
        have x492 := x476.wr W491
        have x493 := x477.other W491 (Or.inr (slot_ne (Or.inl (own_wk hw 56 rfl)) (Or.inl (own_wk hw 49 rfl)) (by decide) (t := .int) (t' := .int) (by decide) (by decide)))
        have x494 := x479.other W491 (Or.inr (slot_ne (Or.inr (own_wk hw 47 rfl)) (Or.inl (own_wk hw 49 rfl)) (by decide) (t := (.object "java/lang/StringBuilder")) (t' := .int) (by decide) (by decide)))
        have x495 := x480.wr W491
        have x496 := x481.other W491 (Or.inl (Ne.symm ne_a0_bd))
        have x497 := x482.other W491 (Or.inl (Ne.symm ne_a0_bd))
        have x498 := x483.other W491 (Or.inl (Ne.symm ne_a0_bd))
        have x499 := x484.other W491 (Ne.symm ne_a0_vb)
        have x500 := x485.other W491 (Ne.symm ne_a0_a1)
        have x501 := x486.wr W491 ge_a0
        have x502 := x487.wr W491
        have x503 := Fw475.other W491 (Or.inr (slot_ne (Or.inl (own_wk hw 97 rfl)) (Or.inl (own_wk hw 49 rfl)) (by decide) (t := .boolean) (t' := .int) (by decide) (by decide)))
        have sz504 : n0 ≤ h491.size := Nat.le_trans sz488 (Keep.of_wr W491).1
        have kp505 : Keep h0 h491 [a0, a1, bd, vb] := kp489.wr W491 (Or.inl (List.mem_of_getElem? (i := 0) rfl))
        have N491 := Fr.snoc X491 N475 ge_a0
        obtain ⟨fs, hr, hrun, hended, hW, hsame⟩ := X491.leave (v := none) (fun _ => rfl)
        refine ⟨_, _, pre0 _ ?_, hrun, hended, _, _, rfl, ?_, ⟨_, rfl⟩, hW, hsame.mono (by decide) (by decide)⟩
        · show own_S p e below s₁ (mkF m 0 #[.val (.ref a0), .val (.ref a1), .val (.int p2), .unset] []) _
          refine cp474 _ (XS.ifYes X472.here hx rfl (pc0 := 54) (pc' := 74) rfl (hb hby d20_54) rfl ((if0 _ _).trans (teq hc473).1) (by decide) (by decide) (XS.iconst X472.here hx rfl (hb hby d20_74) (st475 _ (XS.aloadN X475.here hx rfl (hb hby d20_78) rfl rfl (XS.dup X475.here hx rfl (hb hby d20_79) rfl rfl (st490 _ (XS.iconst X490.here hx rfl (hb hby d20_83) (XS.iadd X490.here hx rfl (hb hby d20_84) rfl (st491 _ ?_)))))))))
          refine XS.goto X491.here hx rfl (pc0 := 88) (pc' := 121) rfl (hb hby d20_88) (by decide) (by decide) ?_
          show own_S p e below T491 (mkF m 121 #[.val (.ref a0), .val (.ref a1), .val (.int p2), .val (.int (own_at sg.2.2.2.2.1 p2))] []) _
          exact X491.returnOut hx Bd.returns (hb hby d20_121) hr
        · show Q20_r Z a0 a1 p2 bd vb k1 kb n sg cs gf la lba kl h0 n0 _ T491.heap _
          rw [e491]
          refine ⟨rfl, N491, kp505, ?_⟩
          rw [own_escL hld, show own_esc2 p2 sg = (sg.1, sg.2.1 + (1 : Int32), (0 : Int32), sg.2.2.2) from (if_pos hc469).trans (by rw [show own_de sg.2.1 sg.2.2.1 (own_at sg.2.2.2.2.1 p2) = (0 : Int32) from by unfold own_de; rw [if_neg hc316, if_pos hc473]])]
          exact ⟨x492, x493, Fw491, x503, x494, x495, x496, x497, x498, x499, x500⟩
      · have ld506 := ldcAgain (s := s) (vm0 := s.vm) X472 hx hZ hown (own_wk hw 166 rfl) hLs (g := (mkF m 58 #[.val (.ref a0), .val (.ref a1), .val (.int p2), .val (.int (own_at sg.2.2.2.2.1 p2))] [(.int (own_at sg.2.2.2.2.1 p2)), (.ref a0)])) rfl (hb hby d20_58)
        obtain ⟨T507, X507, e507, st507⟩ := getF X472 hx hZ hown (host := "") (Or.inl (own_wk hw 48 rfl)) Via.refl e472 F_er (g := (mkF m 61 #[.val (.ref a0), .val (.ref a1), .val (.int p2), .val (.int (own_at sg.2.2.2.2.1 p2))] [(.ref a0), (.ref la), (.int (own_at sg.2.2.2.2.1 p2)), (.ref a0)])) rfl rfl (hb hby d20_61)
        obtain ⟨cq508, kq508, q508a, q508b, q508c⟩ := isOf hZ e507 E_la
        obtain ⟨_, _, ⟨T508, L508, k508, n508⟩, -, X508, ⟨Lc508, hQ508, l508, y508, z508⟩, st508⟩ := X507.virtualBack hx (y := (⟨"java/lang/String", "charAt", "(I)C"⟩ : MethodName)) (z := (⟨"java/lang/String", "charAt", "(I)C"⟩ : MethodName)) hown (mvT hZ (own_wk hw 179 rfl)) (mvT hZ (own_wk hw 180 rfl)) (notFace_of_selects (args := #[]) (mvT hZ (own_wk hw 182 rfl))) (mvT hZ (own_wk hw 182 rfl)) (mvT hZ (own_wk hw 181 rfl)) (by decide) (backOf (W := 2) (rm36 l Z ag hw [] la sg.2.1 lba kl (4 : Int32) [(.int (117 : Int32)), (.int (48 : Int32)), (.int (48 : Int32)), (.int (51 : Int32))] (own_u sg.2.1) cs gf h0 n0 Z0 E_la F_lv F_lc V_lb hge hc469 (own_ug sg.2.1) O_ S_cs hcs S_gf rv_gf) hZ (own_wk hw 183 rfl) (own_wk hw 40 rfl) (by decide) (by decide)) q508a q508c (g := (mkF m 64 #[.val (.ref a0), .val (.ref a1), .val (.int p2), .val (.int (own_at sg.2.2.2.2.1 p2))] [(.int sg.2.1), (.ref la), (.int (own_at sg.2.2.2.2.1 p2)), (.ref a0)])) rfl (by rw [hml]; rfl) (Steps.refl _) (argsL := [(.int sg.2.1)]) (rest := [(.int (own_at sg.2.2.2.2.1 p2)), (.ref a0)]) (lenOf pd_7 rfl) rfl (by show 2 * 0 + _ ≤ _; exact Nat.le_of_eq rfl) (hb hby d20_64) (fun _ _ => ⟨rfl, e507, (by decide : 0 + 0 ≤ _), (by decide : 0 + 0 ≤ _)⟩)
        dsimp only [Pt.U, Pt.locs, Pt.cells, Pt.slots] at X508 l508 y508 z508 st508 hQ508
        subst l508 y508 z508
        obtain ⟨rfl, N508q, e508⟩ := hQ508
        have N508 := Fr.app N467 N508q
        have sg509 : ∀ target, Steps p.tables e below (T508.setTop (mkF m 67 #[.val (.ref a0), .val (.ref a1), .val (.int p2), .val (.int (own_at sg.2.2.2.2.1 p2))] [(.int (own_u sg.2.1)), (.int (own_at sg.2.2.2.2.1 p2)), (.ref a0)])) target → Steps p.tables e below (T508.setTop (mkF m 67 #[.val (.ref a0), .val (.ref a1), .val (.int p2), .val (.int (own_at sg.2.2.2.2.1 p2))] [(.int (nar .char (nar .char (((own_u sg.2.1) &&& (255 : Int32)).toUInt32.toUInt16.toUInt32.toInt32)))), (.int (own_at sg.2.2.2.2.1 p2)), (.ref a0)])) target := by rw [own_uc hge hc469]; exact fun _ k => k
        have cp511 : ∀ target, own_S p e below T508 (mkF m 67 #[.val (.ref a0), .val (.ref a1), .val (.int p2), .val (.int (own_at sg.2.2.2.2.1 p2))] [(.int (own_u sg.2.1)), (.int (own_at sg.2.2.2.2.1 p2)), (.ref a0)]) target → own_S p e below s₁ (mkF m 0 #[.val (.ref a0), .val (.ref a1), .val (.int p2), .unset] []) target := by
          intro target kt
          show own_S p e below s₁ (mkF m 0 #[.val (.ref a0), .val (.ref a1), .val (.int p2), .unset] []) _
          refine cp474 _ (XS.ifNo X472.here hx rfl (hb hby d20_54) rfl ((if0 _ _).trans (feq hc473).1) (XS.iloadN X472.here hx rfl (hb hby d20_57) rfl (ld506 _ (XS.aloadN X472.here hx rfl (hb hby d20_60) rfl rfl (st507 _ (st508.trans (sg509 _ ?_)))))))
          exact kt
        by_cases hc510 : (own_at sg.2.2.2.2.1 p2) = (own_u sg.2.1)
        · obtain ⟨T512, h512, X512, e512, W512, st512⟩ := putFN X508 hx hZ hown (own_wk hw 96 rfl) Via.refl e508 F_de E_a0 (Or.inl (own_wk hw 97 rfl)) (own_wk hw 18 rfl) (ty := .boolean) (v' := (.int (1 : Int32))) (by decide) rfl (fits_nar_bool (1 : Int32)) (g := (mkF m 75 #[.val (.ref a0), .val (.ref a1), .val (.int p2), .val (.int (own_at sg.2.2.2.2.1 p2))] [.int 1, (.ref a0)])) rfl rfl (hb hby d20_75)
          have Fw512 := F_de.same W512
          have x513 := E_a0.wr W512
          have x514 := F_row.other W512 (Or.inr (slot_ne (Or.inl (own_wk hw 56 rfl)) (Or.inl (own_wk hw 97 rfl)) (by decide) (t := .int) (t' := .boolean) (by decide) (by decide)))
          have x515 := F_er.other W512 (Or.inr (slot_ne (Or.inl (own_wk hw 49 rfl)) (Or.inl (own_wk hw 97 rfl)) (by decide) (t := .int) (t' := .boolean) (by decide) (by decide)))
          have x516 := F_h.other W512 (Or.inr (slot_ne (Or.inr (own_wk hw 47 rfl)) (Or.inl (own_wk hw 97 rfl)) (by decide) (t := (.object "java/lang/StringBuilder")) (t' := .boolean) (by decide) (by decide)))
          have x517 := E_bd.wr W512
          have x518 := F_v.other W512 (Or.inl (Ne.symm ne_a0_bd))
          have x519 := F_c.other W512 (Or.inl (Ne.symm ne_a0_bd))
          have x520 := F_n.other W512 (Or.inl (Ne.symm ne_a0_bd))
          have x521 := V_vb.other W512 (Ne.symm ne_a0_vb)
          have x522 := V_a1.other W512 (Ne.symm ne_a0_a1)
          have x523 := O_.wr W512 ge_a0
          have x524 := E_la.wr W512
          have sz525 : n0 ≤ h512.size := Nat.le_trans Z0 (Keep.of_wr W512).1
          have kp526 : Keep h0 h512 [a0, a1, bd, vb] := (Keep.refl h0 [a0, a1, bd, vb]).wr W512 (Or.inl (List.mem_of_getElem? (i := 0) rfl))
          have N512 := Fr.snoc X512 N508 ge_a0
          obtain ⟨T527, X527, e527, st527⟩ := getF X512 hx hZ hown (host := "") (Or.inl (own_wk hw 48 rfl)) Via.refl e512 x515 (g := (mkF m 80 #[.val (.ref a0), .val (.ref a1), .val (.int p2), .val (.int (own_at sg.2.2.2.2.1 p2))] [(.ref a0), (.ref a0)])) rfl rfl (hb hby d20_80)
          obtain ⟨T528, h528, X528, e528, W528, st528⟩ := putF X527 hx hZ hown (host := "") (Or.inl (own_wk hw 48 rfl)) Via.refl e527 x515 x513 (Or.inl (own_wk hw 49 rfl)) (own_wk hw 18 rfl) (ty := .int) (by decide) rfl rfl (g := (mkF m 85 #[.val (.ref a0), .val (.ref a1), .val (.int p2), .val (.int (own_at sg.2.2.2.2.1 p2))] [(.int (sg.2.1 + (1 : Int32))), (.ref a0)])) rfl rfl (hb hby d20_85)
          have Fw528 := x515.same W528
          have x529 := x513.wr W528
          have x530 := x514.other W528 (Or.inr (slot_ne (Or.inl (own_wk hw 56 rfl)) (Or.inl (own_wk hw 49 rfl)) (by decide) (t := .int) (t' := .int) (by decide) (by decide)))
          have x531 := x516.other W528 (Or.inr (slot_ne (Or.inr (own_wk hw 47 rfl)) (Or.inl (own_wk hw 49 rfl)) (by decide) (t := (.object "java/lang/StringBuilder")) (t' := .int) (by decide) (by decide)))
          have x532 := x517.wr W528
          have x533 := x518.other W528 (Or.inl (Ne.symm ne_a0_bd))
          have x534 := x519.other W528 (Or.inl (Ne.symm ne_a0_bd))
          have x535 := x520.other W528 (Or.inl (Ne.symm ne_a0_bd))
          have x536 := x521.other W528 (Ne.symm ne_a0_vb)
          have x537 := x522.other W528 (Ne.symm ne_a0_a1)
          have x538 := x523.wr W528 ge_a0
          have x539 := x524.wr W528
          have x540 := Fw512.other W528 (Or.inr (slot_ne (Or.inl (own_wk hw 97 rfl)) (Or.inl (own_wk hw 49 rfl)) (by decide) (t := .boolean) (t' := .int) (by decide) (by decide)))
          have sz541 : n0 ≤ h528.size := Nat.le_trans sz525 (Keep.of_wr W528).1
          have kp542 : Keep h0 h528 [a0, a1, bd, vb] := kp526.wr W528 (Or.inl (List.mem_of_getElem? (i := 0) rfl))
          have N528 := Fr.snoc X528 N512 ge_a0
          obtain ⟨fs, hr, hrun, hended, hW, hsame⟩ := X528.leave (v := none) (fun _ => rfl)
          refine ⟨_, _, pre0 _ ?_, hrun, hended, _, _, rfl, ?_, ⟨_, rfl⟩, hW, hsame.mono (by decide) (by decide)⟩
          · show own_S p e below s₁ (mkF m 0 #[.val (.ref a0), .val (.ref a1), .val (.int p2), .unset] []) _
            refine cp511 _ (XS.icmpNo X508.here hx rfl (hb hby d20_67) rfl (teq hc510).2 (XS.iconst X508.here hx rfl (hb hby d20_70) (XS.goto X508.here hx rfl (pc0 := 71) (pc' := 75) rfl (hb hby d20_71) (by decide) (by decide) (st512 _ (XS.aloadN X512.here hx rfl (hb hby d20_78) rfl rfl (XS.dup X512.here hx rfl (hb hby d20_79) rfl rfl (st527 _ (XS.iconst X527.here hx rfl (hb hby d20_83) (XS.iadd X527.here hx rfl (hb hby d20_84) rfl ?_)))))))))
            refine st528 _ (XS.goto X528.here hx rfl (pc0 := 88) (pc' := 121) rfl (hb hby d20_88) (by decide) (by decide) ?_)
            show own_S p e below T528 (mkF m 121 #[.val (.ref a0), .val (.ref a1), .val (.int p2), .val (.int (own_at sg.2.2.2.2.1 p2))] []) _
            exact X528.returnOut hx Bd.returns (hb hby d20_121) hr
          · show Q20_r Z a0 a1 p2 bd vb k1 kb n sg cs gf la lba kl h0 n0 _ T528.heap _
            rw [e528]
            refine ⟨rfl, N528, kp542, ?_⟩
            rw [own_escL hld, show own_esc2 p2 sg = (sg.1, sg.2.1 + (1 : Int32), (1 : Int32), sg.2.2.2) from (if_pos hc469).trans (by rw [show own_de sg.2.1 sg.2.2.1 (own_at sg.2.2.2.2.1 p2) = (1 : Int32) from by unfold own_de; rw [if_neg hc316, if_neg hc473, if_pos hc510]])]
            exact ⟨x529, x530, Fw528, x540, x531, x532, x533, x534, x535, x536, x537⟩
        · obtain ⟨T543, h543, X543, e543, W543, st543⟩ := putFN X508 hx hZ hown (own_wk hw 96 rfl) Via.refl e508 F_de E_a0 (Or.inl (own_wk hw 97 rfl)) (own_wk hw 18 rfl) (ty := .boolean) (v' := (.int (0 : Int32))) (by decide) rfl (fits_nar_bool (0 : Int32)) (g := (mkF m 75 #[.val (.ref a0), .val (.ref a1), .val (.int p2), .val (.int (own_at sg.2.2.2.2.1 p2))] [.int 0, (.ref a0)])) rfl rfl (hb hby d20_75)
          have Fw543 := F_de.same W543
          have x544 := E_a0.wr W543
          have x545 := F_row.other W543 (Or.inr (slot_ne (Or.inl (own_wk hw 56 rfl)) (Or.inl (own_wk hw 97 rfl)) (by decide) (t := .int) (t' := .boolean) (by decide) (by decide)))
          have x546 := F_er.other W543 (Or.inr (slot_ne (Or.inl (own_wk hw 49 rfl)) (Or.inl (own_wk hw 97 rfl)) (by decide) (t := .int) (t' := .boolean) (by decide) (by decide)))
          have x547 := F_h.other W543 (Or.inr (slot_ne (Or.inr (own_wk hw 47 rfl)) (Or.inl (own_wk hw 97 rfl)) (by decide) (t := (.object "java/lang/StringBuilder")) (t' := .boolean) (by decide) (by decide)))
          have x548 := E_bd.wr W543
          have x549 := F_v.other W543 (Or.inl (Ne.symm ne_a0_bd))
          have x550 := F_c.other W543 (Or.inl (Ne.symm ne_a0_bd))
          have x551 := F_n.other W543 (Or.inl (Ne.symm ne_a0_bd))
          have x552 := V_vb.other W543 (Ne.symm ne_a0_vb)
          have x553 := V_a1.other W543 (Ne.symm ne_a0_a1)
          have x554 := O_.wr W543 ge_a0
          have x555 := E_la.wr W543
          have sz556 : n0 ≤ h543.size := Nat.le_trans Z0 (Keep.of_wr W543).1
          have kp557 : Keep h0 h543 [a0, a1, bd, vb] := (Keep.refl h0 [a0, a1, bd, vb]).wr W543 (Or.inl (List.mem_of_getElem? (i := 0) rfl))
          have N543 := Fr.snoc X543 N508 ge_a0
          obtain ⟨T558, X558, e558, st558⟩ := getF X543 hx hZ hown (host := "") (Or.inl (own_wk hw 48 rfl)) Via.refl e543 x546 (g := (mkF m 80 #[.val (.ref a0), .val (.ref a1), .val (.int p2), .val (.int (own_at sg.2.2.2.2.1 p2))] [(.ref a0), (.ref a0)])) rfl rfl (hb hby d20_80)
          obtain ⟨T559, h559, X559, e559, W559, st559⟩ := putF X558 hx hZ hown (host := "") (Or.inl (own_wk hw 48 rfl)) Via.refl e558 x546 x544 (Or.inl (own_wk hw 49 rfl)) (own_wk hw 18 rfl) (ty := .int) (by decide) rfl rfl (g := (mkF m 85 #[.val (.ref a0), .val (.ref a1), .val (.int p2), .val (.int (own_at sg.2.2.2.2.1 p2))] [(.int (sg.2.1 + (1 : Int32))), (.ref a0)])) rfl rfl (hb hby d20_85)
          have Fw559 := x546.same W559
          have x560 := x544.wr W559
          have x561 := x545.other W559 (Or.inr (slot_ne (Or.inl (own_wk hw 56 rfl)) (Or.inl (own_wk hw 49 rfl)) (by decide) (t := .int) (t' := .int) (by decide) (by decide)))
          have x562 := x547.other W559 (Or.inr (slot_ne (Or.inr (own_wk hw 47 rfl)) (Or.inl (own_wk hw 49 rfl)) (by decide) (t := (.object "java/lang/StringBuilder")) (t' := .int) (by decide) (by decide)))
          have x563 := x548.wr W559
          have x564 := x549.other W559 (Or.inl (Ne.symm ne_a0_bd))
          have x565 := x550.other W559 (Or.inl (Ne.symm ne_a0_bd))
          have x566 := x551.other W559 (Or.inl (Ne.symm ne_a0_bd))
          have x567 := x552.other W559 (Ne.symm ne_a0_vb)
          have x568 := x553.other W559 (Ne.symm ne_a0_a1)
          have x569 := x554.wr W559 ge_a0
          have x570 := x555.wr W559
          have x571 := Fw543.other W559 (Or.inr (slot_ne (Or.inl (own_wk hw 97 rfl)) (Or.inl (own_wk hw 49 rfl)) (by decide) (t := .boolean) (t' := .int) (by decide) (by decide)))
          have sz572 : n0 ≤ h559.size := Nat.le_trans sz556 (Keep.of_wr W559).1
          have kp573 : Keep h0 h559 [a0, a1, bd, vb] := kp557.wr W559 (Or.inl (List.mem_of_getElem? (i := 0) rfl))
          have N559 := Fr.snoc X559 N543 ge_a0
          obtain ⟨fs, hr, hrun, hended, hW, hsame⟩ := X559.leave (v := none) (fun _ => rfl)
          refine ⟨_, _, pre0 _ ?_, hrun, hended, _, _, rfl, ?_, ⟨_, rfl⟩, hW, hsame.mono (by decide) (by decide)⟩
          · show own_S p e below s₁ (mkF m 0 #[.val (.ref a0), .val (.ref a1), .val (.int p2), .unset] []) _
            refine cp511 _ (XS.icmpYes X508.here hx rfl (pc0 := 67) (pc' := 74) rfl (hb hby d20_67) rfl (feq hc510).2 (by decide) (by decide) (XS.iconst X508.here hx rfl (hb hby d20_74) (st543 _ (XS.aloadN X543.here hx rfl (hb hby d20_78) rfl rfl (XS.dup X543.here hx rfl (hb hby d20_79) rfl rfl (st558 _ (XS.iconst X558.here hx rfl (hb hby d20_83) (XS.iadd X558.here hx rfl (hb hby d20_84) rfl (st559 _ ?_)))))))))
            refine XS.goto X559.here hx rfl (pc0 := 88) (pc' := 121) rfl (hb hby d20_88) (by decide) (by decide) ?_
            show own_S p e below T559 (mkF m 121 #[.val (.ref a0), .val (.ref a1), .val (.int p2), .val (.int (own_at sg.2.2.2.2.1 p2))] []) _
            exact X559.returnOut hx Bd.returns (hb hby d20_121) hr
          · show Q20_r Z a0 a1 p2 bd vb k1 kb n sg cs gf la lba kl h0 n0 _ T559.heap _
            rw [e559]
            refine ⟨rfl, N559, kp573, ?_⟩
            rw [own_escL hld, show own_esc2 p2 sg = (sg.1, sg.2.1 + (1 : Int32), (0 : Int32), sg.2.2.2) from (if_pos hc469).trans (by rw [show own_de sg.2.1 sg.2.2.1 (own_at sg.2.2.2.2.1 p2) = (0 : Int32) from by unfold own_de; rw [if_neg hc316, if_neg hc473, if_neg hc510]])]
            exact ⟨x560, x561, Fw559, x571, x562, x563, x564, x565, x566, x567, x568⟩
    · obtain ⟨T574, X574, e574, st574⟩ := getF X467 hx hZ hown (host := "") (Or.inl (own_wk hw 96 rfl)) Via.refl e467 F_de (g := (mkF m 95 #[.val (.ref a0), .val (.ref a1), .val (.int p2), .val (.int (own_at sg.2.2.2.2.1 p2))] [(.ref a0), (.int p2), (.ref a1), (.ref a0)])) rfl rfl (hb hby d20_95)
      have cp576 : ∀ target, own_S p e below T574 (mkF m 98 #[.val (.ref a0), .val (.ref a1), .val (.int p2), .val (.int (own_at sg.2.2.2.2.1 p2))] [(.int sg.2.2.1), (.int p2), (.ref a1), (.ref a0)]) target → own_S p e below s₁ (mkF m 0 #[.val (.ref a0), .val (.ref a1), .val (.int p2), .unset] []) target := by
        intro target kt
        show own_S p e below s₁ (mkF m 0 #[.val (.ref a0), .val (.ref a1), .val (.int p2), .unset] []) _
        refine cp470 _ (XS.icmpYes X467.here hx rfl (pc0 := 39) (pc' := 91) rfl (hb hby d20_39) rfl (flt hc469).2.1 (by decide) (by decide) (XS.aloadN X467.here hx rfl (hb hby d20_91) rfl rfl (XS.aloadN X467.here hx rfl (hb hby d20_92) rfl rfl (XS.iloadN X467.here hx rfl (hb hby d20_93) rfl (XS.aloadN X467.here hx rfl (hb hby d20_94) rfl rfl (st574 _ ?_))))))
        exact kt
      by_cases hc575 : sg.2.2.1 = (0 : Int32)
      · obtain ⟨cq577, q577, q577'⟩ := E_a0.cell
        obtain ⟨_, _, ⟨T577, L577, k577, n577⟩, -, X577, ⟨Lc577, hQ577, l577, y577, z577⟩, st577⟩ := X574.privateBack hx (y := (⟨"com/example/needle_in_json/needleinjson/MaskedDigits", "count", "([CIZ)V"⟩ : MethodName)) hown (mvT hZ (own_wk hw 105 rfl)) (mvT hZ (own_wk hw 106 rfl)) (own_selp (ym := (⟨"com/example/needle_in_json/needleinjson/MaskedDigits", "mask", "([CII)V"⟩ : MethodName)) (mvT hZ (own_wk hw 53 rfl)) rfl (Cond.privateMethod_at (mvP hZ (own_wk hw 107 rfl) (args := #[]))) (mvT hZ (own_wk hw 106 rfl)) (by decide)) (Cond.privateMethod_at (mvP hZ (own_wk hw 107 rfl) (args := #[]))) (mvT hZ (own_wk hw 108 rfl)) (by decide) (backOf (W := 0) (rm21 l Z ag hw [] a0 a1 p2 (0 : Int32) bd vb k1 kb n sg cs gf h0 n0 Z0 hF hN hG O_ S_cs hcs S_gf rv_gf hi hKk (fun q => absurd rfl q)) hZ (own_wk hw 108 rfl) (own_wk hw 19 rfl) (by decide) (by decide)) (g := (mkF m 113 #[.val (.ref a0), .val (.ref a1), .val (.int p2), .val (.int (own_at sg.2.2.2.2.1 p2))] [.int 0, (.int p2), (.ref a1), (.ref a0)])) rfl (by rw [hml]; rfl) (Steps.refl _) (a := a0) (by rw [e574]; exact q577) q577' (argsL := [(.ref a1), (.int p2), (.int (0 : Int32))]) (rest := []) (lenOf pd_24 rfl) rfl (by show 2 * 0 + _ ≤ _; exact Nat.le_of_eq rfl) (hb hby d20_113) (fun _ _ => ⟨rfl, e574, (by decide : 0 + 0 ≤ _), (by decide : 0 + 0 ≤ _)⟩)
        dsimp only [Pt.U, Pt.locs, Pt.cells, Pt.slots] at X577 l577 y577 z577 st577 hQ577
        subst l577 y577 z577
        obtain ⟨rfl, N577q, K577, F577⟩ := hQ577
        have N577 := Fr.app N467 N577q
        have x578 := E_a0.keep K577
        have x579 := E_bd.keep K577
        have x580 := O_.keep K577 (allS ge_a0 (allS ge_a1 (allS ge_bd (allS ge_vb all0))))
        have x581 := E_la.keep K577
        have sz582 : n0 ≤ T577.heap.size := Nat.le_trans Z0 K577.1
        have kp583 : Keep h0 T577.heap [a0, a1, bd, vb] := (Keep.refl h0 [a0, a1, bd, vb]).trans K577 (allS (Or.inl (List.mem_of_getElem? (i := 0) rfl)) (allS (Or.inl (List.mem_of_getElem? (i := 1) rfl)) (allS (Or.inl (List.mem_of_getElem? (i := 2) rfl)) (allS (Or.inl (List.mem_of_getElem? (i := 3) rfl)) all0))))
        obtain ⟨m577_0, m577_1, m577_2, m577_3, m577_4, m577_5, m577_6, m577_7, m577_8, m577_9, m577_10⟩ := id F577
        obtain ⟨T584, h584, X584, e584, W584, st584⟩ := putF X577 hx hZ hown (host := "") (Or.inl (own_wk hw 48 rfl)) Via.refl rfl m577_2 m577_0 (Or.inl (own_wk hw 49 rfl)) (own_wk hw 18 rfl) (ty := .int) (by decide) rfl rfl (g := (mkF m 118 #[.val (.ref a0), .val (.ref a1), .val (.int p2), .val (.int (own_at sg.2.2.2.2.1 p2))] [.int (-1), (.ref a0)])) rfl rfl (hb hby d20_118)
        have Fw584 := m577_2.same W584
        have x585 := m577_0.wr W584
        have x586 := m577_5.wr W584
        have x587 := x580.wr W584 ge_a0
        have x588 := x581.wr W584
        have x589 := m577_1.other W584 (Or.inr (slot_ne (Or.inl (own_wk hw 56 rfl)) (Or.inl (own_wk hw 49 rfl)) (by decide) (t := .int) (t' := .int) (by decide) (by decide)))
        have x590 := m577_3.other W584 (Or.inr (slot_ne (Or.inl (own_wk hw 97 rfl)) (Or.inl (own_wk hw 49 rfl)) (by decide) (t := .boolean) (t' := .int) (by decide) (by decide)))
        have x591 := m577_4.other W584 (Or.inr (slot_ne (Or.inr (own_wk hw 47 rfl)) (Or.inl (own_wk hw 49 rfl)) (by decide) (t := (.object "java/lang/StringBuilder")) (t' := .int) (by decide) (by decide)))
        have x592 := m577_6.other W584 (Or.inl (Ne.symm ne_a0_bd))
        have x593 := m577_7.other W584 (Or.inl (Ne.symm ne_a0_bd))
        have x594 := m577_8.other W584 (Or.inl (Ne.symm ne_a0_bd))
        have x595 := m577_9.other W584 (Ne.symm ne_a0_vb)
        have x596 := m577_10.other W584 (Ne.symm ne_a0_a1)
        have sz597 : n0 ≤ h584.size := Nat.le_trans sz582 (Keep.of_wr W584).1
        have kp598 : Keep h0 h584 [a0, a1, bd, vb] := kp583.wr W584 (Or.inl (List.mem_of_getElem? (i := 0) rfl))
        have N584 := Fr.snoc X584 N577 ge_a0
        obtain ⟨fs, hr, hrun, hended, hW, hsame⟩ := X584.leave (v := none) (fun _ => rfl)
        refine ⟨_, _, pre0 _ ?_, hrun, hended, _, _, rfl, ?_, ⟨_, rfl⟩, hW, hsame.mono (by decide) (by decide)⟩
        · show own_S p e below s₁ (mkF m 0 #[.val (.ref a0), .val (.ref a1), .val (.int p2), .unset] []) _
          refine cp576 _ (XS.ifYes X574.here hx rfl (pc0 := 98) (pc' := 112) rfl (hb hby d20_98) rfl ((if0 _ _).trans (teq hc575).1) (by decide) (by decide) (XS.iconst X574.here hx rfl (hb hby d20_112) (st577.trans (XS.aloadN X577.here hx rfl (hb hby d20_116) rfl rfl (XS.iconst X577.here hx rfl (hb hby d20_117) (st584 _ ?_))))))
          show own_S p e below T584 (mkF m 121 #[.val (.ref a0), .val (.ref a1), .val (.int p2), .val (.int (own_at sg.2.2.2.2.1 p2))] []) _
          exact X584.returnOut hx Bd.returns (hb hby d20_121) hr
        · show Q20_r Z a0 a1 p2 bd vb k1 kb n sg cs gf la lba kl h0 n0 _ T584.heap _
          rw [e584]
          refine ⟨rfl, N584, kp598, ?_⟩
          rw [own_escL hld, show own_esc2 p2 sg = own_er (-1) (own_count p2 (0 : Int32) sg) from (if_neg hc469).trans (by rw [show own_fl sg.2.2.1 (own_at sg.2.2.2.2.1 p2) = (0 : Int32) from by unfold own_fl; rw [if_pos hc575]])]
          exact ⟨x585, x589, Fw584, x590, x591, x586, x592, x593, x594, x595, x596⟩
      · obtain ⟨_, _, ⟨T599, L599, k599, n599⟩, -, X599, ⟨Lc599, hQ599, l599, y599, z599⟩, st599⟩ := Jvm.LawKit.callS X574 hx (y := (⟨"com/example/needle_in_json/needleinjson/MaskedDigits", "isDigit", "(C)Z"⟩ : MethodName)) hown (mvT hZ (own_wk hw 64 rfl)) (mvT hZ (own_wk hw 65 rfl)) (mvT hZ (own_wk hw 19 rfl)) (mvT hZ (own_wk hw 66 rfl)) (by decide) (backOf (W := 3) (rm12 l Z ag hw [] (own_at sg.2.2.2.2.1 p2)  h0 n0 Z0 ) hZ (own_wk hw 66 rfl) (own_wk hw 19 rfl) (by decide) (by decide)) (g := (mkF m 102 #[.val (.ref a0), .val (.ref a1), .val (.int p2), .val (.int (own_at sg.2.2.2.2.1 p2))] [(.int (own_at sg.2.2.2.2.1 p2)), (.int p2), (.ref a1), (.ref a0)])) rfl (by rw [hml]; rfl) (argsL := [(.int (own_at sg.2.2.2.2.1 p2))]) (rest := [(.int p2), (.ref a1), (.ref a0)]) (lenOf pd_6 rfl) rfl (by show 2 * 0 + _ ≤ _; exact Nat.le_of_eq rfl) (hb hby d20_102) (fun _ _ => ⟨rfl, e574, (by decide : 0 + 0 ≤ _), (by decide : 0 + 0 ≤ _)⟩)
        dsimp only [Pt.U, Pt.locs, Pt.cells, Pt.slots] at X599 l599 y599 z599 st599 hQ599
        subst l599 y599 z599
        obtain ⟨rfl, N599q, e599⟩ := hQ599
        have N599 := Fr.app N467 N599q
        have cp601 : ∀ target, own_S p e below T599 (mkF m 105 #[.val (.ref a0), .val (.ref a1), .val (.int p2), .val (.int (own_at sg.2.2.2.2.1 p2))] [(.int (own_isD (own_at sg.2.2.2.2.1 p2))), (.int p2), (.ref a1), (.ref a0)]) target → own_S p e below s₁ (mkF m 0 #[.val (.ref a0), .val (.ref a1), .val (.int p2), .unset] []) target := by
          intro target kt
          show own_S p e below s₁ (mkF m 0 #[.val (.ref a0), .val (.ref a1), .val (.int p2), .unset] []) _
          refine cp576 _ (XS.ifNo X574.here hx rfl (hb hby d20_98) rfl ((if0 _ _).trans (feq hc575).1) (XS.iloadN X574.here hx rfl (hb hby d20_101) rfl (st599 _ ?_)))
          exact kt
        by_cases hc600 : (own_isD (own_at sg.2.2.2.2.1 p2)) = (0 : Int32)
        · obtain ⟨cq602, q602, q602'⟩ := E_a0.cell
          obtain ⟨_, _, ⟨T602, L602, k602, n602⟩, -, X602, ⟨Lc602, hQ602, l602, y602, z602⟩, st602⟩ := X599.privateBack hx (y := (⟨"com/example/needle_in_json/needleinjson/MaskedDigits", "count", "([CIZ)V"⟩ : MethodName)) hown (mvT hZ (own_wk hw 105 rfl)) (mvT hZ (own_wk hw 106 rfl)) (own_selp (ym := (⟨"com/example/needle_in_json/needleinjson/MaskedDigits", "mask", "([CII)V"⟩ : MethodName)) (mvT hZ (own_wk hw 53 rfl)) rfl (Cond.privateMethod_at (mvP hZ (own_wk hw 107 rfl) (args := #[]))) (mvT hZ (own_wk hw 106 rfl)) (by decide)) (Cond.privateMethod_at (mvP hZ (own_wk hw 107 rfl) (args := #[]))) (mvT hZ (own_wk hw 108 rfl)) (by decide) (backOf (W := 0) (rm21 l Z ag hw [] a0 a1 p2 (0 : Int32) bd vb k1 kb n sg cs gf h0 n0 Z0 hF hN hG O_ S_cs hcs S_gf rv_gf hi hKk (fun q => absurd rfl q)) hZ (own_wk hw 108 rfl) (own_wk hw 19 rfl) (by decide) (by decide)) (g := (mkF m 113 #[.val (.ref a0), .val (.ref a1), .val (.int p2), .val (.int (own_at sg.2.2.2.2.1 p2))] [.int 0, (.int p2), (.ref a1), (.ref a0)])) rfl (by rw [hml]; rfl) (Steps.refl _) (a := a0) (by rw [e599]; exact q602) q602' (argsL := [(.ref a1), (.int p2), (.int (0 : Int32))]) (rest := []) (lenOf pd_24 rfl) rfl (by show 2 * 0 + _ ≤ _; exact Nat.le_of_eq rfl) (hb hby d20_113) (fun _ _ => ⟨rfl, e599, (by decide : 0 + 0 ≤ _), (by decide : 0 + 0 ≤ _)⟩)
          dsimp only [Pt.U, Pt.locs, Pt.cells, Pt.slots] at X602 l602 y602 z602 st602 hQ602
          subst l602 y602 z602
          obtain ⟨rfl, N602q, K602, F602⟩ := hQ602
          have N602 := Fr.app N599 N602q
          have x603 := E_a0.keep K602
          have x604 := E_bd.keep K602
          have x605 := O_.keep K602 (allS ge_a0 (allS ge_a1 (allS ge_bd (allS ge_vb all0))))
          have x606 := E_la.keep K602
          have sz607 : n0 ≤ T602.heap.size := Nat.le_trans Z0 K602.1
          have kp608 : Keep h0 T602.heap [a0, a1, bd, vb] := (Keep.refl h0 [a0, a1, bd, vb]).trans K602 (allS (Or.inl (List.mem_of_getElem? (i := 0) rfl)) (allS (Or.inl (List.mem_of_getElem? (i := 1) rfl)) (allS (Or.inl (List.mem_of_getElem? (i := 2) rfl)) (allS (Or.inl (List.mem_of_getElem? (i := 3) rfl)) all0))))
          obtain ⟨m602_0, m602_1, m602_2, m602_3, m602_4, m602_5, m602_6, m602_7, m602_8, m602_9, m602_10⟩ := id F602
          obtain ⟨T609, h609, X609, e609, W609, st609⟩ := putF X602 hx hZ hown (host := "") (Or.inl (own_wk hw 48 rfl)) Via.refl rfl m602_2 m602_0 (Or.inl (own_wk hw 49 rfl)) (own_wk hw 18 rfl) (ty := .int) (by decide) rfl rfl (g := (mkF m 118 #[.val (.ref a0), .val (.ref a1), .val (.int p2), .val (.int (own_at sg.2.2.2.2.1 p2))] [.int (-1), (.ref a0)])) rfl rfl (hb hby d20_118)
          have Fw609 := m602_2.same W609
          have x610 := m602_0.wr W609
          have x611 := m602_5.wr W609
          have x612 := x605.wr W609 ge_a0
          have x613 := x606.wr W609
          have x614 := m602_1.other W609 (Or.inr (slot_ne (Or.inl (own_wk hw 56 rfl)) (Or.inl (own_wk hw 49 rfl)) (by decide) (t := .int) (t' := .int) (by decide) (by decide)))
          have x615 := m602_3.other W609 (Or.inr (slot_ne (Or.inl (own_wk hw 97 rfl)) (Or.inl (own_wk hw 49 rfl)) (by decide) (t := .boolean) (t' := .int) (by decide) (by decide)))
          have x616 := m602_4.other W609 (Or.inr (slot_ne (Or.inr (own_wk hw 47 rfl)) (Or.inl (own_wk hw 49 rfl)) (by decide) (t := (.object "java/lang/StringBuilder")) (t' := .int) (by decide) (by decide)))
          have x617 := m602_6.other W609 (Or.inl (Ne.symm ne_a0_bd))
          have x618 := m602_7.other W609 (Or.inl (Ne.symm ne_a0_bd))
          have x619 := m602_8.other W609 (Or.inl (Ne.symm ne_a0_bd))
          have x620 := m602_9.other W609 (Ne.symm ne_a0_vb)
          have x621 := m602_10.other W609 (Ne.symm ne_a0_a1)
          have sz622 : n0 ≤ h609.size := Nat.le_trans sz607 (Keep.of_wr W609).1
          have kp623 : Keep h0 h609 [a0, a1, bd, vb] := kp608.wr W609 (Or.inl (List.mem_of_getElem? (i := 0) rfl))
          have N609 := Fr.snoc X609 N602 ge_a0
          obtain ⟨fs, hr, hrun, hended, hW, hsame⟩ := X609.leave (v := none) (fun _ => rfl)
          refine ⟨_, _, pre0 _ ?_, hrun, hended, _, _, rfl, ?_, ⟨_, rfl⟩, hW, hsame.mono (by decide) (by decide)⟩
          · show own_S p e below s₁ (mkF m 0 #[.val (.ref a0), .val (.ref a1), .val (.int p2), .unset] []) _
            refine cp601 _ (XS.ifYes X599.here hx rfl (pc0 := 105) (pc' := 112) rfl (hb hby d20_105) rfl ((if0 _ _).trans (teq hc600).1) (by decide) (by decide) (XS.iconst X599.here hx rfl (hb hby d20_112) (st602.trans (XS.aloadN X602.here hx rfl (hb hby d20_116) rfl rfl (XS.iconst X602.here hx rfl (hb hby d20_117) (st609 _ ?_))))))
            show own_S p e below T609 (mkF m 121 #[.val (.ref a0), .val (.ref a1), .val (.int p2), .val (.int (own_at sg.2.2.2.2.1 p2))] []) _
            exact X609.returnOut hx Bd.returns (hb hby d20_121) hr
          · show Q20_r Z a0 a1 p2 bd vb k1 kb n sg cs gf la lba kl h0 n0 _ T609.heap _
            rw [e609]
            refine ⟨rfl, N609, kp623, ?_⟩
            rw [own_escL hld, show own_esc2 p2 sg = own_er (-1) (own_count p2 (0 : Int32) sg) from (if_neg hc469).trans (by rw [show own_fl sg.2.2.1 (own_at sg.2.2.2.2.1 p2) = (0 : Int32) from by unfold own_fl; rw [if_neg hc575, if_pos hc600]])]
            exact ⟨x610, x614, Fw609, x615, x616, x611, x617, x618, x619, x620, x621⟩
        · obtain ⟨cq624, q624, q624'⟩ := E_a0.cell
          obtain ⟨_, _, ⟨T624, L624, k624, n624⟩, -, X624, ⟨Lc624, hQ624, l624, y624, z624⟩, st624⟩ := X599.privateBack hx (y := (⟨"com/example/needle_in_json/needleinjson/MaskedDigits", "count", "([CIZ)V"⟩ : MethodName)) hown (mvT hZ (own_wk hw 105 rfl)) (mvT hZ (own_wk hw 106 rfl)) (own_selp (ym := (⟨"com/example/needle_in_json/needleinjson/MaskedDigits", "mask", "([CII)V"⟩ : MethodName)) (mvT hZ (own_wk hw 53 rfl)) rfl (Cond.privateMethod_at (mvP hZ (own_wk hw 107 rfl) (args := #[]))) (mvT hZ (own_wk hw 106 rfl)) (by decide)) (Cond.privateMethod_at (mvP hZ (own_wk hw 107 rfl) (args := #[]))) (mvT hZ (own_wk hw 108 rfl)) (by decide) (backOf (W := 0) (rm21 l Z ag hw [] a0 a1 p2 (1 : Int32) bd vb k1 kb n sg cs gf h0 n0 Z0 hF hN hG O_ S_cs hcs S_gf rv_gf hi hKk (fun _ => hc600)) hZ (own_wk hw 108 rfl) (own_wk hw 19 rfl) (by decide) (by decide)) (g := (mkF m 113 #[.val (.ref a0), .val (.ref a1), .val (.int p2), .val (.int (own_at sg.2.2.2.2.1 p2))] [.int 1, (.int p2), (.ref a1), (.ref a0)])) rfl (by rw [hml]; rfl) (Steps.refl _) (a := a0) (by rw [e599]; exact q624) q624' (argsL := [(.ref a1), (.int p2), (.int (1 : Int32))]) (rest := []) (lenOf pd_24 rfl) rfl (by show 2 * 0 + _ ≤ _; exact Nat.le_of_eq rfl) (hb hby d20_113) (fun _ _ => ⟨rfl, e599, (by decide : 0 + 0 ≤ _), (by decide : 0 + 0 ≤ _)⟩)
          dsimp only [Pt.U, Pt.locs, Pt.cells, Pt.slots] at X624 l624 y624 z624 st624 hQ624
          subst l624 y624 z624
          obtain ⟨rfl, N624q, K624, F624⟩ := hQ624
          have N624 := Fr.app N599 N624q
          have x625 := E_a0.keep K624
          have x626 := E_bd.keep K624
          have x627 := O_.keep K624 (allS ge_a0 (allS ge_a1 (allS ge_bd (allS ge_vb all0))))
          have x628 := E_la.keep K624
          have sz629 : n0 ≤ T624.heap.size := Nat.le_trans Z0 K624.1
          have kp630 : Keep h0 T624.heap [a0, a1, bd, vb] := (Keep.refl h0 [a0, a1, bd, vb]).trans K624 (allS (Or.inl (List.mem_of_getElem? (i := 0) rfl)) (allS (Or.inl (List.mem_of_getElem? (i := 1) rfl)) (allS (Or.inl (List.mem_of_getElem? (i := 2) rfl)) (allS (Or.inl (List.mem_of_getElem? (i := 3) rfl)) all0))))
          obtain ⟨m624_0, m624_1, m624_2, m624_3, m624_4, m624_5, m624_6, m624_7, m624_8, m624_9, m624_10⟩ := id F624
          obtain ⟨T631, h631, X631, e631, W631, st631⟩ := putF X624 hx hZ hown (host := "") (Or.inl (own_wk hw 48 rfl)) Via.refl rfl m624_2 m624_0 (Or.inl (own_wk hw 49 rfl)) (own_wk hw 18 rfl) (ty := .int) (by decide) rfl rfl (g := (mkF m 118 #[.val (.ref a0), .val (.ref a1), .val (.int p2), .val (.int (own_at sg.2.2.2.2.1 p2))] [.int (-1), (.ref a0)])) rfl rfl (hb hby d20_118)
          have Fw631 := m624_2.same W631
          have x632 := m624_0.wr W631
          have x633 := m624_5.wr W631
          have x634 := x627.wr W631 ge_a0
          have x635 := x628.wr W631
          have x636 := m624_1.other W631 (Or.inr (slot_ne (Or.inl (own_wk hw 56 rfl)) (Or.inl (own_wk hw 49 rfl)) (by decide) (t := .int) (t' := .int) (by decide) (by decide)))
          have x637 := m624_3.other W631 (Or.inr (slot_ne (Or.inl (own_wk hw 97 rfl)) (Or.inl (own_wk hw 49 rfl)) (by decide) (t := .boolean) (t' := .int) (by decide) (by decide)))
          have x638 := m624_4.other W631 (Or.inr (slot_ne (Or.inr (own_wk hw 47 rfl)) (Or.inl (own_wk hw 49 rfl)) (by decide) (t := (.object "java/lang/StringBuilder")) (t' := .int) (by decide) (by decide)))
          have x639 := m624_6.other W631 (Or.inl (Ne.symm ne_a0_bd))
          have x640 := m624_7.other W631 (Or.inl (Ne.symm ne_a0_bd))
          have x641 := m624_8.other W631 (Or.inl (Ne.symm ne_a0_bd))
          have x642 := m624_9.other W631 (Ne.symm ne_a0_vb)
          have x643 := m624_10.other W631 (Ne.symm ne_a0_a1)
          have sz644 : n0 ≤ h631.size := Nat.le_trans sz629 (Keep.of_wr W631).1
          have kp645 : Keep h0 h631 [a0, a1, bd, vb] := kp630.wr W631 (Or.inl (List.mem_of_getElem? (i := 0) rfl))
          have N631 := Fr.snoc X631 N624 ge_a0
          obtain ⟨fs, hr, hrun, hended, hW, hsame⟩ := X631.leave (v := none) (fun _ => rfl)
          refine ⟨_, _, pre0 _ ?_, hrun, hended, _, _, rfl, ?_, ⟨_, rfl⟩, hW, hsame.mono (by decide) (by decide)⟩
          · show own_S p e below s₁ (mkF m 0 #[.val (.ref a0), .val (.ref a1), .val (.int p2), .unset] []) _
            refine cp601 _ (XS.ifNo X599.here hx rfl (hb hby d20_105) rfl ((if0 _ _).trans (feq hc600).1) (XS.iconst X599.here hx rfl (hb hby d20_108) (XS.goto X599.here hx rfl (pc0 := 109) (pc' := 113) rfl (hb hby d20_109) (by decide) (by decide) (st624.trans (XS.aloadN X624.here hx rfl (hb hby d20_116) rfl rfl (XS.iconst X624.here hx rfl (hb hby d20_117) (st631 _ ?_)))))))
            show own_S p e below T631 (mkF m 121 #[.val (.ref a0), .val (.ref a1), .val (.int p2), .val (.int (own_at sg.2.2.2.2.1 p2))] []) _
            exact X631.returnOut hx Bd.returns (hb hby d20_121) hr
          · show Q20_r Z a0 a1 p2 bd vb k1 kb n sg cs gf la lba kl h0 n0 _ T631.heap _
            rw [e631]
            refine ⟨rfl, N631, kp645, ?_⟩
            rw [own_escL hld, show own_esc2 p2 sg = own_er (-1) (own_count p2 (1 : Int32) sg) from (if_neg hc469).trans (by rw [show own_fl sg.2.2.1 (own_at sg.2.2.2.2.1 p2) = (1 : Int32) from by unfold own_fl; rw [if_neg hc575, if_neg hc600]])]
            exact ⟨x632, x636, Fw631, x637, x638, x633, x639, x640, x641, x642, x643⟩
theorem ef_14 (m : MethodId) (a0 : Addr) (a1 : Addr) (p2 : Int32) : entryFrame m #[(.ref a0), (.ref a1), (.int p2)] 4 = mkF m 0 #[.val (.ref a0), .val (.ref a1), .val (.int p2), .unset] [] := by first | (simp [entryFrame, mkF, argsToLocals, Value.category]; done) | rfl
abbrev own_d14 (p : Nat) (i : Instr) (n : Nat) : Prop := decode prog_32_method_7_code p = .ok (i, n)
theorem d14_0 : own_d14 0 (.aload_n 1) 1 := by decide +kernel
theorem d14_1 : own_d14 1 (.iload_n 2) 1 := by decide +kernel
theorem d14_2 : own_d14 2 .caload 1 := by decide +kernel
theorem d14_3 : own_d14 3 (.istore_n 3) 1 := by decide +kernel
theorem d14_4 : own_d14 4 (.aload_n 0) 1 := by decide +kernel
theorem d14_5 : own_d14 5 (.getfield 16) 3 := by decide +kernel
theorem d14_8 : own_d14 8 (.ifCond .lt 12) 3 := by decide +kernel
theorem d14_20 : own_d14 20 (.iload_n 3) 1 := by decide +kernel
theorem d14_21 : own_d14 21 (.bipush 92) 2 := by decide +kernel
theorem d14_23 : own_d14 23 (.if_icmp .ne 11) 3 := by decide +kernel
theorem d14_26 : own_d14 26 (.aload_n 0) 1 := by decide +kernel
theorem d14_27 : own_d14 27 (.iconst 0) 1 := by decide +kernel
theorem d14_28 : own_d14 28 (.putfield 16) 3 := by decide +kernel
theorem d14_31 : own_d14 31 (.goto 13) 3 := by decide +kernel
theorem d14_44 : own_d14 44 .return_ 1 := by decide +kernel
theorem d14_34 : own_d14 34 (.aload_n 0) 1 := by decide +kernel
theorem d14_35 : own_d14 35 (.aload_n 1) 1 := by decide +kernel
theorem d14_36 : own_d14 36 (.iload_n 2) 1 := by decide +kernel
theorem d14_37 : own_d14 37 (.iload_n 3) 1 := by decide +kernel
theorem d14_38 : own_d14 38 (.invokestatic 31) 3 := by decide +kernel
theorem d14_41 : own_d14 41 (.invokevirtual 76) 3 := by decide +kernel
theorem d14_11 : own_d14 11 (.aload_n 0) 1 := by decide +kernel
theorem d14_12 : own_d14 12 (.aload_n 1) 1 := by decide +kernel
theorem d14_13 : own_d14 13 (.iload_n 2) 1 := by decide +kernel
theorem pd_19 : parseMethodDescriptor "([CI)V" = some ⟨[(.array .char), .int], none⟩ := by decide +kernel
theorem d14_14 : own_d14 14 (.invokevirtual 73) 3 := by decide +kernel
theorem d14_17 : own_d14 17 (.goto 27) 3 := by decide +kernel
def Q14_n (Z : State) (a0 a1 : Addr) (p2 : Int32) (bd vb : Addr) (k1 kb : ClassId) (n : Int32) (sg : own_Sg) (cs : Int32) (gf : Value) (h0 : Heap) (n0 : Nat) (v : Option Value) (h : Heap) (L : List Loc) : Prop := v = none ∧ Fr n0 L ∧ Keep h0 h [a0, a1, bd, vb] ∧ own_F Z h a0 a1 bd vb k1 kb n (own_take p2 sg)
set_option maxRecDepth 65536 in
set_option maxHeartbeats 40000000 in
theorem rm14_n (l : Launch) (Z : State) (ag : Array Value) (hw : ∀ d ∈ tables_1, d.before ag Z = true) (ws : List Jvm.Cond) (a0 a1 : Addr) (p2 : Int32) (bd vb : Addr) (k1 kb : ClassId) (n : Int32) (sg : own_Sg) (cs : Int32) (gf : Value) (h0 : Heap) (n0 : Nat) (Z0 : n0 ≤ h0.size) (hF : own_F Z h0 a0 a1 bd vb k1 kb n sg) (hN : own_Nn a0 a1 bd vb) (hG : own_G n0 a0 a1 bd vb) (O_ : Old Z n0 h0) (S_cs : Sta Z Z.heap "java/lang/String" "COMPACT_STRINGS" "Z" (.int cs)) (hcs : ¬ cs = (0 : Int32)) (S_gf : Sta Z Z.heap "jdk/internal/util/Preconditions" "SIOOBE_FORMATTER" "Ljava/util/function/BiFunction;" gf) (rv_gf : gf.isRef = true) (hi : ¬ p2 < 0 ∧ p2 < n) (hKk : own_Kk n sg) (hnt : sg.2.1 < (0 : Int32) ∨ (sg.2.1 = (0 : Int32) ∧ ¬ (own_at sg.2.2.2.2.1 p2) = (117 : Int32))) :
    MetFree l (⟨"com/example/needle_in_json/needleinjson/MaskedDigits", "take", "([CI)V"⟩ : MethodName) (head1 (Jvm.Cond.code (⟨"com/example/needle_in_json/needleinjson/MaskedDigits", "take", "([CI)V"⟩ : MethodName) prog_32_method_7_code 4 none :: ws) ({ frames := 4, cells := 0, slots := 0, locals := 55 } : Room)) (fun a U => a = #[(.ref a0), (.ref a1), (.int p2)] ∧ Z.Warmed39 U.vm ∧ U.heap = h0) (fun _ _ _ _ _ => True) (fun _ U o U' => ∃ v L, o = .returned v ∧ Q14_n Z a0 a1 p2 bd vb k1 kb n sg cs gf h0 n0 v U'.heap L ∧ FrameEnd U o U' L ({ frames := 4, cells := 0, slots := 0, locals := 55 } : Room).cells ({ frames := 4, cells := 0, slots := 0, locals := 55 } : Room).slots) := by
  refine MetFree.of_bodySF (plainFor_of_name pn_0) hisR ?_
  intro p e s m args below meth c s₁ Bd hml0 hP hK
  obtain ⟨rfl, hZ, hh⟩ := hP
  have hx := Bd.exec
  have hby := Bd.bytes
  have hml : c.maxLocals = 4 := hml0
  have hown : s.vm.findClass "com/example/needle_in_json/needleinjson/MaskedDigits" = some m.cls := findClass_of_methodNamed Bd.named
  have hnm := (name_of_methodNamed Bd.named Bd.method).1
  have X0 : Stand p l e ({ frames := 4, cells := 0, slots := 0, locals := 55 } : Room) s m #[(.ref a0), (.ref a1), (.int p2)] below meth c s₁ [] 0 0 := Stand.of_body Bd
  have e0 : s₁.heap = h0 := by rw [← hh, Bd.state]; rfl
  have N0 := Fr.nil n0
  have pre0 : ∀ t, Steps p.tables e below (s₁.setTop (mkF m 0 #[.val (.ref a0), .val (.ref a1), .val (.int p2), .unset] [])) t → Steps p.tables e below (s₁.setTop (entryFrame m #[(.ref a0), (.ref a1), (.int p2)] 4)) t := fun t k => castTop (ef_14 m a0 a1 p2) k
  obtain ⟨E_a0, F_row, F_er, F_de, F_h, E_bd, F_v, F_c, F_n, V_vb, V_a1⟩ := id hF
  obtain ⟨ne_a0_a1, ne_a0_bd, ne_a0_vb, ne_a1_bd, ne_a1_vb, ne_bd_vb⟩ := id hN
  obtain ⟨ge_a0, ge_a1, ge_bd, ge_vb⟩ := id hG
  obtain ⟨cl646, Ar646, q646, S646, M646, H646, G646⟩ := id V_a1
  have hin646 : ¬ (p2 < 0 ∨ cl646.slots.size ≤ (p2).toNatClampNeg) := inb_of S646 hi
  have hat646 : cl646.slots[(p2).toNatClampNeg]? = some (.int (own_at sg.2.2.2.2.1 p2)) := Has.at H646 hin646 (own_mg sg.2.2.2.2.1 p2)
  have ld646 := X0.caload hx (j := p2) (v := (.int (own_at sg.2.2.2.2.1 p2))) (by rw [e0]; exact Ar646.1) (State.isArrayOf_alike hZ.alike Ar646.2.1) Ar646.2.2 hin646 hat646 (g := (mkF m 2 #[.val (.ref a0), .val (.ref a1), .val (.int p2), .unset] [(.int p2), (.ref a1)])) rfl rfl (hb hby d14_2)
  obtain ⟨T647, X647, e647, st647⟩ := getF X0 hx hZ hown (host := "") (Or.inl (own_wk hw 48 rfl)) Via.refl e0 F_er (g := (mkF m 5 #[.val (.ref a0), .val (.ref a1), .val (.int p2), .val (.int (own_at sg.2.2.2.2.1 p2))] [(.ref a0)])) rfl rfl (hb hby d14_5)
  have cp649 : ∀ target, own_S p e below T647 (mkF m 8 #[.val (.ref a0), .val (.ref a1), .val (.int p2), .val (.int (own_at sg.2.2.2.2.1 p2))] [(.int sg.2.1)]) target → own_S p e below s₁ (mkF m 0 #[.val (.ref a0), .val (.ref a1), .val (.int p2), .unset] []) target := by
    intro target kt
    show own_S p e below s₁ (mkF m 0 #[.val (.ref a0), .val (.ref a1), .val (.int p2), .unset] []) _
    refine XS.aloadN X0.here hx rfl (hb hby d14_0) rfl rfl (XS.iloadN X0.here hx rfl (hb hby d14_1) rfl (ld646 _ (XS.istoreN X0.here hx rfl (hb hby d14_3) rfl (l' := #[.val (.ref a0), .val (.ref a1), .val (.int p2), .val (.int (own_at sg.2.2.2.2.1 p2))]) rfl (XS.aloadN X0.here hx rfl (hb hby d14_4) rfl rfl (st647 _ ?_)))))
    exact kt
  by_cases hc648 : sg.2.1 < (0 : Int32)
  · have cp651 : ∀ target, own_S p e below T647 (mkF m 23 #[.val (.ref a0), .val (.ref a1), .val (.int p2), .val (.int (own_at sg.2.2.2.2.1 p2))] [.int 92, (.int (own_at sg.2.2.2.2.1 p2))]) target → own_S p e below s₁ (mkF m 0 #[.val (.ref a0), .val (.ref a1), .val (.int p2), .unset] []) target := by
      intro target kt
      show own_S p e below s₁ (mkF m 0 #[.val (.ref a0), .val (.ref a1), .val (.int p2), .unset] []) _
      refine cp649 _ (XS.ifYes X647.here hx rfl (pc0 := 8) (pc' := 20) rfl (hb hby d14_8) rfl ((if0 _ _).trans (tlt hc648).1) (by decide) (by decide) (XS.iloadN X647.here hx rfl (hb hby d14_20) rfl (XS.bipush X647.here hx rfl (hb hby d14_21) ?_)))
      exact kt
    by_cases hc650 : (own_at sg.2.2.2.2.1 p2) = (92 : Int32)
    · obtain ⟨T652, h652, X652, e652, W652, st652⟩ := putF X647 hx hZ hown (host := "") (Or.inl (own_wk hw 48 rfl)) Via.refl e647 F_er E_a0 (Or.inl (own_wk hw 49 rfl)) (own_wk hw 18 rfl) (ty := .int) (by decide) rfl rfl (g := (mkF m 28 #[.val (.ref a0), .val (.ref a1), .val (.int p2), .val (.int (own_at sg.2.2.2.2.1 p2))] [.int 0, (.ref a0)])) rfl rfl (hb hby d14_28)
      have Fw652 := F_er.same W652
      have x653 := E_a0.wr W652
      have x654 := F_row.other W652 (Or.inr (slot_ne (Or.inl (own_wk hw 56 rfl)) (Or.inl (own_wk hw 49 rfl)) (by decide) (t := .int) (t' := .int) (by decide) (by decide)))
      have x655 := F_de.other W652 (Or.inr (slot_ne (Or.inl (own_wk hw 97 rfl)) (Or.inl (own_wk hw 49 rfl)) (by decide) (t := .boolean) (t' := .int) (by decide) (by decide)))
      have x656 := F_h.other W652 (Or.inr (slot_ne (Or.inr (own_wk hw 47 rfl)) (Or.inl (own_wk hw 49 rfl)) (by decide) (t := (.object "java/lang/StringBuilder")) (t' := .int) (by decide) (by decide)))
      have x657 := E_bd.wr W652
      have x658 := F_v.other W652 (Or.inl (Ne.symm ne_a0_bd))
      have x659 := F_c.other W652 (Or.inl (Ne.symm ne_a0_bd))
      have x660 := F_n.other W652 (Or.inl (Ne.symm ne_a0_bd))
      have x661 := V_vb.other W652 (Ne.symm ne_a0_vb)
      have x662 := V_a1.other W652 (Ne.symm ne_a0_a1)
      have x663 := O_.wr W652 ge_a0
      have sz664 : n0 ≤ h652.size := Nat.le_trans Z0 (Keep.of_wr W652).1
      have kp665 : Keep h0 h652 [a0, a1, bd, vb] := (Keep.refl h0 [a0, a1, bd, vb]).wr W652 (Or.inl (List.mem_of_getElem? (i := 0) rfl))
      have N652 := Fr.snoc X652 N0 ge_a0
      obtain ⟨fs, hr, hrun, hended, hW, hsame⟩ := X652.leave (v := none) (fun _ => rfl)
      refine ⟨_, _, pre0 _ ?_, hrun, hended, _, _, rfl, ?_, ⟨_, rfl⟩, hW, hsame.mono (by decide) (by decide)⟩
      · show own_S p e below s₁ (mkF m 0 #[.val (.ref a0), .val (.ref a1), .val (.int p2), .unset] []) _
        refine cp651 _ (XS.icmpNo X647.here hx rfl (hb hby d14_23) rfl (teq hc650).2 (XS.aloadN X647.here hx rfl (hb hby d14_26) rfl rfl (XS.iconst X647.here hx rfl (hb hby d14_27) (st652 _ (XS.goto X652.here hx rfl (pc0 := 31) (pc' := 44) rfl (hb hby d14_31) (by decide) (by decide) ?_)))))
        show own_S p e below T652 (mkF m 44 #[.val (.ref a0), .val (.ref a1), .val (.int p2), .val (.int (own_at sg.2.2.2.2.1 p2))] []) _
        exact X652.returnOut hx Bd.returns (hb hby d14_44) hr
      · show Q14_n Z a0 a1 p2 bd vb k1 kb n sg cs gf h0 n0 _ T652.heap _
        rw [e652]
        refine ⟨rfl, N652, kp665, ?_⟩
        rw [show own_take p2 sg = own_er 0 sg from (if_pos hc648).trans (if_pos hc650)]
        exact ⟨x653, x654, Fw652, x655, x656, x657, x658, x659, x660, x661, x662⟩
    · obtain ⟨_, _, ⟨T666, L666, k666, n666⟩, -, X666, ⟨Lc666, hQ666, l666, y666, z666⟩, st666⟩ := Jvm.LawKit.callS X647 hx (y := (⟨"com/example/needle_in_json/needleinjson/MaskedDigits", "isDigit", "(C)Z"⟩ : MethodName)) hown (mvT hZ (own_wk hw 64 rfl)) (mvT hZ (own_wk hw 65 rfl)) (mvT hZ (own_wk hw 19 rfl)) (mvT hZ (own_wk hw 66 rfl)) (by decide) (backOf (W := 3) (rm12 l Z ag hw [] (own_at sg.2.2.2.2.1 p2)  h0 n0 Z0 ) hZ (own_wk hw 66 rfl) (own_wk hw 19 rfl) (by decide) (by decide)) (g := (mkF m 38 #[.val (.ref a0), .val (.ref a1), .val (.int p2), .val (.int (own_at sg.2.2.2.2.1 p2))] [(.int (own_at sg.2.2.2.2.1 p2)), (.int p2), (.ref a1), (.ref a0)])) rfl (by rw [hml]; rfl) (argsL := [(.int (own_at sg.2.2.2.2.1 p2))]) (rest := [(.int p2), (.ref a1), (.ref a0)]) (lenOf pd_6 rfl) rfl (by show 2 * 0 + _ ≤ _; exact Nat.le_of_eq rfl) (hb hby d14_38) (fun _ _ => ⟨rfl, e647, (by decide : 0 + 0 ≤ _), (by decide : 0 + 0 ≤ _)⟩)
      dsimp only [Pt.U, Pt.locs, Pt.cells, Pt.slots] at X666 l666 y666 z666 st666 hQ666
      subst l666 y666 z666
      obtain ⟨rfl, N666q, e666⟩ := hQ666
      have N666 := Fr.app N0 N666q
      obtain ⟨cq667, q667, q667'⟩ := E_a0.cell
      obtain ⟨_, _, ⟨T667, L667, k667, n667⟩, -, X667, ⟨Lc667, hQ667, l667, y667, z667⟩, st667⟩ := X666.privateBack hx (y := (⟨"com/example/needle_in_json/needleinjson/MaskedDigits", "count", "([CIZ)V"⟩ : MethodName)) hown (mvT hZ (own_wk hw 105 rfl)) (mvT hZ (own_wk hw 106 rfl)) (own_selp (ym := (⟨"com/example/needle_in_json/needleinjson/MaskedDigits", "mask", "([CII)V"⟩ : MethodName)) (mvT hZ (own_wk hw 53 rfl)) rfl (Cond.privateMethod_at (mvP hZ (own_wk hw 107 rfl) (args := #[]))) (mvT hZ (own_wk hw 106 rfl)) (by decide)) (Cond.privateMethod_at (mvP hZ (own_wk hw 107 rfl) (args := #[]))) (mvT hZ (own_wk hw 108 rfl)) (by decide) (backOf (W := 0) (rm21 l Z ag hw [] a0 a1 p2 (own_isD (own_at sg.2.2.2.2.1 p2)) bd vb k1 kb n sg cs gf h0 n0 Z0 hF hN hG O_ S_cs hcs S_gf rv_gf hi hKk (fun q => q)) hZ (own_wk hw 108 rfl) (own_wk hw 19 rfl) (by decide) (by decide)) (g := (mkF m 41 #[.val (.ref a0), .val (.ref a1), .val (.int p2), .val (.int (own_at sg.2.2.2.2.1 p2))] [(.int (own_isD (own_at sg.2.2.2.2.1 p2))), (.int p2), (.ref a1), (.ref a0)])) rfl (by rw [hml]; rfl) (Steps.refl _) (a := a0) (by rw [e666]; exact q667) q667' (argsL := [(.ref a1), (.int p2), (.int (own_isD (own_at sg.2.2.2.2.1 p2)))]) (rest := []) (lenOf pd_24 rfl) rfl (by show 2 * 0 + _ ≤ _; exact Nat.le_of_eq rfl) (hb hby d14_41) (fun _ _ => ⟨rfl, e666, (by decide : 0 + 0 ≤ _), (by decide : 0 + 0 ≤ _)⟩)
      dsimp only [Pt.U, Pt.locs, Pt.cells, Pt.slots] at X667 l667 y667 z667 st667 hQ667
      subst l667 y667 z667
      obtain ⟨rfl, N667q, K667, F667⟩ := hQ667
      have N667 := Fr.app N666 N667q
      have x668 := E_a0.keep K667
      have x669 := E_bd.keep K667
      have x670 := O_.keep K667 (allS ge_a0 (allS ge_a1 (allS ge_bd (allS ge_vb all0))))
      have sz671 : n0 ≤ T667.heap.size := Nat.le_trans Z0 K667.1
      have kp672 : Keep h0 T667.heap [a0, a1, bd, vb] := (Keep.refl h0 [a0, a1, bd, vb]).trans K667 (allS (Or.inl (List.mem_of_getElem? (i := 0) rfl)) (allS (Or.inl (List.mem_of_getElem? (i := 1) rfl)) (allS (Or.inl (List.mem_of_getElem? (i := 2) rfl)) (allS (Or.inl (List.mem_of_getElem? (i := 3) rfl)) all0))))
      obtain ⟨m667_0, m667_1, m667_2, m667_3, m667_4, m667_5, m667_6, m667_7, m667_8, m667_9, m667_10⟩ := id F667
      obtain ⟨fs, hr, hrun, hended, hW, hsame⟩ := X667.leave (v := none) (fun _ => rfl)
      refine ⟨_, _, pre0 _ ?_, hrun, hended, _, _, rfl, ?_, ⟨_, rfl⟩, hW, hsame.mono (by decide) (by decide)⟩
      · show own_S p e below s₁ (mkF m 0 #[.val (.ref a0), .val (.ref a1), .val (.int p2), .unset] []) _
        refine cp651 _ (XS.icmpYes X647.here hx rfl (pc0 := 23) (pc' := 34) rfl (hb hby d14_23) rfl (feq hc650).2 (by decide) (by decide) (XS.aloadN X647.here hx rfl (hb hby d14_34) rfl rfl (XS.aloadN X647.here hx rfl (hb hby d14_35) rfl rfl (XS.iloadN X647.here hx rfl (hb hby d14_36) rfl (XS.iloadN X647.here hx rfl (hb hby d14_37) rfl (st666 _ (st667.trans ?_)))))))
        show own_S p e below T667 (mkF m 44 #[.val (.ref a0), .val (.ref a1), .val (.int p2), .val (.int (own_at sg.2.2.2.2.1 p2))] []) _
        exact X667.returnOut hx Bd.returns (hb hby d14_44) hr
      · show Q14_n Z a0 a1 p2 bd vb k1 kb n sg cs gf h0 n0 _ T667.heap _
        refine ⟨rfl, N667, kp672, ?_⟩
        rw [show own_take p2 sg = own_count p2 (own_isD (own_at sg.2.2.2.2.1 p2)) sg from (if_pos hc648).trans (if_neg hc650)]
        exact ⟨m667_0, m667_1, m667_2, m667_3, m667_4, m667_5, m667_6, m667_7, m667_8, m667_9, m667_10⟩
  · obtain ⟨cq673, q673, q673'⟩ := E_a0.cell
    obtain ⟨_, _, ⟨T673, L673, k673, n673⟩, -, X673, ⟨Lc673, hQ673, l673, y673, z673⟩, st673⟩ := X647.privateBack hx (y := (⟨"com/example/needle_in_json/needleinjson/MaskedDigits", "maskEscaped", "([CI)V"⟩ : MethodName)) hown (mvT hZ (own_wk hw 101 rfl)) (mvT hZ (own_wk hw 102 rfl)) (own_selp (ym := (⟨"com/example/needle_in_json/needleinjson/MaskedDigits", "mask", "([CII)V"⟩ : MethodName)) (mvT hZ (own_wk hw 53 rfl)) rfl (Cond.privateMethod_at (mvP hZ (own_wk hw 103 rfl) (args := #[]))) (mvT hZ (own_wk hw 102 rfl)) (by decide)) (Cond.privateMethod_at (mvP hZ (own_wk hw 103 rfl) (args := #[]))) (mvT hZ (own_wk hw 104 rfl)) (by decide) (backOf (W := 0) (rm20_n l Z ag hw [] a0 a1 p2 bd vb k1 kb n sg cs gf h0 n0 Z0 hF hN hG O_ S_cs hcs S_gf rv_gf hi hKk (hnt.resolve_left hc648)) hZ (own_wk hw 104 rfl) (own_wk hw 19 rfl) (by decide) (by decide)) (g := (mkF m 14 #[.val (.ref a0), .val (.ref a1), .val (.int p2), .val (.int (own_at sg.2.2.2.2.1 p2))] [(.int p2), (.ref a1), (.ref a0)])) rfl (by rw [hml]; rfl) (Steps.refl _) (a := a0) (by rw [e647]; exact q673) q673' (argsL := [(.ref a1), (.int p2)]) (rest := []) (lenOf pd_19 rfl) rfl (by show 2 * 0 + _ ≤ _; exact Nat.le_of_eq rfl) (hb hby d14_14) (fun _ _ => ⟨rfl, e647, (by decide : 0 + 0 ≤ _), (by decide : 0 + 0 ≤ _)⟩)
    dsimp only [Pt.U, Pt.locs, Pt.cells, Pt.slots] at X673 l673 y673 z673 st673 hQ673
    subst l673 y673 z673
    obtain ⟨rfl, N673q, K673, F673⟩ := hQ673
    have N673 := Fr.app N0 N673q
    have x674 := E_a0.keep K673
    have x675 := E_bd.keep K673
    have x676 := O_.keep K673 (allS ge_a0 (allS ge_a1 (allS ge_bd (allS ge_vb all0))))
    have sz677 : n0 ≤ T673.heap.size := Nat.le_trans Z0 K673.1
    have kp678 : Keep h0 T673.heap [a0, a1, bd, vb] := (Keep.refl h0 [a0, a1, bd, vb]).trans K673 (allS (Or.inl (List.mem_of_getElem? (i := 0) rfl)) (allS (Or.inl (List.mem_of_getElem? (i := 1) rfl)) (allS (Or.inl (List.mem_of_getElem? (i := 2) rfl)) (allS (Or.inl (List.mem_of_getElem? (i := 3) rfl)) all0))))
    obtain ⟨m673_0, m673_1, m673_2, m673_3, m673_4, m673_5, m673_6, m673_7, m673_8, m673_9, m673_10⟩ := id F673
    obtain ⟨fs, hr, hrun, hended, hW, hsame⟩ := X673.leave (v := none) (fun _ => rfl)
    refine ⟨_, _, pre0 _ ?_, hrun, hended, _, _, rfl, ?_, ⟨_, rfl⟩, hW, hsame.mono (by decide) (by decide)⟩
    · show own_S p e below s₁ (mkF m 0 #[.val (.ref a0), .val (.ref a1), .val (.int p2), .unset] []) _
      refine cp649 _ (XS.ifNo X647.here hx rfl (hb hby d14_8) rfl ((if0 _ _).trans (flt hc648).1) (XS.aloadN X647.here hx rfl (hb hby d14_11) rfl rfl (XS.aloadN X647.here hx rfl (hb hby d14_12) rfl rfl (XS.iloadN X647.here hx rfl (hb hby d14_13) rfl (st673.trans (XS.goto X673.here hx rfl (pc0 := 17) (pc' := 44) rfl (hb hby d14_17) (by decide) (by decide) ?_))))))
      show own_S p e below T673 (mkF m 44 #[.val (.ref a0), .val (.ref a1), .val (.int p2), .val (.int (own_at sg.2.2.2.2.1 p2))] []) _
      exact X673.returnOut hx Bd.returns (hb hby d14_44) hr
    · show Q14_n Z a0 a1 p2 bd vb k1 kb n sg cs gf h0 n0 _ T673.heap _
      refine ⟨rfl, N673, kp678, ?_⟩
      rw [show own_take p2 sg = own_esc p2 sg from if_neg hc648]
      exact ⟨m673_0, m673_1, m673_2, m673_3, m673_4, m673_5, m673_6, m673_7, m673_8, m673_9, m673_10⟩
def Q14_r (Z : State) (a0 a1 : Addr) (p2 : Int32) (bd vb : Addr) (k1 kb : ClassId) (n : Int32) (sg : own_Sg) (cs : Int32) (gf : Value) (la lba : Addr) (kl : ClassId) (h0 : Heap) (n0 : Nat) (v : Option Value) (h : Heap) (L : List Loc) : Prop := v = none ∧ Fr n0 L ∧ Keep h0 h [a0, a1, bd, vb] ∧ own_F Z h a0 a1 bd vb k1 kb n (own_take p2 sg)
set_option maxRecDepth 65536 in
set_option maxHeartbeats 40000000 in
theorem rm14_r (l : Launch) (Z : State) (ag : Array Value) (hw : ∀ d ∈ tables_1, d.before ag Z = true) (ws : List Jvm.Cond) (a0 a1 : Addr) (p2 : Int32) (bd vb : Addr) (k1 kb : ClassId) (n : Int32) (sg : own_Sg) (cs : Int32) (gf : Value) (la lba : Addr) (kl : ClassId) (h0 : Heap) (n0 : Nat) (Z0 : n0 ≤ h0.size) (hF : own_F Z h0 a0 a1 bd vb k1 kb n sg) (hN : own_Nn a0 a1 bd vb) (hG : own_G n0 a0 a1 bd vb) (O_ : Old Z n0 h0) (S_cs : Sta Z Z.heap "java/lang/String" "COMPACT_STRINGS" "Z" (.int cs)) (hcs : ¬ cs = (0 : Int32)) (S_gf : Sta Z Z.heap "jdk/internal/util/Preconditions" "SIOOBE_FORMATTER" "Ljava/util/function/BiFunction;" gf) (rv_gf : gf.isRef = true) (hi : ¬ p2 < 0 ∧ p2 < n) (hKk : own_Kk n sg) (hge : ¬ sg.2.1 < 0) (hld : sg.2.1 = (0 : Int32) → (own_at sg.2.2.2.2.1 p2) = (117 : Int32)) (hSt : own_St Z h0 la lba kl) :
    MetFree l (⟨"com/example/needle_in_json/needleinjson/MaskedDigits", "take", "([CI)V"⟩ : MethodName) (head1 (Jvm.Cond.code (⟨"com/example/needle_in_json/needleinjson/MaskedDigits", "take", "([CI)V"⟩ : MethodName) prog_32_method_7_code 4 none :: ws) ({ frames := 5, cells := 0, slots := 0, locals := 70 } : Room)) (fun a U => a = #[(.ref a0), (.ref a1), (.int p2)] ∧ Z.Warmed39 U.vm ∧ U.heap = h0 ∧ Lit U "com/example/needle_in_json/needleinjson/MaskedDigits" 80 la) (fun _ _ _ _ _ => True) (fun _ U o U' => ∃ v L, o = .returned v ∧ Q14_r Z a0 a1 p2 bd vb k1 kb n sg cs gf la lba kl h0 n0 v U'.heap L ∧ FrameEnd U o U' L ({ frames := 5, cells := 0, slots := 0, locals := 70 } : Room).cells ({ frames := 5, cells := 0, slots := 0, locals := 70 } : Room).slots) := by
  refine MetFree.of_bodySF (plainFor_of_name pn_0) hisR ?_
  intro p e s m args below meth c s₁ Bd hml0 hP hK
  obtain ⟨rfl, hZ, hh, hLs⟩ := hP
  have hx := Bd.exec
  have hby := Bd.bytes
  have hml : c.maxLocals = 4 := hml0
  have hown : s.vm.findClass "com/example/needle_in_json/needleinjson/MaskedDigits" = some m.cls := findClass_of_methodNamed Bd.named
  have hnm := (name_of_methodNamed Bd.named Bd.method).1
  have X0 : Stand p l e ({ frames := 5, cells := 0, slots := 0, locals := 70 } : Room) s m #[(.ref a0), (.ref a1), (.int p2)] below meth c s₁ [] 0 0 := Stand.of_body Bd
  have e0 : s₁.heap = h0 := by rw [← hh, Bd.state]; rfl
  have N0 := Fr.nil n0
  have pre0 : ∀ t, Steps p.tables e below (s₁.setTop (mkF m 0 #[.val (.ref a0), .val (.ref a1), .val (.int p2), .unset] [])) t → Steps p.tables e below (s₁.setTop (entryFrame m #[(.ref a0), (.ref a1), (.int p2)] 4)) t := fun t k => castTop (ef_14 m a0 a1 p2) k
  obtain ⟨E_a0, F_row, F_er, F_de, F_h, E_bd, F_v, F_c, F_n, V_vb, V_a1⟩ := id hF
  obtain ⟨ne_a0_a1, ne_a0_bd, ne_a0_vb, ne_a1_bd, ne_a1_vb, ne_bd_vb⟩ := id hN
  obtain ⟨ge_a0, ge_a1, ge_bd, ge_vb⟩ := id hG
  obtain ⟨E_la, F_lc, F_lv, V_lb⟩ := id hSt
  obtain ⟨cl679, Ar679, q679, S679, M679, H679, G679⟩ := id V_a1
  have hin679 : ¬ (p2 < 0 ∨ cl679.slots.size ≤ (p2).toNatClampNeg) := inb_of S679 hi
  have hat679 : cl679.slots[(p2).toNatClampNeg]? = some (.int (own_at sg.2.2.2.2.1 p2)) := Has.at H679 hin679 (own_mg sg.2.2.2.2.1 p2)
  have ld679 := X0.caload hx (j := p2) (v := (.int (own_at sg.2.2.2.2.1 p2))) (by rw [e0]; exact Ar679.1) (State.isArrayOf_alike hZ.alike Ar679.2.1) Ar679.2.2 hin679 hat679 (g := (mkF m 2 #[.val (.ref a0), .val (.ref a1), .val (.int p2), .unset] [(.int p2), (.ref a1)])) rfl rfl (hb hby d14_2)
  obtain ⟨T680, X680, e680, st680⟩ := getF X0 hx hZ hown (host := "") (Or.inl (own_wk hw 48 rfl)) Via.refl e0 F_er (g := (mkF m 5 #[.val (.ref a0), .val (.ref a1), .val (.int p2), .val (.int (own_at sg.2.2.2.2.1 p2))] [(.ref a0)])) rfl rfl (hb hby d14_5)
  obtain ⟨cq681, q681, q681'⟩ := E_a0.cell
  obtain ⟨_, _, ⟨T681, L681, k681, n681⟩, -, X681, ⟨Lc681, hQ681, l681, y681, z681⟩, st681⟩ := X680.privateBack hx (y := (⟨"com/example/needle_in_json/needleinjson/MaskedDigits", "maskEscaped", "([CI)V"⟩ : MethodName)) hown (mvT hZ (own_wk hw 101 rfl)) (mvT hZ (own_wk hw 102 rfl)) (own_selp (ym := (⟨"com/example/needle_in_json/needleinjson/MaskedDigits", "mask", "([CII)V"⟩ : MethodName)) (mvT hZ (own_wk hw 53 rfl)) rfl (Cond.privateMethod_at (mvP hZ (own_wk hw 103 rfl) (args := #[]))) (mvT hZ (own_wk hw 102 rfl)) (by decide)) (Cond.privateMethod_at (mvP hZ (own_wk hw 103 rfl) (args := #[]))) (mvT hZ (own_wk hw 104 rfl)) (by decide) (own_backL (W := 0) (rm20_r l Z ag hw [] a0 a1 p2 bd vb k1 kb n sg cs gf la lba kl h0 n0 Z0 hF hN hG O_ S_cs hcs S_gf rv_gf hi hKk hge hld hSt) hZ (own_wk hw 104 rfl) (own_wk hw 19 rfl) (by decide) (by decide) hLs) (g := (mkF m 14 #[.val (.ref a0), .val (.ref a1), .val (.int p2), .val (.int (own_at sg.2.2.2.2.1 p2))] [(.int p2), (.ref a1), (.ref a0)])) rfl (by rw [hml]; rfl) (Steps.refl _) (a := a0) (by rw [e680]; exact q681) q681' (argsL := [(.ref a1), (.int p2)]) (rest := []) (lenOf pd_19 rfl) rfl (by show 2 * 0 + _ ≤ _; exact Nat.le_of_eq rfl) (hb hby d14_14) (fun _ _ => ⟨rfl, e680, (by decide : 0 + 0 ≤ _), (by decide : 0 + 0 ≤ _)⟩)
  dsimp only [Pt.U, Pt.locs, Pt.cells, Pt.slots] at X681 l681 y681 z681 st681 hQ681
  subst l681 y681 z681
  obtain ⟨rfl, N681q, K681, F681⟩ := hQ681
  have N681 := Fr.app N0 N681q
  have x682 := E_a0.keep K681
  have x683 := E_bd.keep K681
  have x684 := O_.keep K681 (allS ge_a0 (allS ge_a1 (allS ge_bd (allS ge_vb all0))))
  have x685 := E_la.keep K681
  have sz686 : n0 ≤ T681.heap.size := Nat.le_trans Z0 K681.1
  have kp687 : Keep h0 T681.heap [a0, a1, bd, vb] := (Keep.refl h0 [a0, a1, bd, vb]).trans K681 (allS (Or.inl (List.mem_of_getElem? (i := 0) rfl)) (allS (Or.inl (List.mem_of_getElem? (i := 1) rfl)) (allS (Or.inl (List.mem_of_getElem? (i := 2) rfl)) (allS (Or.inl (List.mem_of_getElem? (i := 3) rfl)) all0))))
  obtain ⟨m681_0, m681_1, m681_2, m681_3, m681_4, m681_5, m681_6, m681_7, m681_8, m681_9, m681_10⟩ := id F681
  obtain ⟨fs, hr, hrun, hended, hW, hsame⟩ := X681.leave (v := none) (fun _ => rfl)
  refine ⟨_, _, pre0 _ ?_, hrun, hended, _, _, rfl, ?_, ⟨_, rfl⟩, hW, hsame.mono (by decide) (by decide)⟩
  · show own_S p e below s₁ (mkF m 0 #[.val (.ref a0), .val (.ref a1), .val (.int p2), .unset] []) _
    refine XS.aloadN X0.here hx rfl (hb hby d14_0) rfl rfl (XS.iloadN X0.here hx rfl (hb hby d14_1) rfl (ld679 _ (XS.istoreN X0.here hx rfl (hb hby d14_3) rfl (l' := #[.val (.ref a0), .val (.ref a1), .val (.int p2), .val (.int (own_at sg.2.2.2.2.1 p2))]) rfl (XS.aloadN X0.here hx rfl (hb hby d14_4) rfl rfl (st680 _ (XS.ifNo X680.here hx rfl (hb hby d14_8) rfl ((if0 _ _).trans (flt (show ¬ (sg.2.1 < (0 : Int32)) from hge)).1) (XS.aloadN X680.here hx rfl (hb hby d14_11) rfl rfl (XS.aloadN X680.here hx rfl (hb hby d14_12) rfl rfl (XS.iloadN X680.here hx rfl (hb hby d14_13) rfl ?_)))))))))
    refine st681.trans (XS.goto X681.here hx rfl (pc0 := 17) (pc' := 44) rfl (hb hby d14_17) (by decide) (by decide) ?_)
    show own_S p e below T681 (mkF m 44 #[.val (.ref a0), .val (.ref a1), .val (.int p2), .val (.int (own_at sg.2.2.2.2.1 p2))] []) _
    exact X681.returnOut hx Bd.returns (hb hby d14_44) hr
  · show Q14_r Z a0 a1 p2 bd vb k1 kb n sg cs gf la lba kl h0 n0 _ T681.heap _
    refine ⟨rfl, N681, kp687, ?_⟩
    rw [show own_take p2 sg = own_esc p2 sg from if_neg hge]
    exact ⟨m681_0, m681_1, m681_2, m681_3, m681_4, m681_5, m681_6, m681_7, m681_8, m681_9, m681_10⟩
def own_Ns (a0 a1 bd vb la lba : Addr) : Prop := a0 ≠ la ∧ a1 ≠ la ∧ bd ≠ la ∧ vb ≠ la ∧ a0 ≠ lba ∧ a1 ≠ lba ∧ bd ≠ lba ∧ vb ≠ lba
def own_LitV (Z : State) (a0 a1 bd vb : Addr) (vm : Vm) (h : Heap) : Prop := ∃ (la lba : Addr) (kl : ClassId), own_St Z h la lba kl ∧ own_Ns a0 a1 bd vb la lba ∧ Lit (Z.setVm vm) "com/example/needle_in_json/needleinjson/MaskedDigits" 80 la
def Q20_l (Z : State) (a0 a1 : Addr) (p2 : Int32) (bd vb : Addr) (k1 kb : ClassId) (n : Int32) (sg : own_Sg) (cs : Int32) (gf : Value) (h0 : Heap) (n0 : Nat) (v : Option Value) (h : Heap) (L : List Loc) : Prop := v = none ∧ Fr n0 L ∧ Keep h0 h [a0, a1, bd, vb] ∧ own_F Z h a0 a1 bd vb k1 kb n (own_esc p2 sg)
set_option maxRecDepth 65536 in
set_option maxHeartbeats 40000000 in
theorem rm20_l (l : Launch) (Z : State) (ag : Array Value) (hw : ∀ d ∈ tables_1, d.before ag Z = true) (ws : List Jvm.Cond) (a0 a1 : Addr) (p2 : Int32) (bd vb : Addr) (k1 kb : ClassId) (n : Int32) (sg : own_Sg) (cs : Int32) (gf : Value) (h0 : Heap) (n0 : Nat) (Z0 : n0 ≤ h0.size) (hF : own_F Z h0 a0 a1 bd vb k1 kb n sg) (hN : own_Nn a0 a1 bd vb) (hG : own_G n0 a0 a1 bd vb) (O_ : Old Z n0 h0) (S_cs : Sta Z Z.heap "java/lang/String" "COMPACT_STRINGS" "Z" (.int cs)) (hcs : ¬ cs = (0 : Int32)) (S_gf : Sta Z Z.heap "jdk/internal/util/Preconditions" "SIOOBE_FORMATTER" "Ljava/util/function/BiFunction;" gf) (rv_gf : gf.isRef = true) (hi : ¬ p2 < 0 ∧ p2 < n) (hKk : own_Kk n sg) (hge : ¬ sg.2.1 < 0) (hld : sg.2.1 = (0 : Int32) → (own_at sg.2.2.2.2.1 p2) = (117 : Int32)) :
    MetFree l (⟨"com/example/needle_in_json/needleinjson/MaskedDigits", "maskEscaped", "([CI)V"⟩ : MethodName) (head1 (Jvm.Cond.code (⟨"com/example/needle_in_json/needleinjson/MaskedDigits", "maskEscaped", "([CI)V"⟩ : MethodName) prog_32_method_9_code 4 none :: ws) ({ frames := 4, cells := 2, slots := 20, locals := 55 } : Room)) (fun a U => a = #[(.ref a0), (.ref a1), (.int p2)] ∧ Z.Warmed39 U.vm ∧ U.heap = h0 ∧ CHv Z own_EL U.vm h0 ∧ Safe Z own_EL U.vm h0 vb) (fun _ _ _ _ _ => True) (fun _ U o U' => ∃ v L, o = .returned v ∧ (Q20_l Z a0 a1 p2 bd vb k1 kb n sg cs gf h0 n0 v U'.heap L ∧ (own_LitV Z a0 a1 bd vb) U'.vm U'.heap) ∧ CHr Z own_EL U.vm U.heap U'.vm U'.heap ∧ ReturnedEndW U o U' L ({ frames := 4, cells := 2, slots := 20, locals := 55 } : Room).cells ({ frames := 4, cells := 2, slots := 20, locals := 55 } : Room).slots) := by
  refine MetFree.of_bodySF (plainFor_of_name pn_0) hisR ?_
  intro p e s m args below meth c s₁ Bd hml0 hP hK
  obtain ⟨rfl, hZ, hh, hI, hSv⟩ := hP
  have hx := Bd.exec
  have hby := Bd.bytes
  have hml : c.maxLocals = 4 := hml0
  have hown : s.vm.findClass "com/example/needle_in_json/needleinjson/MaskedDigits" = some m.cls := findClass_of_methodNamed Bd.named
  have hnm := (name_of_methodNamed Bd.named Bd.method).1
  have X0 : Stand p l e ({ frames := 4, cells := 2, slots := 20, locals := 55 } : Room) s m #[(.ref a0), (.ref a1), (.int p2)] below meth c s₁ [] 0 0 := Stand.of_body Bd
  have e0 : s₁.heap = h0 := by rw [← hh, Bd.state]; rfl
  have N0 := Fr.nil n0
  have pre0 : ∀ t, Steps p.tables e below (s₁.setTop (mkF m 0 #[.val (.ref a0), .val (.ref a1), .val (.int p2), .unset] [])) t → Steps p.tables e below (s₁.setTop (entryFrame m #[(.ref a0), (.ref a1), (.int p2)] 4)) t := fun t k => castTop (ef_20 m a0 a1 p2) k
  have X0 : Stand p l e ({ frames := 4, cells := 2, slots := 20, locals := 55 } : Room) (s.setVm s.vm) m #[(.ref a0), (.ref a1), (.int p2)] below meth c s₁ [] 0 0 := X0
  have hS : s.Since s.vm 0 := (State.WarmedH.refl s).since 0
  have hkS : 0 ≤ h0.size := Nat.zero_le _
  have hC : CHr Z own_EL s.vm h0 s.vm h0 := CHr.refl hI
  have hEL : EW Z ag own_EL := own_ew hw
  have hwS : ∀ d ∈ Bundle.stringAtoms, d.before ag Z = true := fun d hd => hw d ((by decide +kernel : ∀ d ∈ Bundle.stringAtoms, d ∈ tables_1) d hd)
  obtain ⟨E_a0, F_row, F_er, F_de, F_h, E_bd, F_v, F_c, F_n, V_vb, V_a1⟩ := id hF
  obtain ⟨ne_a0_a1, ne_a0_bd, ne_a0_vb, ne_a1_bd, ne_a1_vb, ne_bd_vb⟩ := id hN
  obtain ⟨ge_a0, ge_a1, ge_bd, ge_vb⟩ := id hG
  have sf_a0 := Safe.exa (EL := own_EL) hZ.alike E_a0 (by decide) (by decide)
  have sf_a1 := Safe.arv (EL := own_EL) hZ.alike V_a1 (by decide)
  have sf_bd := Safe.exa (EL := own_EL) hZ.alike E_bd (by decide) (by decide)
  obtain ⟨cl688, Ar688, q688, S688, M688, H688, G688⟩ := id V_a1
  have hin688 : ¬ (p2 < 0 ∨ cl688.slots.size ≤ (p2).toNatClampNeg) := inb_of S688 hi
  have hat688 : cl688.slots[(p2).toNatClampNeg]? = some (.int (own_at sg.2.2.2.2.1 p2)) := Has.at H688 hin688 (own_mg sg.2.2.2.2.1 p2)
  have ld688 := X0.caload hx (j := p2) (v := (.int (own_at sg.2.2.2.2.1 p2))) (by rw [e0]; exact Ar688.1) (State.isArrayOf_alike hZ.alike Ar688.2.1) Ar688.2.2 hin688 hat688 (g := (mkF m 2 #[.val (.ref a0), .val (.ref a1), .val (.int p2), .unset] [(.int p2), (.ref a1)])) rfl rfl (hb hby d20_2)
  obtain ⟨T689, X689, e689, st689⟩ := getF X0 hx hZ hown (host := "") (Or.inl (own_wk hw 48 rfl)) Via.refl e0 F_er (g := (mkF m 5 #[.val (.ref a0), .val (.ref a1), .val (.int p2), .val (.int (own_at sg.2.2.2.2.1 p2))] [(.ref a0)])) rfl rfl (hb hby d20_5)
  have cp691 : ∀ target, own_S p e below T689 (mkF m 8 #[.val (.ref a0), .val (.ref a1), .val (.int p2), .val (.int (own_at sg.2.2.2.2.1 p2))] [(.int sg.2.1)]) target → own_S p e below s₁ (mkF m 0 #[.val (.ref a0), .val (.ref a1), .val (.int p2), .unset] []) target := by
    intro target kt
    show own_S p e below s₁ (mkF m 0 #[.val (.ref a0), .val (.ref a1), .val (.int p2), .unset] []) _
    refine XS.aloadN X0.here hx rfl (hb hby d20_0) rfl rfl (XS.iloadN X0.here hx rfl (hb hby d20_1) rfl (ld688 _ (XS.istoreN X0.here hx rfl (hb hby d20_3) rfl (l' := #[.val (.ref a0), .val (.ref a1), .val (.int p2), .val (.int (own_at sg.2.2.2.2.1 p2))]) rfl (XS.aloadN X0.here hx rfl (hb hby d20_4) rfl rfl (st689 _ ?_)))))
    exact kt
  by_cases hc690 : sg.2.1 = (0 : Int32)
  · obtain ⟨T692, X692, e692, st692⟩ := getF X689 hx hZ hown (host := "") (Or.inl (own_wk hw 48 rfl)) Via.refl e689 F_er (g := (mkF m 31 #[.val (.ref a0), .val (.ref a1), .val (.int p2), .val (.int (own_at sg.2.2.2.2.1 p2))] [(.ref a0)])) rfl rfl (hb hby d20_31)
    obtain ⟨sa693, T693, h693, kS693, sb693, kb693, X693, e693, E693, hS, hkS693, hZ, hown, Es693, Fc693, Fv693, Vs693, lta693, ltb693, hCs693, hLit693, hSf693, st693⟩ := ldcCH X692 hx hZ hown (own_wk hw 166 rfl) hwS e692 hS hkS hEL (by decide) hC.1 (vs := [(.int (117 : Int32)), (.int (48 : Int32)), (.int (48 : Int32)), (.int (51 : Int32))]) (z := (4 : Int32)) ⟨by decide, rfl⟩ (by decide) (by decide) (g := (mkF m 34 #[.val (.ref a0), .val (.ref a1), .val (.int p2), .val (.int (own_at sg.2.2.2.2.1 p2))] [(.int sg.2.1)])) rfl (hb hby d20_34) (n := 16) (by decide) (by decide) (by decide) (by decide)
    have x694 := E_a0.ext E693
    have x695 := F_row.ext E693
    have x696 := F_er.ext E693
    have x697 := F_de.ext E693
    have x698 := F_h.ext E693
    have x699 := E_bd.ext E693
    have x700 := F_v.ext E693
    have x701 := F_c.ext E693
    have x702 := F_n.ext E693
    have x703 := V_vb.ext E693
    have x704 := V_a1.ext E693
    have x705 := O_.ext E693
    have x706 := hCs693.safe V_vb.lt hSv
    have x707 := hCs693.safe E_a0.lt sf_a0
    have x708 := hCs693.safe V_a1.lt sf_a1
    have x709 := hCs693.safe E_bd.lt sf_bd
    have sz710 : n0 ≤ h693.size := Nat.le_trans Z0 E693.1
    have hkS := Nat.le_trans hkS E693.1
    have hC := hC.trans hCs693
    have kp711 : Keep h0 h693 [a0, a1, bd, vb] := (Keep.refl h0 [a0, a1, bd, vb]).ext E693
    have hkS := hkS693
    obtain ⟨cq712, kq712, q712a, q712b, q712c⟩ := isOf hZ e693 Es693
    obtain ⟨_, _, ⟨T712, L712, k712, n712⟩, -, X712, ⟨Lc712, hQ712, l712, y712, z712⟩, st712⟩ := X693.virtualBack hx (y := (⟨"java/lang/String", "length", "()I"⟩ : MethodName)) (z := (⟨"java/lang/String", "length", "()I"⟩ : MethodName)) hown (mvT hZ (own_wk hw 169 rfl)) (mvT hZ (own_wk hw 170 rfl)) (notFace_of_selects (args := #[]) (mvT hZ (own_wk hw 172 rfl))) (mvT hZ (own_wk hw 172 rfl)) (mvT hZ (own_wk hw 171 rfl)) (by decide) (backOf (W := 1) (rm34 l Z ag hw [] sa693 sb693 kb693 (4 : Int32) [(.int (117 : Int32)), (.int (48 : Int32)), (.int (48 : Int32)), (.int (51 : Int32))] (0 : Int32) cs h693 n0 sz710 Es693 Fv693 Fc693 Vs693 x705 S_cs hcs) hZ (own_wk hw 173 rfl) (own_wk hw 40 rfl) (by decide) (by decide)) q712a q712c (g := (mkF m 36 #[.val (.ref a0), .val (.ref a1), .val (.int p2), .val (.int (own_at sg.2.2.2.2.1 p2))] [(.ref sa693), (.int sg.2.1)])) rfl (by rw [hml]; rfl) (Steps.refl _) (argsL := []) (rest := [(.int sg.2.1)]) (lenOf pd_1 rfl) rfl (by show 2 * 0 + _ ≤ _; exact Nat.le_of_eq rfl) (hb hby d20_36) (fun _ _ => ⟨rfl, e693, (by decide : 2 + 0 ≤ _), (by decide : 20 + 0 ≤ _)⟩)
    dsimp only [Pt.U, Pt.locs, Pt.cells, Pt.slots] at X712 l712 y712 z712 st712 hQ712
    subst l712 y712 z712
    obtain ⟨rfl, N712q, e712⟩ := hQ712
    have N712 := Fr.app N0 N712q
    have sg713 : ∀ target, Steps p.tables e below (T712.setTop (mkF m 39 #[.val (.ref a0), .val (.ref a1), .val (.int p2), .val (.int (own_at sg.2.2.2.2.1 p2))] [.int 4, (.int sg.2.1)])) target → Steps p.tables e below (T712.setTop (mkF m 39 #[.val (.ref a0), .val (.ref a1), .val (.int p2), .val (.int (own_at sg.2.2.2.2.1 p2))] [(.int ((4 : Int32) >>> ((nar .byte (0 : Int32)) &&& 31))), (.int sg.2.1)])) target := by rw [show ((4 : Int32) >>> ((nar .byte (0 : Int32)) &&& 31)) = (4 : Int32) from by decide]; exact fun _ k => k
    have cp715 : ∀ target, own_S p e below T712 (mkF m 39 #[.val (.ref a0), .val (.ref a1), .val (.int p2), .val (.int (own_at sg.2.2.2.2.1 p2))] [.int 4, (.int sg.2.1)]) target → own_S p e below s₁ (mkF m 0 #[.val (.ref a0), .val (.ref a1), .val (.int p2), .unset] []) target := by
      intro target kt
      show own_S p e below s₁ (mkF m 0 #[.val (.ref a0), .val (.ref a1), .val (.int p2), .unset] []) _
      refine cp691 _ (XS.ifNo X689.here hx rfl (hb hby d20_8) rfl ((if0 _ _).trans (teq hc690).2) (XS.iloadN X689.here hx rfl (hb hby d20_11) rfl (XS.bipush X689.here hx rfl (hb hby d20_12) (XS.icmpYes X689.here hx rfl (pc0 := 14) (pc' := 30) rfl (hb hby d20_14) rfl (teq (show (own_at sg.2.2.2.2.1 p2) = (117 : Int32) from (hld hc690))).1 (by decide) (by decide) (XS.aloadN X689.here hx rfl (hb hby d20_30) rfl rfl (st692 _ (st693 _ (st712.trans (sg713 _ ?_)))))))))
      exact kt
    by_cases hc714 : sg.2.1 < (4 : Int32)
    · obtain ⟨T716, X716, e716, st716⟩ := getF X712 hx hZ hown (host := "") (Or.inl (own_wk hw 48 rfl)) Via.refl e712 x696 (g := (mkF m 44 #[.val (.ref a0), .val (.ref a1), .val (.int p2), .val (.int (own_at sg.2.2.2.2.1 p2))] [(.ref a0), (.ref a0)])) rfl rfl (hb hby d20_44)
      have ld717 := ldcAgain (s := s) (vm0 := T693.vm) X716 hx hZ hown (own_wk hw 166 rfl) hLit693 (g := (mkF m 58 #[.val (.ref a0), .val (.ref a1), .val (.int p2), .val (.int (own_at sg.2.2.2.2.1 p2))] [(.int (own_at sg.2.2.2.2.1 p2)), (.ref a0)])) rfl (hb hby d20_58)
      obtain ⟨T718, X718, e718, st718⟩ := getF X716 hx hZ hown (host := "") (Or.inl (own_wk hw 48 rfl)) Via.refl e716 x696 (g := (mkF m 61 #[.val (.ref a0), .val (.ref a1), .val (.int p2), .val (.int (own_at sg.2.2.2.2.1 p2))] [(.ref a0), (.ref sa693), (.int (own_at sg.2.2.2.2.1 p2)), (.ref a0)])) rfl rfl (hb hby d20_61)
      obtain ⟨cq719, kq719, q719a, q719b, q719c⟩ := isOf hZ e718 Es693
      obtain ⟨_, _, ⟨T719, L719, k719, n719⟩, -, X719, ⟨Lc719, hQ719, l719, y719, z719⟩, st719⟩ := X718.virtualBack hx (y := (⟨"java/lang/String", "charAt", "(I)C"⟩ : MethodName)) (z := (⟨"java/lang/String", "charAt", "(I)C"⟩ : MethodName)) hown (mvT hZ (own_wk hw 179 rfl)) (mvT hZ (own_wk hw 180 rfl)) (notFace_of_selects (args := #[]) (mvT hZ (own_wk hw 182 rfl))) (mvT hZ (own_wk hw 182 rfl)) (mvT hZ (own_wk hw 181 rfl)) (by decide) (backOf (W := 2) (rm36 l Z ag hw [] sa693 sg.2.1 sb693 kb693 (4 : Int32) [(.int (117 : Int32)), (.int (48 : Int32)), (.int (48 : Int32)), (.int (51 : Int32))] (own_u sg.2.1) cs gf h693 n0 sz710 Es693 Fv693 Fc693 Vs693 hge hc714 (own_ug sg.2.1) x705 S_cs hcs S_gf rv_gf) hZ (own_wk hw 183 rfl) (own_wk hw 40 rfl) (by decide) (by decide)) q719a q719c (g := (mkF m 64 #[.val (.ref a0), .val (.ref a1), .val (.int p2), .val (.int (own_at sg.2.2.2.2.1 p2))] [(.int sg.2.1), (.ref sa693), (.int (own_at sg.2.2.2.2.1 p2)), (.ref a0)])) rfl (by rw [hml]; rfl) (Steps.refl _) (argsL := [(.int sg.2.1)]) (rest := [(.int (own_at sg.2.2.2.2.1 p2)), (.ref a0)]) (lenOf pd_7 rfl) rfl (by show 2 * 0 + _ ≤ _; exact Nat.le_of_eq rfl) (hb hby d20_64) (fun _ _ => ⟨rfl, e718, (by decide : 2 + 0 ≤ _), (by decide : 20 + 0 ≤ _)⟩)
      dsimp only [Pt.U, Pt.locs, Pt.cells, Pt.slots] at X719 l719 y719 z719 st719 hQ719
      subst l719 y719 z719
      obtain ⟨rfl, N719q, e719⟩ := hQ719
      have N719 := Fr.app N712 N719q
      have sg720 : ∀ target, Steps p.tables e below (T719.setTop (mkF m 67 #[.val (.ref a0), .val (.ref a1), .val (.int p2), .val (.int (own_at sg.2.2.2.2.1 p2))] [(.int (own_u sg.2.1)), (.int (own_at sg.2.2.2.2.1 p2)), (.ref a0)])) target → Steps p.tables e below (T719.setTop (mkF m 67 #[.val (.ref a0), .val (.ref a1), .val (.int p2), .val (.int (own_at sg.2.2.2.2.1 p2))] [(.int (nar .char (nar .char (((own_u sg.2.1) &&& (255 : Int32)).toUInt32.toUInt16.toUInt32.toInt32)))), (.int (own_at sg.2.2.2.2.1 p2)), (.ref a0)])) target := by rw [own_uc hge hc714]; exact fun _ k => k
      have cp722 : ∀ target, own_S p e below T719 (mkF m 67 #[.val (.ref a0), .val (.ref a1), .val (.int p2), .val (.int (own_at sg.2.2.2.2.1 p2))] [(.int (own_u sg.2.1)), (.int (own_at sg.2.2.2.2.1 p2)), (.ref a0)]) target → own_S p e below s₁ (mkF m 0 #[.val (.ref a0), .val (.ref a1), .val (.int p2), .unset] []) target := by
        intro target kt
        show own_S p e below s₁ (mkF m 0 #[.val (.ref a0), .val (.ref a1), .val (.int p2), .unset] []) _
        refine cp715 _ (XS.icmpNo X712.here hx rfl (hb hby d20_39) rfl (tlt hc714).2.1 (XS.aloadN X712.here hx rfl (hb hby d20_42) rfl rfl (XS.aloadN X712.here hx rfl (hb hby d20_43) rfl rfl (st716 _ (XS.ifYes X716.here hx rfl (pc0 := 47) (pc' := 57) rfl (hb hby d20_47) rfl ((if0 _ _).trans (teq hc690).1) (by decide) (by decide) (XS.iloadN X716.here hx rfl (hb hby d20_57) rfl (ld717 _ (XS.aloadN X716.here hx rfl (hb hby d20_60) rfl rfl (st718 _ ?_)))))))))
        refine st719.trans (sg720 _ ?_)
        exact kt
      by_cases hc721 : (own_at sg.2.2.2.2.1 p2) = (own_u sg.2.1)
      · obtain ⟨T723, h723, X723, e723, W723, st723⟩ := putFN X719 hx hZ hown (own_wk hw 96 rfl) Via.refl e719 x697 x694 (Or.inl (own_wk hw 97 rfl)) (own_wk hw 18 rfl) (ty := .boolean) (v' := (.int (1 : Int32))) (by decide) rfl (fits_nar_bool (1 : Int32)) (g := (mkF m 75 #[.val (.ref a0), .val (.ref a1), .val (.int p2), .val (.int (own_at sg.2.2.2.2.1 p2))] [.int 1, (.ref a0)])) rfl rfl (hb hby d20_75)
        have Fw723 := x697.same W723
        have x724 := x694.wr W723
        have x725 := x695.other W723 (Or.inr (slot_ne (Or.inl (own_wk hw 56 rfl)) (Or.inl (own_wk hw 97 rfl)) (by decide) (t := .int) (t' := .boolean) (by decide) (by decide)))
        have x726 := x696.other W723 (Or.inr (slot_ne (Or.inl (own_wk hw 49 rfl)) (Or.inl (own_wk hw 97 rfl)) (by decide) (t := .int) (t' := .boolean) (by decide) (by decide)))
        have x727 := x698.other W723 (Or.inr (slot_ne (Or.inr (own_wk hw 47 rfl)) (Or.inl (own_wk hw 97 rfl)) (by decide) (t := (.object "java/lang/StringBuilder")) (t' := .boolean) (by decide) (by decide)))
        have x728 := x699.wr W723
        have x729 := x700.other W723 (Or.inl (Ne.symm ne_a0_bd))
        have x730 := x701.other W723 (Or.inl (Ne.symm ne_a0_bd))
        have x731 := x702.other W723 (Or.inl (Ne.symm ne_a0_bd))
        have x732 := x703.other W723 (Ne.symm ne_a0_vb)
        have x733 := x704.other W723 (Ne.symm ne_a0_a1)
        have x734 := x705.wr W723 ge_a0
        have x735 := Safe.wr W723 x707 hC.1 x706
        have x736 := Safe.wr W723 x707 hC.1 x707
        have x737 := Safe.wr W723 x707 hC.1 x708
        have x738 := Safe.wr W723 x707 hC.1 x709
        have x739 := Es693.wr W723
        have x740 := Fc693.other W723 (Or.inl (Ne.symm (hSf693 _ x707).1))
        have x741 := Fv693.other W723 (Or.inl (Ne.symm (hSf693 _ x707).1))
        have x742 := Vs693.other W723 (Ne.symm (hSf693 _ x707).2)
        have sz743 : n0 ≤ h723.size := Nat.le_trans sz710 (Keep.of_wr W723).1
        have hkS := Nat.le_trans hkS (Keep.of_wr W723).1
        have hC := hC.trans (CHr.wr W723 x707 hC.1)
        have kp744 : Keep h0 h723 [a0, a1, bd, vb] := kp711.wr W723 (Or.inl (List.mem_of_getElem? (i := 0) rfl))
        have N723 := Fr.snoc X723 N719 ge_a0
        obtain ⟨T745, X745, e745, st745⟩ := getF X723 hx hZ hown (host := "") (Or.inl (own_wk hw 48 rfl)) Via.refl e723 x726 (g := (mkF m 80 #[.val (.ref a0), .val (.ref a1), .val (.int p2), .val (.int (own_at sg.2.2.2.2.1 p2))] [(.ref a0), (.ref a0)])) rfl rfl (hb hby d20_80)
        obtain ⟨T746, h746, X746, e746, W746, st746⟩ := putF X745 hx hZ hown (host := "") (Or.inl (own_wk hw 48 rfl)) Via.refl e745 x726 x724 (Or.inl (own_wk hw 49 rfl)) (own_wk hw 18 rfl) (ty := .int) (by decide) rfl rfl (g := (mkF m 85 #[.val (.ref a0), .val (.ref a1), .val (.int p2), .val (.int (own_at sg.2.2.2.2.1 p2))] [(.int (sg.2.1 + (1 : Int32))), (.ref a0)])) rfl rfl (hb hby d20_85)
        have Fw746 := x726.same W746
        have x747 := x724.wr W746
        have x748 := x725.other W746 (Or.inr (slot_ne (Or.inl (own_wk hw 56 rfl)) (Or.inl (own_wk hw 49 rfl)) (by decide) (t := .int) (t' := .int) (by decide) (by decide)))
        have x749 := x727.other W746 (Or.inr (slot_ne (Or.inr (own_wk hw 47 rfl)) (Or.inl (own_wk hw 49 rfl)) (by decide) (t := (.object "java/lang/StringBuilder")) (t' := .int) (by decide) (by decide)))
        have x750 := x728.wr W746
        have x751 := x729.other W746 (Or.inl (Ne.symm ne_a0_bd))
        have x752 := x730.other W746 (Or.inl (Ne.symm ne_a0_bd))
        have x753 := x731.other W746 (Or.inl (Ne.symm ne_a0_bd))
        have x754 := x732.other W746 (Ne.symm ne_a0_vb)
        have x755 := x733.other W746 (Ne.symm ne_a0_a1)
        have x756 := x734.wr W746 ge_a0
        have x757 := Safe.wr W746 x736 hC.1 x735
        have x758 := Safe.wr W746 x736 hC.1 x736
        have x759 := Safe.wr W746 x736 hC.1 x737
        have x760 := Safe.wr W746 x736 hC.1 x738
        have x761 := x739.wr W746
        have x762 := x740.other W746 (Or.inl (Ne.symm (hSf693 _ x707).1))
        have x763 := x741.other W746 (Or.inl (Ne.symm (hSf693 _ x707).1))
        have x764 := x742.other W746 (Ne.symm (hSf693 _ x707).2)
        have x765 := Fw723.other W746 (Or.inr (slot_ne (Or.inl (own_wk hw 97 rfl)) (Or.inl (own_wk hw 49 rfl)) (by decide) (t := .boolean) (t' := .int) (by decide) (by decide)))
        have sz766 : n0 ≤ h746.size := Nat.le_trans sz743 (Keep.of_wr W746).1
        have hkS := Nat.le_trans hkS (Keep.of_wr W746).1
        have hC := hC.trans (CHr.wr W746 x736 hC.1)
        have kp767 : Keep h0 h746 [a0, a1, bd, vb] := kp744.wr W746 (Or.inl (List.mem_of_getElem? (i := 0) rfl))
        have N746 := Fr.snoc X746 N723 ge_a0
        obtain ⟨fs, hr, hrun, hended, hEnd⟩ := X746.leaveW hS (by rw [e746]; exact hkS) (v := none) (fun _ => rfl)
        refine ⟨_, _, pre0 _ ?_, hrun, hended, _, _, rfl, ?_, ?_, hEnd.1, hEnd.2.1, hEnd.2.2.1, hEnd.2.2.2.mono (by decide) (by decide)⟩
        · show own_S p e below s₁ (mkF m 0 #[.val (.ref a0), .val (.ref a1), .val (.int p2), .unset] []) _
          refine cp722 _ (XS.icmpNo X719.here hx rfl (hb hby d20_67) rfl (teq hc721).2 (XS.iconst X719.here hx rfl (hb hby d20_70) (XS.goto X719.here hx rfl (pc0 := 71) (pc' := 75) rfl (hb hby d20_71) (by decide) (by decide) (st723 _ (XS.aloadN X723.here hx rfl (hb hby d20_78) rfl rfl (XS.dup X723.here hx rfl (hb hby d20_79) rfl rfl (st745 _ (XS.iconst X745.here hx rfl (hb hby d20_83) (XS.iadd X745.here hx rfl (hb hby d20_84) rfl ?_)))))))))
          refine st746 _ (XS.goto X746.here hx rfl (pc0 := 88) (pc' := 121) rfl (hb hby d20_88) (by decide) (by decide) ?_)
          show own_S p e below T746 (mkF m 121 #[.val (.ref a0), .val (.ref a1), .val (.int p2), .val (.int (own_at sg.2.2.2.2.1 p2))] []) _
          exact X746.returnOut hx Bd.returns (hb hby d20_121) hr
        · refine ⟨?_, ?_⟩
          · show Q20_l Z a0 a1 p2 bd vb k1 kb n sg cs gf h0 n0 _ T746.heap _
            rw [e746]
            refine ⟨rfl, N746, kp767, ?_⟩
            rw [own_escL hld, show own_esc2 p2 sg = (sg.1, sg.2.1 + (1 : Int32), (1 : Int32), sg.2.2.2) from (if_pos hc714).trans (by rw [show own_de sg.2.1 sg.2.2.1 (own_at sg.2.2.2.2.1 p2) = (1 : Int32) from by unfold own_de; rw [if_pos hc690, if_pos hc721]])]
            exact ⟨x747, x748, Fw746, x765, x749, x750, x751, x752, x753, x754, x755⟩
          · show (own_LitV Z a0 a1 bd vb) T746.vm T746.heap
            rw [show T746.heap = h746 from e746]
            exact ⟨sa693, sb693, kb693, ⟨x761, x762, x763, x764⟩, ⟨(hSf693 _ x707).1, (hSf693 _ x708).1, (hSf693 _ x709).1, (hSf693 _ x706).1, (hSf693 _ x707).2, (hSf693 _ x708).2, (hSf693 _ x709).2, (hSf693 _ x706).2⟩, own_litU (s := s.setVm T693.vm) (U := Z.setVm T746.vm) hLit693 X746.warmed.wide⟩
        · show CHr Z own_EL s.vm s.heap T746.vm T746.heap
          rw [hh, show T746.heap = h746 from e746]
          exact hC.trans (CHv.at X746 hZ hEL hC.1)
      · obtain ⟨T768, h768, X768, e768, W768, st768⟩ := putFN X719 hx hZ hown (own_wk hw 96 rfl) Via.refl e719 x697 x694 (Or.inl (own_wk hw 97 rfl)) (own_wk hw 18 rfl) (ty := .boolean) (v' := (.int (0 : Int32))) (by decide) rfl (fits_nar_bool (0 : Int32)) (g := (mkF m 75 #[.val (.ref a0), .val (.ref a1), .val (.int p2), .val (.int (own_at sg.2.2.2.2.1 p2))] [.int 0, (.ref a0)])) rfl rfl (hb hby d20_75)
        have Fw768 := x697.same W768
        have x769 := x694.wr W768
        have x770 := x695.other W768 (Or.inr (slot_ne (Or.inl (own_wk hw 56 rfl)) (Or.inl (own_wk hw 97 rfl)) (by decide) (t := .int) (t' := .boolean) (by decide) (by decide)))
        have x771 := x696.other W768 (Or.inr (slot_ne (Or.inl (own_wk hw 49 rfl)) (Or.inl (own_wk hw 97 rfl)) (by decide) (t := .int) (t' := .boolean) (by decide) (by decide)))
        have x772 := x698.other W768 (Or.inr (slot_ne (Or.inr (own_wk hw 47 rfl)) (Or.inl (own_wk hw 97 rfl)) (by decide) (t := (.object "java/lang/StringBuilder")) (t' := .boolean) (by decide) (by decide)))
        have x773 := x699.wr W768
        have x774 := x700.other W768 (Or.inl (Ne.symm ne_a0_bd))
        have x775 := x701.other W768 (Or.inl (Ne.symm ne_a0_bd))
        have x776 := x702.other W768 (Or.inl (Ne.symm ne_a0_bd))
        have x777 := x703.other W768 (Ne.symm ne_a0_vb)
        have x778 := x704.other W768 (Ne.symm ne_a0_a1)
        have x779 := x705.wr W768 ge_a0
        have x780 := Safe.wr W768 x707 hC.1 x706
        have x781 := Safe.wr W768 x707 hC.1 x707
        have x782 := Safe.wr W768 x707 hC.1 x708
        have x783 := Safe.wr W768 x707 hC.1 x709
        have x784 := Es693.wr W768
        have x785 := Fc693.other W768 (Or.inl (Ne.symm (hSf693 _ x707).1))
        have x786 := Fv693.other W768 (Or.inl (Ne.symm (hSf693 _ x707).1))
        have x787 := Vs693.other W768 (Ne.symm (hSf693 _ x707).2)
        have sz788 : n0 ≤ h768.size := Nat.le_trans sz710 (Keep.of_wr W768).1
        have hkS := Nat.le_trans hkS (Keep.of_wr W768).1
        have hC := hC.trans (CHr.wr W768 x707 hC.1)
        have kp789 : Keep h0 h768 [a0, a1, bd, vb] := kp711.wr W768 (Or.inl (List.mem_of_getElem? (i := 0) rfl))
        have N768 := Fr.snoc X768 N719 ge_a0
        obtain ⟨T790, X790, e790, st790⟩ := getF X768 hx hZ hown (host := "") (Or.inl (own_wk hw 48 rfl)) Via.refl e768 x771 (g := (mkF m 80 #[.val (.ref a0), .val (.ref a1), .val (.int p2), .val (.int (own_at sg.2.2.2.2.1 p2))] [(.ref a0), (.ref a0)])) rfl rfl (hb hby d20_80)
        obtain ⟨T791, h791, X791, e791, W791, st791⟩ := putF X790 hx hZ hown (host := "") (Or.inl (own_wk hw 48 rfl)) Via.refl e790 x771 x769 (Or.inl (own_wk hw 49 rfl)) (own_wk hw 18 rfl) (ty := .int) (by decide) rfl rfl (g := (mkF m 85 #[.val (.ref a0), .val (.ref a1), .val (.int p2), .val (.int (own_at sg.2.2.2.2.1 p2))] [(.int (sg.2.1 + (1 : Int32))), (.ref a0)])) rfl rfl (hb hby d20_85)
        have Fw791 := x771.same W791
        have x792 := x769.wr W791
        have x793 := x770.other W791 (Or.inr (slot_ne (Or.inl (own_wk hw 56 rfl)) (Or.inl (own_wk hw 49 rfl)) (by decide) (t := .int) (t' := .int) (by decide) (by decide)))
        have x794 := x772.other W791 (Or.inr (slot_ne (Or.inr (own_wk hw 47 rfl)) (Or.inl (own_wk hw 49 rfl)) (by decide) (t := (.object "java/lang/StringBuilder")) (t' := .int) (by decide) (by decide)))
        have x795 := x773.wr W791
        have x796 := x774.other W791 (Or.inl (Ne.symm ne_a0_bd))
        have x797 := x775.other W791 (Or.inl (Ne.symm ne_a0_bd))
        have x798 := x776.other W791 (Or.inl (Ne.symm ne_a0_bd))
        have x799 := x777.other W791 (Ne.symm ne_a0_vb)
        have x800 := x778.other W791 (Ne.symm ne_a0_a1)
        have x801 := x779.wr W791 ge_a0
        have x802 := Safe.wr W791 x781 hC.1 x780
        have x803 := Safe.wr W791 x781 hC.1 x781
        have x804 := Safe.wr W791 x781 hC.1 x782
        have x805 := Safe.wr W791 x781 hC.1 x783
        have x806 := x784.wr W791
        have x807 := x785.other W791 (Or.inl (Ne.symm (hSf693 _ x707).1))
        have x808 := x786.other W791 (Or.inl (Ne.symm (hSf693 _ x707).1))
        have x809 := x787.other W791 (Ne.symm (hSf693 _ x707).2)
        have x810 := Fw768.other W791 (Or.inr (slot_ne (Or.inl (own_wk hw 97 rfl)) (Or.inl (own_wk hw 49 rfl)) (by decide) (t := .boolean) (t' := .int) (by decide) (by decide)))
        have sz811 : n0 ≤ h791.size := Nat.le_trans sz788 (Keep.of_wr W791).1
        have hkS := Nat.le_trans hkS (Keep.of_wr W791).1
        have hC := hC.trans (CHr.wr W791 x781 hC.1)
        have kp812 : Keep h0 h791 [a0, a1, bd, vb] := kp789.wr W791 (Or.inl (List.mem_of_getElem? (i := 0) rfl))
        have N791 := Fr.snoc X791 N768 ge_a0
        obtain ⟨fs, hr, hrun, hended, hEnd⟩ := X791.leaveW hS (by rw [e791]; exact hkS) (v := none) (fun _ => rfl)
        refine ⟨_, _, pre0 _ ?_, hrun, hended, _, _, rfl, ?_, ?_, hEnd.1, hEnd.2.1, hEnd.2.2.1, hEnd.2.2.2.mono (by decide) (by decide)⟩
        · show own_S p e below s₁ (mkF m 0 #[.val (.ref a0), .val (.ref a1), .val (.int p2), .unset] []) _
          refine cp722 _ (XS.icmpYes X719.here hx rfl (pc0 := 67) (pc' := 74) rfl (hb hby d20_67) rfl (feq hc721).2 (by decide) (by decide) (XS.iconst X719.here hx rfl (hb hby d20_74) (st768 _ (XS.aloadN X768.here hx rfl (hb hby d20_78) rfl rfl (XS.dup X768.here hx rfl (hb hby d20_79) rfl rfl (st790 _ (XS.iconst X790.here hx rfl (hb hby d20_83) (XS.iadd X790.here hx rfl (hb hby d20_84) rfl (st791 _ ?_)))))))))
          refine XS.goto X791.here hx rfl (pc0 := 88) (pc' := 121) rfl (hb hby d20_88) (by decide) (by decide) ?_
          show own_S p e below T791 (mkF m 121 #[.val (.ref a0), .val (.ref a1), .val (.int p2), .val (.int (own_at sg.2.2.2.2.1 p2))] []) _
          exact X791.returnOut hx Bd.returns (hb hby d20_121) hr
        · refine ⟨?_, ?_⟩
          · show Q20_l Z a0 a1 p2 bd vb k1 kb n sg cs gf h0 n0 _ T791.heap _
            rw [e791]
            refine ⟨rfl, N791, kp812, ?_⟩
            rw [own_escL hld, show own_esc2 p2 sg = (sg.1, sg.2.1 + (1 : Int32), (0 : Int32), sg.2.2.2) from (if_pos hc714).trans (by rw [show own_de sg.2.1 sg.2.2.1 (own_at sg.2.2.2.2.1 p2) = (0 : Int32) from by unfold own_de; rw [if_pos hc690, if_neg hc721]])]
            exact ⟨x792, x793, Fw791, x810, x794, x795, x796, x797, x798, x799, x800⟩
          · show (own_LitV Z a0 a1 bd vb) T791.vm T791.heap
            rw [show T791.heap = h791 from e791]
            exact ⟨sa693, sb693, kb693, ⟨x806, x807, x808, x809⟩, ⟨(hSf693 _ x707).1, (hSf693 _ x708).1, (hSf693 _ x709).1, (hSf693 _ x706).1, (hSf693 _ x707).2, (hSf693 _ x708).2, (hSf693 _ x709).2, (hSf693 _ x706).2⟩, own_litU (s := s.setVm T693.vm) (U := Z.setVm T791.vm) hLit693 X791.warmed.wide⟩
        · show CHr Z own_EL s.vm s.heap T791.vm T791.heap
          rw [hh, show T791.heap = h791 from e791]
          exact hC.trans (CHv.at X791 hZ hEL hC.1)
    · obtain ⟨T813, X813, e813, st813⟩ := getF X712 hx hZ hown (host := "") (Or.inl (own_wk hw 96 rfl)) Via.refl e712 x697 (g := (mkF m 95 #[.val (.ref a0), .val (.ref a1), .val (.int p2), .val (.int (own_at sg.2.2.2.2.1 p2))] [(.ref a0), (.int p2), (.ref a1), (.ref a0)])) rfl rfl (hb hby d20_95)
      have cp815 : ∀ target, own_S p e below T813 (mkF m 98 #[.val (.ref a0), .val (.ref a1), .val (.int p2), .val (.int (own_at sg.2.2.2.2.1 p2))] [(.int sg.2.2.1), (.int p2), (.ref a1), (.ref a0)]) target → own_S p e below s₁ (mkF m 0 #[.val (.ref a0), .val (.ref a1), .val (.int p2), .unset] []) target := by
        intro target kt
        show own_S p e below s₁ (mkF m 0 #[.val (.ref a0), .val (.ref a1), .val (.int p2), .unset] []) _
        refine cp715 _ (XS.icmpYes X712.here hx rfl (pc0 := 39) (pc' := 91) rfl (hb hby d20_39) rfl (flt hc714).2.1 (by decide) (by decide) (XS.aloadN X712.here hx rfl (hb hby d20_91) rfl rfl (XS.aloadN X712.here hx rfl (hb hby d20_92) rfl rfl (XS.iloadN X712.here hx rfl (hb hby d20_93) rfl (XS.aloadN X712.here hx rfl (hb hby d20_94) rfl rfl (st813 _ ?_))))))
        exact kt
      by_cases hc814 : sg.2.2.1 = (0 : Int32)
      · obtain ⟨cq816, q816, q816'⟩ := x694.cell
        obtain ⟨_, _, ⟨T816, L816, k816, n816⟩, -, X816, ⟨Lc816, hQ816, l816, y816, z816⟩, st816⟩ := X813.privateBack hx (y := (⟨"com/example/needle_in_json/needleinjson/MaskedDigits", "count", "([CIZ)V"⟩ : MethodName)) hown (mvT hZ (own_wk hw 105 rfl)) (mvT hZ (own_wk hw 106 rfl)) (own_selp (ym := (⟨"com/example/needle_in_json/needleinjson/MaskedDigits", "mask", "([CII)V"⟩ : MethodName)) (mvT hZ (own_wk hw 53 rfl)) rfl (Cond.privateMethod_at (mvP hZ (own_wk hw 107 rfl) (args := #[]))) (mvT hZ (own_wk hw 106 rfl)) (by decide)) (Cond.privateMethod_at (mvP hZ (own_wk hw 107 rfl) (args := #[]))) (mvT hZ (own_wk hw 108 rfl)) (by decide) (backOf (W := 0) (rm21 l Z ag hw [] a0 a1 p2 (0 : Int32) bd vb k1 kb n sg cs gf h693 n0 sz710 (show own_F Z h693 a0 a1 bd vb k1 kb n sg from ⟨x694, x695, x696, x697, x698, x699, x700, x701, x702, x703, x704⟩) hN hG x705 S_cs hcs S_gf rv_gf hi hKk (fun q => absurd rfl q)) hZ (own_wk hw 108 rfl) (own_wk hw 19 rfl) (by decide) (by decide)) (g := (mkF m 113 #[.val (.ref a0), .val (.ref a1), .val (.int p2), .val (.int (own_at sg.2.2.2.2.1 p2))] [.int 0, (.int p2), (.ref a1), (.ref a0)])) rfl (by rw [hml]; rfl) (Steps.refl _) (a := a0) (by rw [e813]; exact q816) q816' (argsL := [(.ref a1), (.int p2), (.int (0 : Int32))]) (rest := []) (lenOf pd_24 rfl) rfl (by show 2 * 0 + _ ≤ _; exact Nat.le_of_eq rfl) (hb hby d20_113) (fun _ _ => ⟨rfl, e813, (by decide : 2 + 0 ≤ _), (by decide : 20 + 0 ≤ _)⟩)
        dsimp only [Pt.U, Pt.locs, Pt.cells, Pt.slots] at X816 l816 y816 z816 st816 hQ816
        subst l816 y816 z816
        obtain ⟨rfl, N816q, K816, F816⟩ := hQ816
        have N816 := Fr.app N712 N816q
        have x817 := x694.keep K816
        have x818 := x699.keep K816
        have x819 := x705.keep K816 (allS ge_a0 (allS ge_a1 (allS ge_bd (allS ge_vb all0))))
        have x820 := Safe.keep K816 (sfS x707 (sfS x708 (sfS x709 (sfS x706 sf0)))) hC.1 x706
        have x821 := Safe.keep K816 (sfS x707 (sfS x708 (sfS x709 (sfS x706 sf0)))) hC.1 x707
        have x822 := Safe.keep K816 (sfS x707 (sfS x708 (sfS x709 (sfS x706 sf0)))) hC.1 x708
        have x823 := Safe.keep K816 (sfS x707 (sfS x708 (sfS x709 (sfS x706 sf0)))) hC.1 x709
        have x824 := Es693.keep K816
        have x825 := Fc693.keep K816 (ninS (Ne.symm (hSf693 _ x707).1) (ninS (Ne.symm (hSf693 _ x708).1) (ninS (Ne.symm (hSf693 _ x709).1) (ninS (Ne.symm (hSf693 _ x706).1) nin0))))
        have x826 := Fv693.keep K816 (ninS (Ne.symm (hSf693 _ x707).1) (ninS (Ne.symm (hSf693 _ x708).1) (ninS (Ne.symm (hSf693 _ x709).1) (ninS (Ne.symm (hSf693 _ x706).1) nin0))))
        have x827 := Vs693.keep K816 (ninS (Ne.symm (hSf693 _ x707).2) (ninS (Ne.symm (hSf693 _ x708).2) (ninS (Ne.symm (hSf693 _ x709).2) (ninS (Ne.symm (hSf693 _ x706).2) nin0))))
        have sz828 : n0 ≤ T816.heap.size := Nat.le_trans sz710 K816.1
        have hkS := Nat.le_trans hkS K816.1
        have hC := hC.trans (CHr.keep K816 (sfS x707 (sfS x708 (sfS x709 (sfS x706 sf0)))) hC.1)
        have kp829 : Keep h0 T816.heap [a0, a1, bd, vb] := kp711.trans K816 (allS (Or.inl (List.mem_of_getElem? (i := 0) rfl)) (allS (Or.inl (List.mem_of_getElem? (i := 1) rfl)) (allS (Or.inl (List.mem_of_getElem? (i := 2) rfl)) (allS (Or.inl (List.mem_of_getElem? (i := 3) rfl)) all0))))
        obtain ⟨m816_0, m816_1, m816_2, m816_3, m816_4, m816_5, m816_6, m816_7, m816_8, m816_9, m816_10⟩ := id F816
        obtain ⟨T830, h830, X830, e830, W830, st830⟩ := putF X816 hx hZ hown (host := "") (Or.inl (own_wk hw 48 rfl)) Via.refl rfl m816_2 m816_0 (Or.inl (own_wk hw 49 rfl)) (own_wk hw 18 rfl) (ty := .int) (by decide) rfl rfl (g := (mkF m 118 #[.val (.ref a0), .val (.ref a1), .val (.int p2), .val (.int (own_at sg.2.2.2.2.1 p2))] [.int (-1), (.ref a0)])) rfl rfl (hb hby d20_118)
        have Fw830 := m816_2.same W830
        have x831 := m816_0.wr W830
        have x832 := m816_5.wr W830
        have x833 := x819.wr W830 ge_a0
        have x834 := Safe.wr W830 x821 hC.1 x820
        have x835 := Safe.wr W830 x821 hC.1 x821
        have x836 := Safe.wr W830 x821 hC.1 x822
        have x837 := Safe.wr W830 x821 hC.1 x823
        have x838 := x824.wr W830
        have x839 := x825.other W830 (Or.inl (Ne.symm (hSf693 _ x707).1))
        have x840 := x826.other W830 (Or.inl (Ne.symm (hSf693 _ x707).1))
        have x841 := x827.other W830 (Ne.symm (hSf693 _ x707).2)
        have x842 := m816_1.other W830 (Or.inr (slot_ne (Or.inl (own_wk hw 56 rfl)) (Or.inl (own_wk hw 49 rfl)) (by decide) (t := .int) (t' := .int) (by decide) (by decide)))
        have x843 := m816_3.other W830 (Or.inr (slot_ne (Or.inl (own_wk hw 97 rfl)) (Or.inl (own_wk hw 49 rfl)) (by decide) (t := .boolean) (t' := .int) (by decide) (by decide)))
        have x844 := m816_4.other W830 (Or.inr (slot_ne (Or.inr (own_wk hw 47 rfl)) (Or.inl (own_wk hw 49 rfl)) (by decide) (t := (.object "java/lang/StringBuilder")) (t' := .int) (by decide) (by decide)))
        have x845 := m816_6.other W830 (Or.inl (Ne.symm ne_a0_bd))
        have x846 := m816_7.other W830 (Or.inl (Ne.symm ne_a0_bd))
        have x847 := m816_8.other W830 (Or.inl (Ne.symm ne_a0_bd))
        have x848 := m816_9.other W830 (Ne.symm ne_a0_vb)
        have x849 := m816_10.other W830 (Ne.symm ne_a0_a1)
        have sz850 : n0 ≤ h830.size := Nat.le_trans sz828 (Keep.of_wr W830).1
        have hkS := Nat.le_trans hkS (Keep.of_wr W830).1
        have hC := hC.trans (CHr.wr W830 x821 hC.1)
        have kp851 : Keep h0 h830 [a0, a1, bd, vb] := kp829.wr W830 (Or.inl (List.mem_of_getElem? (i := 0) rfl))
        have N830 := Fr.snoc X830 N816 ge_a0
        obtain ⟨fs, hr, hrun, hended, hEnd⟩ := X830.leaveW hS (by rw [e830]; exact hkS) (v := none) (fun _ => rfl)
        refine ⟨_, _, pre0 _ ?_, hrun, hended, _, _, rfl, ?_, ?_, hEnd.1, hEnd.2.1, hEnd.2.2.1, hEnd.2.2.2.mono (by decide) (by decide)⟩
        · show own_S p e below s₁ (mkF m 0 #[.val (.ref a0), .val (.ref a1), .val (.int p2), .unset] []) _
          refine cp815 _ (XS.ifYes X813.here hx rfl (pc0 := 98) (pc' := 112) rfl (hb hby d20_98) rfl ((if0 _ _).trans (teq hc814).1) (by decide) (by decide) (XS.iconst X813.here hx rfl (hb hby d20_112) (st816.trans (XS.aloadN X816.here hx rfl (hb hby d20_116) rfl rfl (XS.iconst X816.here hx rfl (hb hby d20_117) (st830 _ ?_))))))
          show own_S p e below T830 (mkF m 121 #[.val (.ref a0), .val (.ref a1), .val (.int p2), .val (.int (own_at sg.2.2.2.2.1 p2))] []) _
          exact X830.returnOut hx Bd.returns (hb hby d20_121) hr
        · refine ⟨?_, ?_⟩
          · show Q20_l Z a0 a1 p2 bd vb k1 kb n sg cs gf h0 n0 _ T830.heap _
            rw [e830]
            refine ⟨rfl, N830, kp851, ?_⟩
            rw [own_escL hld, show own_esc2 p2 sg = own_er (-1) (own_count p2 (0 : Int32) sg) from (if_neg hc714).trans (by rw [show own_fl sg.2.2.1 (own_at sg.2.2.2.2.1 p2) = (0 : Int32) from by unfold own_fl; rw [if_pos hc814]])]
            exact ⟨x831, x842, Fw830, x843, x844, x832, x845, x846, x847, x848, x849⟩
          · show (own_LitV Z a0 a1 bd vb) T830.vm T830.heap
            rw [show T830.heap = h830 from e830]
            exact ⟨sa693, sb693, kb693, ⟨x838, x839, x840, x841⟩, ⟨(hSf693 _ x707).1, (hSf693 _ x708).1, (hSf693 _ x709).1, (hSf693 _ x706).1, (hSf693 _ x707).2, (hSf693 _ x708).2, (hSf693 _ x709).2, (hSf693 _ x706).2⟩, own_litU (s := s.setVm T693.vm) (U := Z.setVm T830.vm) hLit693 X830.warmed.wide⟩
        · show CHr Z own_EL s.vm s.heap T830.vm T830.heap
          rw [hh, show T830.heap = h830 from e830]
          exact hC.trans (CHv.at X830 hZ hEL hC.1)
      · obtain ⟨_, _, ⟨T852, L852, k852, n852⟩, -, X852, ⟨Lc852, hQ852, l852, y852, z852⟩, st852⟩ := Jvm.LawKit.callS X813 hx (y := (⟨"com/example/needle_in_json/needleinjson/MaskedDigits", "isDigit", "(C)Z"⟩ : MethodName)) hown (mvT hZ (own_wk hw 64 rfl)) (mvT hZ (own_wk hw 65 rfl)) (mvT hZ (own_wk hw 19 rfl)) (mvT hZ (own_wk hw 66 rfl)) (by decide) (backOf (W := 3) (rm12 l Z ag hw [] (own_at sg.2.2.2.2.1 p2)  h693 n0 sz710 ) hZ (own_wk hw 66 rfl) (own_wk hw 19 rfl) (by decide) (by decide)) (g := (mkF m 102 #[.val (.ref a0), .val (.ref a1), .val (.int p2), .val (.int (own_at sg.2.2.2.2.1 p2))] [(.int (own_at sg.2.2.2.2.1 p2)), (.int p2), (.ref a1), (.ref a0)])) rfl (by rw [hml]; rfl) (argsL := [(.int (own_at sg.2.2.2.2.1 p2))]) (rest := [(.int p2), (.ref a1), (.ref a0)]) (lenOf pd_6 rfl) rfl (by show 2 * 0 + _ ≤ _; exact Nat.le_of_eq rfl) (hb hby d20_102) (fun _ _ => ⟨rfl, e813, (by decide : 2 + 0 ≤ _), (by decide : 20 + 0 ≤ _)⟩)
        dsimp only [Pt.U, Pt.locs, Pt.cells, Pt.slots] at X852 l852 y852 z852 st852 hQ852
        subst l852 y852 z852
        obtain ⟨rfl, N852q, e852⟩ := hQ852
        have N852 := Fr.app N712 N852q
        have cp854 : ∀ target, own_S p e below T852 (mkF m 105 #[.val (.ref a0), .val (.ref a1), .val (.int p2), .val (.int (own_at sg.2.2.2.2.1 p2))] [(.int (own_isD (own_at sg.2.2.2.2.1 p2))), (.int p2), (.ref a1), (.ref a0)]) target → own_S p e below s₁ (mkF m 0 #[.val (.ref a0), .val (.ref a1), .val (.int p2), .unset] []) target := by
          intro target kt
          show own_S p e below s₁ (mkF m 0 #[.val (.ref a0), .val (.ref a1), .val (.int p2), .unset] []) _
          refine cp815 _ (XS.ifNo X813.here hx rfl (hb hby d20_98) rfl ((if0 _ _).trans (feq hc814).1) (XS.iloadN X813.here hx rfl (hb hby d20_101) rfl (st852 _ ?_)))
          exact kt
        by_cases hc853 : (own_isD (own_at sg.2.2.2.2.1 p2)) = (0 : Int32)
        · obtain ⟨cq855, q855, q855'⟩ := x694.cell
          obtain ⟨_, _, ⟨T855, L855, k855, n855⟩, -, X855, ⟨Lc855, hQ855, l855, y855, z855⟩, st855⟩ := X852.privateBack hx (y := (⟨"com/example/needle_in_json/needleinjson/MaskedDigits", "count", "([CIZ)V"⟩ : MethodName)) hown (mvT hZ (own_wk hw 105 rfl)) (mvT hZ (own_wk hw 106 rfl)) (own_selp (ym := (⟨"com/example/needle_in_json/needleinjson/MaskedDigits", "mask", "([CII)V"⟩ : MethodName)) (mvT hZ (own_wk hw 53 rfl)) rfl (Cond.privateMethod_at (mvP hZ (own_wk hw 107 rfl) (args := #[]))) (mvT hZ (own_wk hw 106 rfl)) (by decide)) (Cond.privateMethod_at (mvP hZ (own_wk hw 107 rfl) (args := #[]))) (mvT hZ (own_wk hw 108 rfl)) (by decide) (backOf (W := 0) (rm21 l Z ag hw [] a0 a1 p2 (0 : Int32) bd vb k1 kb n sg cs gf h693 n0 sz710 (show own_F Z h693 a0 a1 bd vb k1 kb n sg from ⟨x694, x695, x696, x697, x698, x699, x700, x701, x702, x703, x704⟩) hN hG x705 S_cs hcs S_gf rv_gf hi hKk (fun q => absurd rfl q)) hZ (own_wk hw 108 rfl) (own_wk hw 19 rfl) (by decide) (by decide)) (g := (mkF m 113 #[.val (.ref a0), .val (.ref a1), .val (.int p2), .val (.int (own_at sg.2.2.2.2.1 p2))] [.int 0, (.int p2), (.ref a1), (.ref a0)])) rfl (by rw [hml]; rfl) (Steps.refl _) (a := a0) (by rw [e852]; exact q855) q855' (argsL := [(.ref a1), (.int p2), (.int (0 : Int32))]) (rest := []) (lenOf pd_24 rfl) rfl (by show 2 * 0 + _ ≤ _; exact Nat.le_of_eq rfl) (hb hby d20_113) (fun _ _ => ⟨rfl, e852, (by decide : 2 + 0 ≤ _), (by decide : 20 + 0 ≤ _)⟩)
          dsimp only [Pt.U, Pt.locs, Pt.cells, Pt.slots] at X855 l855 y855 z855 st855 hQ855
          subst l855 y855 z855
          obtain ⟨rfl, N855q, K855, F855⟩ := hQ855
          have N855 := Fr.app N852 N855q
          have x856 := x694.keep K855
          have x857 := x699.keep K855
          have x858 := x705.keep K855 (allS ge_a0 (allS ge_a1 (allS ge_bd (allS ge_vb all0))))
          have x859 := Safe.keep K855 (sfS x707 (sfS x708 (sfS x709 (sfS x706 sf0)))) hC.1 x706
          have x860 := Safe.keep K855 (sfS x707 (sfS x708 (sfS x709 (sfS x706 sf0)))) hC.1 x707
          have x861 := Safe.keep K855 (sfS x707 (sfS x708 (sfS x709 (sfS x706 sf0)))) hC.1 x708
          have x862 := Safe.keep K855 (sfS x707 (sfS x708 (sfS x709 (sfS x706 sf0)))) hC.1 x709
          have x863 := Es693.keep K855
          have x864 := Fc693.keep K855 (ninS (Ne.symm (hSf693 _ x707).1) (ninS (Ne.symm (hSf693 _ x708).1) (ninS (Ne.symm (hSf693 _ x709).1) (ninS (Ne.symm (hSf693 _ x706).1) nin0))))
          have x865 := Fv693.keep K855 (ninS (Ne.symm (hSf693 _ x707).1) (ninS (Ne.symm (hSf693 _ x708).1) (ninS (Ne.symm (hSf693 _ x709).1) (ninS (Ne.symm (hSf693 _ x706).1) nin0))))
          have x866 := Vs693.keep K855 (ninS (Ne.symm (hSf693 _ x707).2) (ninS (Ne.symm (hSf693 _ x708).2) (ninS (Ne.symm (hSf693 _ x709).2) (ninS (Ne.symm (hSf693 _ x706).2) nin0))))
          have sz867 : n0 ≤ T855.heap.size := Nat.le_trans sz710 K855.1
          have hkS := Nat.le_trans hkS K855.1
          have hC := hC.trans (CHr.keep K855 (sfS x707 (sfS x708 (sfS x709 (sfS x706 sf0)))) hC.1)
          have kp868 : Keep h0 T855.heap [a0, a1, bd, vb] := kp711.trans K855 (allS (Or.inl (List.mem_of_getElem? (i := 0) rfl)) (allS (Or.inl (List.mem_of_getElem? (i := 1) rfl)) (allS (Or.inl (List.mem_of_getElem? (i := 2) rfl)) (allS (Or.inl (List.mem_of_getElem? (i := 3) rfl)) all0))))
          obtain ⟨m855_0, m855_1, m855_2, m855_3, m855_4, m855_5, m855_6, m855_7, m855_8, m855_9, m855_10⟩ := id F855
          obtain ⟨T869, h869, X869, e869, W869, st869⟩ := putF X855 hx hZ hown (host := "") (Or.inl (own_wk hw 48 rfl)) Via.refl rfl m855_2 m855_0 (Or.inl (own_wk hw 49 rfl)) (own_wk hw 18 rfl) (ty := .int) (by decide) rfl rfl (g := (mkF m 118 #[.val (.ref a0), .val (.ref a1), .val (.int p2), .val (.int (own_at sg.2.2.2.2.1 p2))] [.int (-1), (.ref a0)])) rfl rfl (hb hby d20_118)
          have Fw869 := m855_2.same W869
          have x870 := m855_0.wr W869
          have x871 := m855_5.wr W869
          have x872 := x858.wr W869 ge_a0
          have x873 := Safe.wr W869 x860 hC.1 x859
          have x874 := Safe.wr W869 x860 hC.1 x860
          have x875 := Safe.wr W869 x860 hC.1 x861
          have x876 := Safe.wr W869 x860 hC.1 x862
          have x877 := x863.wr W869
          have x878 := x864.other W869 (Or.inl (Ne.symm (hSf693 _ x707).1))
          have x879 := x865.other W869 (Or.inl (Ne.symm (hSf693 _ x707).1))
          have x880 := x866.other W869 (Ne.symm (hSf693 _ x707).2)
          have x881 := m855_1.other W869 (Or.inr (slot_ne (Or.inl (own_wk hw 56 rfl)) (Or.inl (own_wk hw 49 rfl)) (by decide) (t := .int) (t' := .int) (by decide) (by decide)))
          have x882 := m855_3.other W869 (Or.inr (slot_ne (Or.inl (own_wk hw 97 rfl)) (Or.inl (own_wk hw 49 rfl)) (by decide) (t := .boolean) (t' := .int) (by decide) (by decide)))
          have x883 := m855_4.other W869 (Or.inr (slot_ne (Or.inr (own_wk hw 47 rfl)) (Or.inl (own_wk hw 49 rfl)) (by decide) (t := (.object "java/lang/StringBuilder")) (t' := .int) (by decide) (by decide)))
          have x884 := m855_6.other W869 (Or.inl (Ne.symm ne_a0_bd))
          have x885 := m855_7.other W869 (Or.inl (Ne.symm ne_a0_bd))
          have x886 := m855_8.other W869 (Or.inl (Ne.symm ne_a0_bd))
          have x887 := m855_9.other W869 (Ne.symm ne_a0_vb)
          have x888 := m855_10.other W869 (Ne.symm ne_a0_a1)
          have sz889 : n0 ≤ h869.size := Nat.le_trans sz867 (Keep.of_wr W869).1
          have hkS := Nat.le_trans hkS (Keep.of_wr W869).1
          have hC := hC.trans (CHr.wr W869 x860 hC.1)
          have kp890 : Keep h0 h869 [a0, a1, bd, vb] := kp868.wr W869 (Or.inl (List.mem_of_getElem? (i := 0) rfl))
          have N869 := Fr.snoc X869 N855 ge_a0
          obtain ⟨fs, hr, hrun, hended, hEnd⟩ := X869.leaveW hS (by rw [e869]; exact hkS) (v := none) (fun _ => rfl)
          refine ⟨_, _, pre0 _ ?_, hrun, hended, _, _, rfl, ?_, ?_, hEnd.1, hEnd.2.1, hEnd.2.2.1, hEnd.2.2.2.mono (by decide) (by decide)⟩
          · show own_S p e below s₁ (mkF m 0 #[.val (.ref a0), .val (.ref a1), .val (.int p2), .unset] []) _
            refine cp854 _ (XS.ifYes X852.here hx rfl (pc0 := 105) (pc' := 112) rfl (hb hby d20_105) rfl ((if0 _ _).trans (teq hc853).1) (by decide) (by decide) (XS.iconst X852.here hx rfl (hb hby d20_112) (st855.trans (XS.aloadN X855.here hx rfl (hb hby d20_116) rfl rfl (XS.iconst X855.here hx rfl (hb hby d20_117) (st869 _ ?_))))))
            show own_S p e below T869 (mkF m 121 #[.val (.ref a0), .val (.ref a1), .val (.int p2), .val (.int (own_at sg.2.2.2.2.1 p2))] []) _
            exact X869.returnOut hx Bd.returns (hb hby d20_121) hr
          · refine ⟨?_, ?_⟩
            · show Q20_l Z a0 a1 p2 bd vb k1 kb n sg cs gf h0 n0 _ T869.heap _
              rw [e869]
              refine ⟨rfl, N869, kp890, ?_⟩
              rw [own_escL hld, show own_esc2 p2 sg = own_er (-1) (own_count p2 (0 : Int32) sg) from (if_neg hc714).trans (by rw [show own_fl sg.2.2.1 (own_at sg.2.2.2.2.1 p2) = (0 : Int32) from by unfold own_fl; rw [if_neg hc814, if_pos hc853]])]
              exact ⟨x870, x881, Fw869, x882, x883, x871, x884, x885, x886, x887, x888⟩
            · show (own_LitV Z a0 a1 bd vb) T869.vm T869.heap
              rw [show T869.heap = h869 from e869]
              exact ⟨sa693, sb693, kb693, ⟨x877, x878, x879, x880⟩, ⟨(hSf693 _ x707).1, (hSf693 _ x708).1, (hSf693 _ x709).1, (hSf693 _ x706).1, (hSf693 _ x707).2, (hSf693 _ x708).2, (hSf693 _ x709).2, (hSf693 _ x706).2⟩, own_litU (s := s.setVm T693.vm) (U := Z.setVm T869.vm) hLit693 X869.warmed.wide⟩
          · show CHr Z own_EL s.vm s.heap T869.vm T869.heap
            rw [hh, show T869.heap = h869 from e869]
            exact hC.trans (CHv.at X869 hZ hEL hC.1)
        · obtain ⟨cq891, q891, q891'⟩ := x694.cell
          obtain ⟨_, _, ⟨T891, L891, k891, n891⟩, -, X891, ⟨Lc891, hQ891, l891, y891, z891⟩, st891⟩ := X852.privateBack hx (y := (⟨"com/example/needle_in_json/needleinjson/MaskedDigits", "count", "([CIZ)V"⟩ : MethodName)) hown (mvT hZ (own_wk hw 105 rfl)) (mvT hZ (own_wk hw 106 rfl)) (own_selp (ym := (⟨"com/example/needle_in_json/needleinjson/MaskedDigits", "mask", "([CII)V"⟩ : MethodName)) (mvT hZ (own_wk hw 53 rfl)) rfl (Cond.privateMethod_at (mvP hZ (own_wk hw 107 rfl) (args := #[]))) (mvT hZ (own_wk hw 106 rfl)) (by decide)) (Cond.privateMethod_at (mvP hZ (own_wk hw 107 rfl) (args := #[]))) (mvT hZ (own_wk hw 108 rfl)) (by decide) (backOf (W := 0) (rm21 l Z ag hw [] a0 a1 p2 (1 : Int32) bd vb k1 kb n sg cs gf h693 n0 sz710 (show own_F Z h693 a0 a1 bd vb k1 kb n sg from ⟨x694, x695, x696, x697, x698, x699, x700, x701, x702, x703, x704⟩) hN hG x705 S_cs hcs S_gf rv_gf hi hKk (fun _ => hc853)) hZ (own_wk hw 108 rfl) (own_wk hw 19 rfl) (by decide) (by decide)) (g := (mkF m 113 #[.val (.ref a0), .val (.ref a1), .val (.int p2), .val (.int (own_at sg.2.2.2.2.1 p2))] [.int 1, (.int p2), (.ref a1), (.ref a0)])) rfl (by rw [hml]; rfl) (Steps.refl _) (a := a0) (by rw [e852]; exact q891) q891' (argsL := [(.ref a1), (.int p2), (.int (1 : Int32))]) (rest := []) (lenOf pd_24 rfl) rfl (by show 2 * 0 + _ ≤ _; exact Nat.le_of_eq rfl) (hb hby d20_113) (fun _ _ => ⟨rfl, e852, (by decide : 2 + 0 ≤ _), (by decide : 20 + 0 ≤ _)⟩)
          dsimp only [Pt.U, Pt.locs, Pt.cells, Pt.slots] at X891 l891 y891 z891 st891 hQ891
          subst l891 y891 z891
          obtain ⟨rfl, N891q, K891, F891⟩ := hQ891
          have N891 := Fr.app N852 N891q
          have x892 := x694.keep K891
          have x893 := x699.keep K891
          have x894 := x705.keep K891 (allS ge_a0 (allS ge_a1 (allS ge_bd (allS ge_vb all0))))
          have x895 := Safe.keep K891 (sfS x707 (sfS x708 (sfS x709 (sfS x706 sf0)))) hC.1 x706
          have x896 := Safe.keep K891 (sfS x707 (sfS x708 (sfS x709 (sfS x706 sf0)))) hC.1 x707
          have x897 := Safe.keep K891 (sfS x707 (sfS x708 (sfS x709 (sfS x706 sf0)))) hC.1 x708
          have x898 := Safe.keep K891 (sfS x707 (sfS x708 (sfS x709 (sfS x706 sf0)))) hC.1 x709
          have x899 := Es693.keep K891
          have x900 := Fc693.keep K891 (ninS (Ne.symm (hSf693 _ x707).1) (ninS (Ne.symm (hSf693 _ x708).1) (ninS (Ne.symm (hSf693 _ x709).1) (ninS (Ne.symm (hSf693 _ x706).1) nin0))))
          have x901 := Fv693.keep K891 (ninS (Ne.symm (hSf693 _ x707).1) (ninS (Ne.symm (hSf693 _ x708).1) (ninS (Ne.symm (hSf693 _ x709).1) (ninS (Ne.symm (hSf693 _ x706).1) nin0))))
          have x902 := Vs693.keep K891 (ninS (Ne.symm (hSf693 _ x707).2) (ninS (Ne.symm (hSf693 _ x708).2) (ninS (Ne.symm (hSf693 _ x709).2) (ninS (Ne.symm (hSf693 _ x706).2) nin0))))
          have sz903 : n0 ≤ T891.heap.size := Nat.le_trans sz710 K891.1
          have hkS := Nat.le_trans hkS K891.1
          have hC := hC.trans (CHr.keep K891 (sfS x707 (sfS x708 (sfS x709 (sfS x706 sf0)))) hC.1)
          have kp904 : Keep h0 T891.heap [a0, a1, bd, vb] := kp711.trans K891 (allS (Or.inl (List.mem_of_getElem? (i := 0) rfl)) (allS (Or.inl (List.mem_of_getElem? (i := 1) rfl)) (allS (Or.inl (List.mem_of_getElem? (i := 2) rfl)) (allS (Or.inl (List.mem_of_getElem? (i := 3) rfl)) all0))))
          obtain ⟨m891_0, m891_1, m891_2, m891_3, m891_4, m891_5, m891_6, m891_7, m891_8, m891_9, m891_10⟩ := id F891
          obtain ⟨T905, h905, X905, e905, W905, st905⟩ := putF X891 hx hZ hown (host := "") (Or.inl (own_wk hw 48 rfl)) Via.refl rfl m891_2 m891_0 (Or.inl (own_wk hw 49 rfl)) (own_wk hw 18 rfl) (ty := .int) (by decide) rfl rfl (g := (mkF m 118 #[.val (.ref a0), .val (.ref a1), .val (.int p2), .val (.int (own_at sg.2.2.2.2.1 p2))] [.int (-1), (.ref a0)])) rfl rfl (hb hby d20_118)
          have Fw905 := m891_2.same W905
          have x906 := m891_0.wr W905
          have x907 := m891_5.wr W905
          have x908 := x894.wr W905 ge_a0
          have x909 := Safe.wr W905 x896 hC.1 x895
          have x910 := Safe.wr W905 x896 hC.1 x896
          have x911 := Safe.wr W905 x896 hC.1 x897
          have x912 := Safe.wr W905 x896 hC.1 x898
          have x913 := x899.wr W905
          have x914 := x900.other W905 (Or.inl (Ne.symm (hSf693 _ x707).1))
          have x915 := x901.other W905 (Or.inl (Ne.symm (hSf693 _ x707).1))
          have x916 := x902.other W905 (Ne.symm (hSf693 _ x707).2)
          have x917 := m891_1.other W905 (Or.inr (slot_ne (Or.inl (own_wk hw 56 rfl)) (Or.inl (own_wk hw 49 rfl)) (by decide) (t := .int) (t' := .int) (by decide) (by decide)))
          have x918 := m891_3.other W905 (Or.inr (slot_ne (Or.inl (own_wk hw 97 rfl)) (Or.inl (own_wk hw 49 rfl)) (by decide) (t := .boolean) (t' := .int) (by decide) (by decide)))
          have x919 := m891_4.other W905 (Or.inr (slot_ne (Or.inr (own_wk hw 47 rfl)) (Or.inl (own_wk hw 49 rfl)) (by decide) (t := (.object "java/lang/StringBuilder")) (t' := .int) (by decide) (by decide)))
          have x920 := m891_6.other W905 (Or.inl (Ne.symm ne_a0_bd))
          have x921 := m891_7.other W905 (Or.inl (Ne.symm ne_a0_bd))
          have x922 := m891_8.other W905 (Or.inl (Ne.symm ne_a0_bd))
          have x923 := m891_9.other W905 (Ne.symm ne_a0_vb)
          have x924 := m891_10.other W905 (Ne.symm ne_a0_a1)
          have sz925 : n0 ≤ h905.size := Nat.le_trans sz903 (Keep.of_wr W905).1
          have hkS := Nat.le_trans hkS (Keep.of_wr W905).1
          have hC := hC.trans (CHr.wr W905 x896 hC.1)
          have kp926 : Keep h0 h905 [a0, a1, bd, vb] := kp904.wr W905 (Or.inl (List.mem_of_getElem? (i := 0) rfl))
          have N905 := Fr.snoc X905 N891 ge_a0
          obtain ⟨fs, hr, hrun, hended, hEnd⟩ := X905.leaveW hS (by rw [e905]; exact hkS) (v := none) (fun _ => rfl)
          refine ⟨_, _, pre0 _ ?_, hrun, hended, _, _, rfl, ?_, ?_, hEnd.1, hEnd.2.1, hEnd.2.2.1, hEnd.2.2.2.mono (by decide) (by decide)⟩
          · show own_S p e below s₁ (mkF m 0 #[.val (.ref a0), .val (.ref a1), .val (.int p2), .unset] []) _
            refine cp854 _ (XS.ifNo X852.here hx rfl (hb hby d20_105) rfl ((if0 _ _).trans (feq hc853).1) (XS.iconst X852.here hx rfl (hb hby d20_108) (XS.goto X852.here hx rfl (pc0 := 109) (pc' := 113) rfl (hb hby d20_109) (by decide) (by decide) (st891.trans (XS.aloadN X891.here hx rfl (hb hby d20_116) rfl rfl (XS.iconst X891.here hx rfl (hb hby d20_117) (st905 _ ?_)))))))
            show own_S p e below T905 (mkF m 121 #[.val (.ref a0), .val (.ref a1), .val (.int p2), .val (.int (own_at sg.2.2.2.2.1 p2))] []) _
            exact X905.returnOut hx Bd.returns (hb hby d20_121) hr
          · refine ⟨?_, ?_⟩
            · show Q20_l Z a0 a1 p2 bd vb k1 kb n sg cs gf h0 n0 _ T905.heap _
              rw [e905]
              refine ⟨rfl, N905, kp926, ?_⟩
              rw [own_escL hld, show own_esc2 p2 sg = own_er (-1) (own_count p2 (1 : Int32) sg) from (if_neg hc714).trans (by rw [show own_fl sg.2.2.1 (own_at sg.2.2.2.2.1 p2) = (1 : Int32) from by unfold own_fl; rw [if_neg hc814, if_neg hc853]])]
              exact ⟨x906, x917, Fw905, x918, x919, x907, x920, x921, x922, x923, x924⟩
            · show (own_LitV Z a0 a1 bd vb) T905.vm T905.heap
              rw [show T905.heap = h905 from e905]
              exact ⟨sa693, sb693, kb693, ⟨x913, x914, x915, x916⟩, ⟨(hSf693 _ x707).1, (hSf693 _ x708).1, (hSf693 _ x709).1, (hSf693 _ x706).1, (hSf693 _ x707).2, (hSf693 _ x708).2, (hSf693 _ x709).2, (hSf693 _ x706).2⟩, own_litU (s := s.setVm T693.vm) (U := Z.setVm T905.vm) hLit693 X905.warmed.wide⟩
          · show CHr Z own_EL s.vm s.heap T905.vm T905.heap
            rw [hh, show T905.heap = h905 from e905]
            exact hC.trans (CHv.at X905 hZ hEL hC.1)
  · obtain ⟨T927, X927, e927, st927⟩ := getF X689 hx hZ hown (host := "") (Or.inl (own_wk hw 48 rfl)) Via.refl e689 F_er (g := (mkF m 31 #[.val (.ref a0), .val (.ref a1), .val (.int p2), .val (.int (own_at sg.2.2.2.2.1 p2))] [(.ref a0)])) rfl rfl (hb hby d20_31)
    obtain ⟨sa928, T928, h928, kS928, sb928, kb928, X928, e928, E928, hS, hkS928, hZ, hown, Es928, Fc928, Fv928, Vs928, lta928, ltb928, hCs928, hLit928, hSf928, st928⟩ := ldcCH X927 hx hZ hown (own_wk hw 166 rfl) hwS e927 hS hkS hEL (by decide) hC.1 (vs := [(.int (117 : Int32)), (.int (48 : Int32)), (.int (48 : Int32)), (.int (51 : Int32))]) (z := (4 : Int32)) ⟨by decide, rfl⟩ (by decide) (by decide) (g := (mkF m 34 #[.val (.ref a0), .val (.ref a1), .val (.int p2), .val (.int (own_at sg.2.2.2.2.1 p2))] [(.int sg.2.1)])) rfl (hb hby d20_34) (n := 16) (by decide) (by decide) (by decide) (by decide)
    have x929 := E_a0.ext E928
    have x930 := F_row.ext E928
    have x931 := F_er.ext E928
    have x932 := F_de.ext E928
    have x933 := F_h.ext E928
    have x934 := E_bd.ext E928
    have x935 := F_v.ext E928
    have x936 := F_c.ext E928
    have x937 := F_n.ext E928
    have x938 := V_vb.ext E928
    have x939 := V_a1.ext E928
    have x940 := O_.ext E928
    have x941 := hCs928.safe V_vb.lt hSv
    have x942 := hCs928.safe E_a0.lt sf_a0
    have x943 := hCs928.safe V_a1.lt sf_a1
    have x944 := hCs928.safe E_bd.lt sf_bd
    have sz945 : n0 ≤ h928.size := Nat.le_trans Z0 E928.1
    have hkS := Nat.le_trans hkS E928.1
    have hC := hC.trans hCs928
    have kp946 : Keep h0 h928 [a0, a1, bd, vb] := (Keep.refl h0 [a0, a1, bd, vb]).ext E928
    have hkS := hkS928
    obtain ⟨cq947, kq947, q947a, q947b, q947c⟩ := isOf hZ e928 Es928
    obtain ⟨_, _, ⟨T947, L947, k947, n947⟩, -, X947, ⟨Lc947, hQ947, l947, y947, z947⟩, st947⟩ := X928.virtualBack hx (y := (⟨"java/lang/String", "length", "()I"⟩ : MethodName)) (z := (⟨"java/lang/String", "length", "()I"⟩ : MethodName)) hown (mvT hZ (own_wk hw 169 rfl)) (mvT hZ (own_wk hw 170 rfl)) (notFace_of_selects (args := #[]) (mvT hZ (own_wk hw 172 rfl))) (mvT hZ (own_wk hw 172 rfl)) (mvT hZ (own_wk hw 171 rfl)) (by decide) (backOf (W := 1) (rm34 l Z ag hw [] sa928 sb928 kb928 (4 : Int32) [(.int (117 : Int32)), (.int (48 : Int32)), (.int (48 : Int32)), (.int (51 : Int32))] (0 : Int32) cs h928 n0 sz945 Es928 Fv928 Fc928 Vs928 x940 S_cs hcs) hZ (own_wk hw 173 rfl) (own_wk hw 40 rfl) (by decide) (by decide)) q947a q947c (g := (mkF m 36 #[.val (.ref a0), .val (.ref a1), .val (.int p2), .val (.int (own_at sg.2.2.2.2.1 p2))] [(.ref sa928), (.int sg.2.1)])) rfl (by rw [hml]; rfl) (Steps.refl _) (argsL := []) (rest := [(.int sg.2.1)]) (lenOf pd_1 rfl) rfl (by show 2 * 0 + _ ≤ _; exact Nat.le_of_eq rfl) (hb hby d20_36) (fun _ _ => ⟨rfl, e928, (by decide : 2 + 0 ≤ _), (by decide : 20 + 0 ≤ _)⟩)
    dsimp only [Pt.U, Pt.locs, Pt.cells, Pt.slots] at X947 l947 y947 z947 st947 hQ947
    subst l947 y947 z947
    obtain ⟨rfl, N947q, e947⟩ := hQ947
    have N947 := Fr.app N0 N947q
    have sg948 : ∀ target, Steps p.tables e below (T947.setTop (mkF m 39 #[.val (.ref a0), .val (.ref a1), .val (.int p2), .val (.int (own_at sg.2.2.2.2.1 p2))] [.int 4, (.int sg.2.1)])) target → Steps p.tables e below (T947.setTop (mkF m 39 #[.val (.ref a0), .val (.ref a1), .val (.int p2), .val (.int (own_at sg.2.2.2.2.1 p2))] [(.int ((4 : Int32) >>> ((nar .byte (0 : Int32)) &&& 31))), (.int sg.2.1)])) target := by rw [show ((4 : Int32) >>> ((nar .byte (0 : Int32)) &&& 31)) = (4 : Int32) from by decide]; exact fun _ k => k
    have cp950 : ∀ target, own_S p e below T947 (mkF m 39 #[.val (.ref a0), .val (.ref a1), .val (.int p2), .val (.int (own_at sg.2.2.2.2.1 p2))] [.int 4, (.int sg.2.1)]) target → own_S p e below s₁ (mkF m 0 #[.val (.ref a0), .val (.ref a1), .val (.int p2), .unset] []) target := by
      intro target kt
      show own_S p e below s₁ (mkF m 0 #[.val (.ref a0), .val (.ref a1), .val (.int p2), .unset] []) _
      refine cp691 _ (XS.ifYes X689.here hx rfl (pc0 := 8) (pc' := 30) rfl (hb hby d20_8) rfl ((if0 _ _).trans (feq hc690).2) (by decide) (by decide) (XS.aloadN X689.here hx rfl (hb hby d20_30) rfl rfl (st927 _ (st928 _ (st947.trans (sg948 _ ?_))))))
      exact kt
    by_cases hc949 : sg.2.1 < (4 : Int32)
    · obtain ⟨T951, X951, e951, st951⟩ := getF X947 hx hZ hown (host := "") (Or.inl (own_wk hw 48 rfl)) Via.refl e947 x931 (g := (mkF m 44 #[.val (.ref a0), .val (.ref a1), .val (.int p2), .val (.int (own_at sg.2.2.2.2.1 p2))] [(.ref a0), (.ref a0)])) rfl rfl (hb hby d20_44)
      obtain ⟨T952, X952, e952, st952⟩ := getF X951 hx hZ hown (host := "") (Or.inl (own_wk hw 96 rfl)) Via.refl e951 x932 (g := (mkF m 51 #[.val (.ref a0), .val (.ref a1), .val (.int p2), .val (.int (own_at sg.2.2.2.2.1 p2))] [(.ref a0), (.ref a0)])) rfl rfl (hb hby d20_51)
      have cp954 : ∀ target, own_S p e below T952 (mkF m 54 #[.val (.ref a0), .val (.ref a1), .val (.int p2), .val (.int (own_at sg.2.2.2.2.1 p2))] [(.int sg.2.2.1), (.ref a0)]) target → own_S p e below s₁ (mkF m 0 #[.val (.ref a0), .val (.ref a1), .val (.int p2), .unset] []) target := by
        intro target kt
        show own_S p e below s₁ (mkF m 0 #[.val (.ref a0), .val (.ref a1), .val (.int p2), .unset] []) _
        refine cp950 _ (XS.icmpNo X947.here hx rfl (hb hby d20_39) rfl (tlt hc949).2.1 (XS.aloadN X947.here hx rfl (hb hby d20_42) rfl rfl (XS.aloadN X947.here hx rfl (hb hby d20_43) rfl rfl (st951 _ (XS.ifNo X951.here hx rfl (hb hby d20_47) rfl ((if0 _ _).trans (feq hc690).1) (XS.aloadN X951.here hx rfl (hb hby d20_50) rfl rfl (st952 _ ?_)))))))
        exact kt
      by_cases hc953 : sg.2.2.1 = (0 : Int32)
      · obtain ⟨T955, h955, X955, e955, W955, st955⟩ := putFN X952 hx hZ hown (own_wk hw 96 rfl) Via.refl e952 x932 x929 (Or.inl (own_wk hw 97 rfl)) (own_wk hw 18 rfl) (ty := .boolean) (v' := (.int (0 : Int32))) (by decide) rfl (fits_nar_bool (0 : Int32)) (g := (mkF m 75 #[.val (.ref a0), .val (.ref a1), .val (.int p2), .val (.int (own_at sg.2.2.2.2.1 p2))] [.int 0, (.ref a0)])) rfl rfl (hb hby d20_75)
        have Fw955 := x932.same W955
        have x956 := x929.wr W955
        have x957 := x930.other W955 (Or.inr (slot_ne (Or.inl (own_wk hw 56 rfl)) (Or.inl (own_wk hw 97 rfl)) (by decide) (t := .int) (t' := .boolean) (by decide) (by decide)))
        have x958 := x931.other W955 (Or.inr (slot_ne (Or.inl (own_wk hw 49 rfl)) (Or.inl (own_wk hw 97 rfl)) (by decide) (t := .int) (t' := .boolean) (by decide) (by decide)))
        have x959 := x933.other W955 (Or.inr (slot_ne (Or.inr (own_wk hw 47 rfl)) (Or.inl (own_wk hw 97 rfl)) (by decide) (t := (.object "java/lang/StringBuilder")) (t' := .boolean) (by decide) (by decide)))
        have x960 := x934.wr W955
        have x961 := x935.other W955 (Or.inl (Ne.symm ne_a0_bd))
        have x962 := x936.other W955 (Or.inl (Ne.symm ne_a0_bd))
        have x963 := x937.other W955 (Or.inl (Ne.symm ne_a0_bd))
        have x964 := x938.other W955 (Ne.symm ne_a0_vb)
        have x965 := x939.other W955 (Ne.symm ne_a0_a1)
        have x966 := x940.wr W955 ge_a0
        have x967 := Safe.wr W955 x942 hC.1 x941
        have x968 := Safe.wr W955 x942 hC.1 x942
        have x969 := Safe.wr W955 x942 hC.1 x943
        have x970 := Safe.wr W955 x942 hC.1 x944
        have x971 := Es928.wr W955
        have x972 := Fc928.other W955 (Or.inl (Ne.symm (hSf928 _ x942).1))
        have x973 := Fv928.other W955 (Or.inl (Ne.symm (hSf928 _ x942).1))
        have x974 := Vs928.other W955 (Ne.symm (hSf928 _ x942).2)
        have sz975 : n0 ≤ h955.size := Nat.le_trans sz945 (Keep.of_wr W955).1
        have hkS := Nat.le_trans hkS (Keep.of_wr W955).1
        have hC := hC.trans (CHr.wr W955 x942 hC.1)
        have kp976 : Keep h0 h955 [a0, a1, bd, vb] := kp946.wr W955 (Or.inl (List.mem_of_getElem? (i := 0) rfl))
        have N955 := Fr.snoc X955 N947 ge_a0
        obtain ⟨T977, X977, e977, st977⟩ := getF X955 hx hZ hown (host := "") (Or.inl (own_wk hw 48 rfl)) Via.refl e955 x958 (g := (mkF m 80 #[.val (.ref a0), .val (.ref a1), .val (.int p2), .val (.int (own_at sg.2.2.2.2.1 p2))] [(.ref a0), (.ref a0)])) rfl rfl (hb hby d20_80)
        obtain ⟨T978, h978, X978, e978, W978, st978⟩ := putF X977 hx hZ hown (host := "") (Or.inl (own_wk hw 48 rfl)) Via.refl e977 x958 x956 (Or.inl (own_wk hw 49 rfl)) (own_wk hw 18 rfl) (ty := .int) (by decide) rfl rfl (g := (mkF m 85 #[.val (.ref a0), .val (.ref a1), .val (.int p2), .val (.int (own_at sg.2.2.2.2.1 p2))] [(.int (sg.2.1 + (1 : Int32))), (.ref a0)])) rfl rfl (hb hby d20_85)
        have Fw978 := x958.same W978
        have x979 := x956.wr W978
        have x980 := x957.other W978 (Or.inr (slot_ne (Or.inl (own_wk hw 56 rfl)) (Or.inl (own_wk hw 49 rfl)) (by decide) (t := .int) (t' := .int) (by decide) (by decide)))
        have x981 := x959.other W978 (Or.inr (slot_ne (Or.inr (own_wk hw 47 rfl)) (Or.inl (own_wk hw 49 rfl)) (by decide) (t := (.object "java/lang/StringBuilder")) (t' := .int) (by decide) (by decide)))
        have x982 := x960.wr W978
        have x983 := x961.other W978 (Or.inl (Ne.symm ne_a0_bd))
        have x984 := x962.other W978 (Or.inl (Ne.symm ne_a0_bd))
        have x985 := x963.other W978 (Or.inl (Ne.symm ne_a0_bd))
        have x986 := x964.other W978 (Ne.symm ne_a0_vb)
        have x987 := x965.other W978 (Ne.symm ne_a0_a1)
        have x988 := x966.wr W978 ge_a0
        have x989 := Safe.wr W978 x968 hC.1 x967
        have x990 := Safe.wr W978 x968 hC.1 x968
        have x991 := Safe.wr W978 x968 hC.1 x969
        have x992 := Safe.wr W978 x968 hC.1 x970
        have x993 := x971.wr W978
        have x994 := x972.other W978 (Or.inl (Ne.symm (hSf928 _ x942).1))
        have x995 := x973.other W978 (Or.inl (Ne.symm (hSf928 _ x942).1))
        have x996 := x974.other W978 (Ne.symm (hSf928 _ x942).2)
        have x997 := Fw955.other W978 (Or.inr (slot_ne (Or.inl (own_wk hw 97 rfl)) (Or.inl (own_wk hw 49 rfl)) (by decide) (t := .boolean) (t' := .int) (by decide) (by decide)))
        have sz998 : n0 ≤ h978.size := Nat.le_trans sz975 (Keep.of_wr W978).1
        have hkS := Nat.le_trans hkS (Keep.of_wr W978).1
        have hC := hC.trans (CHr.wr W978 x968 hC.1)
        have kp999 : Keep h0 h978 [a0, a1, bd, vb] := kp976.wr W978 (Or.inl (List.mem_of_getElem? (i := 0) rfl))
        have N978 := Fr.snoc X978 N955 ge_a0
        obtain ⟨fs, hr, hrun, hended, hEnd⟩ := X978.leaveW hS (by rw [e978]; exact hkS) (v := none) (fun _ => rfl)
        refine ⟨_, _, pre0 _ ?_, hrun, hended, _, _, rfl, ?_, ?_, hEnd.1, hEnd.2.1, hEnd.2.2.1, hEnd.2.2.2.mono (by decide) (by decide)⟩
        · show own_S p e below s₁ (mkF m 0 #[.val (.ref a0), .val (.ref a1), .val (.int p2), .unset] []) _
          refine cp954 _ (XS.ifYes X952.here hx rfl (pc0 := 54) (pc' := 74) rfl (hb hby d20_54) rfl ((if0 _ _).trans (teq hc953).1) (by decide) (by decide) (XS.iconst X952.here hx rfl (hb hby d20_74) (st955 _ (XS.aloadN X955.here hx rfl (hb hby d20_78) rfl rfl (XS.dup X955.here hx rfl (hb hby d20_79) rfl rfl (st977 _ (XS.iconst X977.here hx rfl (hb hby d20_83) (XS.iadd X977.here hx rfl (hb hby d20_84) rfl (st978 _ ?_)))))))))
          refine XS.goto X978.here hx rfl (pc0 := 88) (pc' := 121) rfl (hb hby d20_88) (by decide) (by decide) ?_
          show own_S p e below T978 (mkF m 121 #[.val (.ref a0), .val (.ref a1), .val (.int p2), .val (.int (own_at sg.2.2.2.2.1 p2))] []) _
          exact X978.returnOut hx Bd.returns (hb hby d20_121) hr
        · refine ⟨?_, ?_⟩
          · show Q20_l Z a0 a1 p2 bd vb k1 kb n sg cs gf h0 n0 _ T978.heap _
            rw [e978]
            refine ⟨rfl, N978, kp999, ?_⟩
            rw [own_escL hld, show own_esc2 p2 sg = (sg.1, sg.2.1 + (1 : Int32), (0 : Int32), sg.2.2.2) from (if_pos hc949).trans (by rw [show own_de sg.2.1 sg.2.2.1 (own_at sg.2.2.2.2.1 p2) = (0 : Int32) from by unfold own_de; rw [if_neg hc690, if_pos hc953]])]
            exact ⟨x979, x980, Fw978, x997, x981, x982, x983, x984, x985, x986, x987⟩
          · show (own_LitV Z a0 a1 bd vb) T978.vm T978.heap
            rw [show T978.heap = h978 from e978]
            exact ⟨sa928, sb928, kb928, ⟨x993, x994, x995, x996⟩, ⟨(hSf928 _ x942).1, (hSf928 _ x943).1, (hSf928 _ x944).1, (hSf928 _ x941).1, (hSf928 _ x942).2, (hSf928 _ x943).2, (hSf928 _ x944).2, (hSf928 _ x941).2⟩, own_litU (s := s.setVm T928.vm) (U := Z.setVm T978.vm) hLit928 X978.warmed.wide⟩
        · show CHr Z own_EL s.vm s.heap T978.vm T978.heap
          rw [hh, show T978.heap = h978 from e978]
          exact hC.trans (CHv.at X978 hZ hEL hC.1)
      · have ld1000 := ldcAgain (s := s) (vm0 := T928.vm) X952 hx hZ hown (own_wk hw 166 rfl) hLit928 (g := (mkF m 58 #[.val (.ref a0), .val (.ref a1), .val (.int p2), .val (.int (own_at sg.2.2.2.2.1 p2))] [(.int (own_at sg.2.2.2.2.1 p2)), (.ref a0)])) rfl (hb hby d20_58)
        obtain ⟨T1001, X1001, e1001, st1001⟩ := getF X952 hx hZ hown (host := "") (Or.inl (own_wk hw 48 rfl)) Via.refl e952 x931 (g := (mkF m 61 #[.val (.ref a0), .val (.ref a1), .val (.int p2), .val (.int (own_at sg.2.2.2.2.1 p2))] [(.ref a0), (.ref sa928), (.int (own_at sg.2.2.2.2.1 p2)), (.ref a0)])) rfl rfl (hb hby d20_61)
        obtain ⟨cq1002, kq1002, q1002a, q1002b, q1002c⟩ := isOf hZ e1001 Es928
        obtain ⟨_, _, ⟨T1002, L1002, k1002, n1002⟩, -, X1002, ⟨Lc1002, hQ1002, l1002, y1002, z1002⟩, st1002⟩ := X1001.virtualBack hx (y := (⟨"java/lang/String", "charAt", "(I)C"⟩ : MethodName)) (z := (⟨"java/lang/String", "charAt", "(I)C"⟩ : MethodName)) hown (mvT hZ (own_wk hw 179 rfl)) (mvT hZ (own_wk hw 180 rfl)) (notFace_of_selects (args := #[]) (mvT hZ (own_wk hw 182 rfl))) (mvT hZ (own_wk hw 182 rfl)) (mvT hZ (own_wk hw 181 rfl)) (by decide) (backOf (W := 2) (rm36 l Z ag hw [] sa928 sg.2.1 sb928 kb928 (4 : Int32) [(.int (117 : Int32)), (.int (48 : Int32)), (.int (48 : Int32)), (.int (51 : Int32))] (own_u sg.2.1) cs gf h928 n0 sz945 Es928 Fv928 Fc928 Vs928 hge hc949 (own_ug sg.2.1) x940 S_cs hcs S_gf rv_gf) hZ (own_wk hw 183 rfl) (own_wk hw 40 rfl) (by decide) (by decide)) q1002a q1002c (g := (mkF m 64 #[.val (.ref a0), .val (.ref a1), .val (.int p2), .val (.int (own_at sg.2.2.2.2.1 p2))] [(.int sg.2.1), (.ref sa928), (.int (own_at sg.2.2.2.2.1 p2)), (.ref a0)])) rfl (by rw [hml]; rfl) (Steps.refl _) (argsL := [(.int sg.2.1)]) (rest := [(.int (own_at sg.2.2.2.2.1 p2)), (.ref a0)]) (lenOf pd_7 rfl) rfl (by show 2 * 0 + _ ≤ _; exact Nat.le_of_eq rfl) (hb hby d20_64) (fun _ _ => ⟨rfl, e1001, (by decide : 2 + 0 ≤ _), (by decide : 20 + 0 ≤ _)⟩)
        dsimp only [Pt.U, Pt.locs, Pt.cells, Pt.slots] at X1002 l1002 y1002 z1002 st1002 hQ1002
        subst l1002 y1002 z1002
        obtain ⟨rfl, N1002q, e1002⟩ := hQ1002
        have N1002 := Fr.app N947 N1002q
        have sg1003 : ∀ target, Steps p.tables e below (T1002.setTop (mkF m 67 #[.val (.ref a0), .val (.ref a1), .val (.int p2), .val (.int (own_at sg.2.2.2.2.1 p2))] [(.int (own_u sg.2.1)), (.int (own_at sg.2.2.2.2.1 p2)), (.ref a0)])) target → Steps p.tables e below (T1002.setTop (mkF m 67 #[.val (.ref a0), .val (.ref a1), .val (.int p2), .val (.int (own_at sg.2.2.2.2.1 p2))] [(.int (nar .char (nar .char (((own_u sg.2.1) &&& (255 : Int32)).toUInt32.toUInt16.toUInt32.toInt32)))), (.int (own_at sg.2.2.2.2.1 p2)), (.ref a0)])) target := by rw [own_uc hge hc949]; exact fun _ k => k
        have cp1005 : ∀ target, own_S p e below T1002 (mkF m 67 #[.val (.ref a0), .val (.ref a1), .val (.int p2), .val (.int (own_at sg.2.2.2.2.1 p2))] [(.int (own_u sg.2.1)), (.int (own_at sg.2.2.2.2.1 p2)), (.ref a0)]) target → own_S p e below s₁ (mkF m 0 #[.val (.ref a0), .val (.ref a1), .val (.int p2), .unset] []) target := by
          intro target kt
          show own_S p e below s₁ (mkF m 0 #[.val (.ref a0), .val (.ref a1), .val (.int p2), .unset] []) _
          refine cp954 _ (XS.ifNo X952.here hx rfl (hb hby d20_54) rfl ((if0 _ _).trans (feq hc953).1) (XS.iloadN X952.here hx rfl (hb hby d20_57) rfl (ld1000 _ (XS.aloadN X952.here hx rfl (hb hby d20_60) rfl rfl (st1001 _ (st1002.trans (sg1003 _ ?_)))))))
          exact kt
        by_cases hc1004 : (own_at sg.2.2.2.2.1 p2) = (own_u sg.2.1)
        · obtain ⟨T1006, h1006, X1006, e1006, W1006, st1006⟩ := putFN X1002 hx hZ hown (own_wk hw 96 rfl) Via.refl e1002 x932 x929 (Or.inl (own_wk hw 97 rfl)) (own_wk hw 18 rfl) (ty := .boolean) (v' := (.int (1 : Int32))) (by decide) rfl (fits_nar_bool (1 : Int32)) (g := (mkF m 75 #[.val (.ref a0), .val (.ref a1), .val (.int p2), .val (.int (own_at sg.2.2.2.2.1 p2))] [.int 1, (.ref a0)])) rfl rfl (hb hby d20_75)
          have Fw1006 := x932.same W1006
          have x1007 := x929.wr W1006
          have x1008 := x930.other W1006 (Or.inr (slot_ne (Or.inl (own_wk hw 56 rfl)) (Or.inl (own_wk hw 97 rfl)) (by decide) (t := .int) (t' := .boolean) (by decide) (by decide)))
          have x1009 := x931.other W1006 (Or.inr (slot_ne (Or.inl (own_wk hw 49 rfl)) (Or.inl (own_wk hw 97 rfl)) (by decide) (t := .int) (t' := .boolean) (by decide) (by decide)))
          have x1010 := x933.other W1006 (Or.inr (slot_ne (Or.inr (own_wk hw 47 rfl)) (Or.inl (own_wk hw 97 rfl)) (by decide) (t := (.object "java/lang/StringBuilder")) (t' := .boolean) (by decide) (by decide)))
          have x1011 := x934.wr W1006
          have x1012 := x935.other W1006 (Or.inl (Ne.symm ne_a0_bd))
          have x1013 := x936.other W1006 (Or.inl (Ne.symm ne_a0_bd))
          have x1014 := x937.other W1006 (Or.inl (Ne.symm ne_a0_bd))
          have x1015 := x938.other W1006 (Ne.symm ne_a0_vb)
          have x1016 := x939.other W1006 (Ne.symm ne_a0_a1)
          have x1017 := x940.wr W1006 ge_a0
          have x1018 := Safe.wr W1006 x942 hC.1 x941
          have x1019 := Safe.wr W1006 x942 hC.1 x942
          have x1020 := Safe.wr W1006 x942 hC.1 x943
          have x1021 := Safe.wr W1006 x942 hC.1 x944
          have x1022 := Es928.wr W1006
          have x1023 := Fc928.other W1006 (Or.inl (Ne.symm (hSf928 _ x942).1))
          have x1024 := Fv928.other W1006 (Or.inl (Ne.symm (hSf928 _ x942).1))
          have x1025 := Vs928.other W1006 (Ne.symm (hSf928 _ x942).2)
          have sz1026 : n0 ≤ h1006.size := Nat.le_trans sz945 (Keep.of_wr W1006).1
          have hkS := Nat.le_trans hkS (Keep.of_wr W1006).1
          have hC := hC.trans (CHr.wr W1006 x942 hC.1)
          have kp1027 : Keep h0 h1006 [a0, a1, bd, vb] := kp946.wr W1006 (Or.inl (List.mem_of_getElem? (i := 0) rfl))
          have N1006 := Fr.snoc X1006 N1002 ge_a0
          obtain ⟨T1028, X1028, e1028, st1028⟩ := getF X1006 hx hZ hown (host := "") (Or.inl (own_wk hw 48 rfl)) Via.refl e1006 x1009 (g := (mkF m 80 #[.val (.ref a0), .val (.ref a1), .val (.int p2), .val (.int (own_at sg.2.2.2.2.1 p2))] [(.ref a0), (.ref a0)])) rfl rfl (hb hby d20_80)
          obtain ⟨T1029, h1029, X1029, e1029, W1029, st1029⟩ := putF X1028 hx hZ hown (host := "") (Or.inl (own_wk hw 48 rfl)) Via.refl e1028 x1009 x1007 (Or.inl (own_wk hw 49 rfl)) (own_wk hw 18 rfl) (ty := .int) (by decide) rfl rfl (g := (mkF m 85 #[.val (.ref a0), .val (.ref a1), .val (.int p2), .val (.int (own_at sg.2.2.2.2.1 p2))] [(.int (sg.2.1 + (1 : Int32))), (.ref a0)])) rfl rfl (hb hby d20_85)
          have Fw1029 := x1009.same W1029
          have x1030 := x1007.wr W1029
          have x1031 := x1008.other W1029 (Or.inr (slot_ne (Or.inl (own_wk hw 56 rfl)) (Or.inl (own_wk hw 49 rfl)) (by decide) (t := .int) (t' := .int) (by decide) (by decide)))
          have x1032 := x1010.other W1029 (Or.inr (slot_ne (Or.inr (own_wk hw 47 rfl)) (Or.inl (own_wk hw 49 rfl)) (by decide) (t := (.object "java/lang/StringBuilder")) (t' := .int) (by decide) (by decide)))
          have x1033 := x1011.wr W1029
          have x1034 := x1012.other W1029 (Or.inl (Ne.symm ne_a0_bd))
          have x1035 := x1013.other W1029 (Or.inl (Ne.symm ne_a0_bd))
          have x1036 := x1014.other W1029 (Or.inl (Ne.symm ne_a0_bd))
          have x1037 := x1015.other W1029 (Ne.symm ne_a0_vb)
          have x1038 := x1016.other W1029 (Ne.symm ne_a0_a1)
          have x1039 := x1017.wr W1029 ge_a0
          have x1040 := Safe.wr W1029 x1019 hC.1 x1018
          have x1041 := Safe.wr W1029 x1019 hC.1 x1019
          have x1042 := Safe.wr W1029 x1019 hC.1 x1020
          have x1043 := Safe.wr W1029 x1019 hC.1 x1021
          have x1044 := x1022.wr W1029
          have x1045 := x1023.other W1029 (Or.inl (Ne.symm (hSf928 _ x942).1))
          have x1046 := x1024.other W1029 (Or.inl (Ne.symm (hSf928 _ x942).1))
          have x1047 := x1025.other W1029 (Ne.symm (hSf928 _ x942).2)
          have x1048 := Fw1006.other W1029 (Or.inr (slot_ne (Or.inl (own_wk hw 97 rfl)) (Or.inl (own_wk hw 49 rfl)) (by decide) (t := .boolean) (t' := .int) (by decide) (by decide)))
          have sz1049 : n0 ≤ h1029.size := Nat.le_trans sz1026 (Keep.of_wr W1029).1
          have hkS := Nat.le_trans hkS (Keep.of_wr W1029).1
          have hC := hC.trans (CHr.wr W1029 x1019 hC.1)
          have kp1050 : Keep h0 h1029 [a0, a1, bd, vb] := kp1027.wr W1029 (Or.inl (List.mem_of_getElem? (i := 0) rfl))
          have N1029 := Fr.snoc X1029 N1006 ge_a0
          obtain ⟨fs, hr, hrun, hended, hEnd⟩ := X1029.leaveW hS (by rw [e1029]; exact hkS) (v := none) (fun _ => rfl)
          refine ⟨_, _, pre0 _ ?_, hrun, hended, _, _, rfl, ?_, ?_, hEnd.1, hEnd.2.1, hEnd.2.2.1, hEnd.2.2.2.mono (by decide) (by decide)⟩
          · show own_S p e below s₁ (mkF m 0 #[.val (.ref a0), .val (.ref a1), .val (.int p2), .unset] []) _
            refine cp1005 _ (XS.icmpNo X1002.here hx rfl (hb hby d20_67) rfl (teq hc1004).2 (XS.iconst X1002.here hx rfl (hb hby d20_70) (XS.goto X1002.here hx rfl (pc0 := 71) (pc' := 75) rfl (hb hby d20_71) (by decide) (by decide) (st1006 _ (XS.aloadN X1006.here hx rfl (hb hby d20_78) rfl rfl (XS.dup X1006.here hx rfl (hb hby d20_79) rfl rfl (st1028 _ (XS.iconst X1028.here hx rfl (hb hby d20_83) (XS.iadd X1028.here hx rfl (hb hby d20_84) rfl ?_)))))))))
            refine st1029 _ (XS.goto X1029.here hx rfl (pc0 := 88) (pc' := 121) rfl (hb hby d20_88) (by decide) (by decide) ?_)
            show own_S p e below T1029 (mkF m 121 #[.val (.ref a0), .val (.ref a1), .val (.int p2), .val (.int (own_at sg.2.2.2.2.1 p2))] []) _
            exact X1029.returnOut hx Bd.returns (hb hby d20_121) hr
          · refine ⟨?_, ?_⟩
            · show Q20_l Z a0 a1 p2 bd vb k1 kb n sg cs gf h0 n0 _ T1029.heap _
              rw [e1029]
              refine ⟨rfl, N1029, kp1050, ?_⟩
              rw [own_escL hld, show own_esc2 p2 sg = (sg.1, sg.2.1 + (1 : Int32), (1 : Int32), sg.2.2.2) from (if_pos hc949).trans (by rw [show own_de sg.2.1 sg.2.2.1 (own_at sg.2.2.2.2.1 p2) = (1 : Int32) from by unfold own_de; rw [if_neg hc690, if_neg hc953, if_pos hc1004]])]
              exact ⟨x1030, x1031, Fw1029, x1048, x1032, x1033, x1034, x1035, x1036, x1037, x1038⟩
            · show (own_LitV Z a0 a1 bd vb) T1029.vm T1029.heap
              rw [show T1029.heap = h1029 from e1029]
              exact ⟨sa928, sb928, kb928, ⟨x1044, x1045, x1046, x1047⟩, ⟨(hSf928 _ x942).1, (hSf928 _ x943).1, (hSf928 _ x944).1, (hSf928 _ x941).1, (hSf928 _ x942).2, (hSf928 _ x943).2, (hSf928 _ x944).2, (hSf928 _ x941).2⟩, own_litU (s := s.setVm T928.vm) (U := Z.setVm T1029.vm) hLit928 X1029.warmed.wide⟩
          · show CHr Z own_EL s.vm s.heap T1029.vm T1029.heap
            rw [hh, show T1029.heap = h1029 from e1029]
            exact hC.trans (CHv.at X1029 hZ hEL hC.1)
        · obtain ⟨T1051, h1051, X1051, e1051, W1051, st1051⟩ := putFN X1002 hx hZ hown (own_wk hw 96 rfl) Via.refl e1002 x932 x929 (Or.inl (own_wk hw 97 rfl)) (own_wk hw 18 rfl) (ty := .boolean) (v' := (.int (0 : Int32))) (by decide) rfl (fits_nar_bool (0 : Int32)) (g := (mkF m 75 #[.val (.ref a0), .val (.ref a1), .val (.int p2), .val (.int (own_at sg.2.2.2.2.1 p2))] [.int 0, (.ref a0)])) rfl rfl (hb hby d20_75)
          have Fw1051 := x932.same W1051
          have x1052 := x929.wr W1051
          have x1053 := x930.other W1051 (Or.inr (slot_ne (Or.inl (own_wk hw 56 rfl)) (Or.inl (own_wk hw 97 rfl)) (by decide) (t := .int) (t' := .boolean) (by decide) (by decide)))
          have x1054 := x931.other W1051 (Or.inr (slot_ne (Or.inl (own_wk hw 49 rfl)) (Or.inl (own_wk hw 97 rfl)) (by decide) (t := .int) (t' := .boolean) (by decide) (by decide)))
          have x1055 := x933.other W1051 (Or.inr (slot_ne (Or.inr (own_wk hw 47 rfl)) (Or.inl (own_wk hw 97 rfl)) (by decide) (t := (.object "java/lang/StringBuilder")) (t' := .boolean) (by decide) (by decide)))
          have x1056 := x934.wr W1051
          have x1057 := x935.other W1051 (Or.inl (Ne.symm ne_a0_bd))
          have x1058 := x936.other W1051 (Or.inl (Ne.symm ne_a0_bd))
          have x1059 := x937.other W1051 (Or.inl (Ne.symm ne_a0_bd))
          have x1060 := x938.other W1051 (Ne.symm ne_a0_vb)
          have x1061 := x939.other W1051 (Ne.symm ne_a0_a1)
          have x1062 := x940.wr W1051 ge_a0
          have x1063 := Safe.wr W1051 x942 hC.1 x941
          have x1064 := Safe.wr W1051 x942 hC.1 x942
          have x1065 := Safe.wr W1051 x942 hC.1 x943
          have x1066 := Safe.wr W1051 x942 hC.1 x944
          have x1067 := Es928.wr W1051
          have x1068 := Fc928.other W1051 (Or.inl (Ne.symm (hSf928 _ x942).1))
          have x1069 := Fv928.other W1051 (Or.inl (Ne.symm (hSf928 _ x942).1))
          have x1070 := Vs928.other W1051 (Ne.symm (hSf928 _ x942).2)
          have sz1071 : n0 ≤ h1051.size := Nat.le_trans sz945 (Keep.of_wr W1051).1
          have hkS := Nat.le_trans hkS (Keep.of_wr W1051).1
          have hC := hC.trans (CHr.wr W1051 x942 hC.1)
          have kp1072 : Keep h0 h1051 [a0, a1, bd, vb] := kp946.wr W1051 (Or.inl (List.mem_of_getElem? (i := 0) rfl))
          have N1051 := Fr.snoc X1051 N1002 ge_a0
          obtain ⟨T1073, X1073, e1073, st1073⟩ := getF X1051 hx hZ hown (host := "") (Or.inl (own_wk hw 48 rfl)) Via.refl e1051 x1054 (g := (mkF m 80 #[.val (.ref a0), .val (.ref a1), .val (.int p2), .val (.int (own_at sg.2.2.2.2.1 p2))] [(.ref a0), (.ref a0)])) rfl rfl (hb hby d20_80)
          obtain ⟨T1074, h1074, X1074, e1074, W1074, st1074⟩ := putF X1073 hx hZ hown (host := "") (Or.inl (own_wk hw 48 rfl)) Via.refl e1073 x1054 x1052 (Or.inl (own_wk hw 49 rfl)) (own_wk hw 18 rfl) (ty := .int) (by decide) rfl rfl (g := (mkF m 85 #[.val (.ref a0), .val (.ref a1), .val (.int p2), .val (.int (own_at sg.2.2.2.2.1 p2))] [(.int (sg.2.1 + (1 : Int32))), (.ref a0)])) rfl rfl (hb hby d20_85)
          have Fw1074 := x1054.same W1074
          have x1075 := x1052.wr W1074
          have x1076 := x1053.other W1074 (Or.inr (slot_ne (Or.inl (own_wk hw 56 rfl)) (Or.inl (own_wk hw 49 rfl)) (by decide) (t := .int) (t' := .int) (by decide) (by decide)))
          have x1077 := x1055.other W1074 (Or.inr (slot_ne (Or.inr (own_wk hw 47 rfl)) (Or.inl (own_wk hw 49 rfl)) (by decide) (t := (.object "java/lang/StringBuilder")) (t' := .int) (by decide) (by decide)))
          have x1078 := x1056.wr W1074
          have x1079 := x1057.other W1074 (Or.inl (Ne.symm ne_a0_bd))
          have x1080 := x1058.other W1074 (Or.inl (Ne.symm ne_a0_bd))
          have x1081 := x1059.other W1074 (Or.inl (Ne.symm ne_a0_bd))
          have x1082 := x1060.other W1074 (Ne.symm ne_a0_vb)
          have x1083 := x1061.other W1074 (Ne.symm ne_a0_a1)
          have x1084 := x1062.wr W1074 ge_a0
          have x1085 := Safe.wr W1074 x1064 hC.1 x1063
          have x1086 := Safe.wr W1074 x1064 hC.1 x1064
          have x1087 := Safe.wr W1074 x1064 hC.1 x1065
          have x1088 := Safe.wr W1074 x1064 hC.1 x1066
          have x1089 := x1067.wr W1074
          have x1090 := x1068.other W1074 (Or.inl (Ne.symm (hSf928 _ x942).1))
          have x1091 := x1069.other W1074 (Or.inl (Ne.symm (hSf928 _ x942).1))
          have x1092 := x1070.other W1074 (Ne.symm (hSf928 _ x942).2)
          have x1093 := Fw1051.other W1074 (Or.inr (slot_ne (Or.inl (own_wk hw 97 rfl)) (Or.inl (own_wk hw 49 rfl)) (by decide) (t := .boolean) (t' := .int) (by decide) (by decide)))
          have sz1094 : n0 ≤ h1074.size := Nat.le_trans sz1071 (Keep.of_wr W1074).1
          have hkS := Nat.le_trans hkS (Keep.of_wr W1074).1
          have hC := hC.trans (CHr.wr W1074 x1064 hC.1)
          have kp1095 : Keep h0 h1074 [a0, a1, bd, vb] := kp1072.wr W1074 (Or.inl (List.mem_of_getElem? (i := 0) rfl))
          have N1074 := Fr.snoc X1074 N1051 ge_a0
          obtain ⟨fs, hr, hrun, hended, hEnd⟩ := X1074.leaveW hS (by rw [e1074]; exact hkS) (v := none) (fun _ => rfl)
          refine ⟨_, _, pre0 _ ?_, hrun, hended, _, _, rfl, ?_, ?_, hEnd.1, hEnd.2.1, hEnd.2.2.1, hEnd.2.2.2.mono (by decide) (by decide)⟩
          · show own_S p e below s₁ (mkF m 0 #[.val (.ref a0), .val (.ref a1), .val (.int p2), .unset] []) _
            refine cp1005 _ (XS.icmpYes X1002.here hx rfl (pc0 := 67) (pc' := 74) rfl (hb hby d20_67) rfl (feq hc1004).2 (by decide) (by decide) (XS.iconst X1002.here hx rfl (hb hby d20_74) (st1051 _ (XS.aloadN X1051.here hx rfl (hb hby d20_78) rfl rfl (XS.dup X1051.here hx rfl (hb hby d20_79) rfl rfl (st1073 _ (XS.iconst X1073.here hx rfl (hb hby d20_83) (XS.iadd X1073.here hx rfl (hb hby d20_84) rfl (st1074 _ ?_)))))))))
            refine XS.goto X1074.here hx rfl (pc0 := 88) (pc' := 121) rfl (hb hby d20_88) (by decide) (by decide) ?_
            show own_S p e below T1074 (mkF m 121 #[.val (.ref a0), .val (.ref a1), .val (.int p2), .val (.int (own_at sg.2.2.2.2.1 p2))] []) _
            exact X1074.returnOut hx Bd.returns (hb hby d20_121) hr
          · refine ⟨?_, ?_⟩
            · show Q20_l Z a0 a1 p2 bd vb k1 kb n sg cs gf h0 n0 _ T1074.heap _
              rw [e1074]
              refine ⟨rfl, N1074, kp1095, ?_⟩
              rw [own_escL hld, show own_esc2 p2 sg = (sg.1, sg.2.1 + (1 : Int32), (0 : Int32), sg.2.2.2) from (if_pos hc949).trans (by rw [show own_de sg.2.1 sg.2.2.1 (own_at sg.2.2.2.2.1 p2) = (0 : Int32) from by unfold own_de; rw [if_neg hc690, if_neg hc953, if_neg hc1004]])]
              exact ⟨x1075, x1076, Fw1074, x1093, x1077, x1078, x1079, x1080, x1081, x1082, x1083⟩
            · show (own_LitV Z a0 a1 bd vb) T1074.vm T1074.heap
              rw [show T1074.heap = h1074 from e1074]
              exact ⟨sa928, sb928, kb928, ⟨x1089, x1090, x1091, x1092⟩, ⟨(hSf928 _ x942).1, (hSf928 _ x943).1, (hSf928 _ x944).1, (hSf928 _ x941).1, (hSf928 _ x942).2, (hSf928 _ x943).2, (hSf928 _ x944).2, (hSf928 _ x941).2⟩, own_litU (s := s.setVm T928.vm) (U := Z.setVm T1074.vm) hLit928 X1074.warmed.wide⟩
          · show CHr Z own_EL s.vm s.heap T1074.vm T1074.heap
            rw [hh, show T1074.heap = h1074 from e1074]
            exact hC.trans (CHv.at X1074 hZ hEL hC.1)
    · obtain ⟨T1096, X1096, e1096, st1096⟩ := getF X947 hx hZ hown (host := "") (Or.inl (own_wk hw 96 rfl)) Via.refl e947 x932 (g := (mkF m 95 #[.val (.ref a0), .val (.ref a1), .val (.int p2), .val (.int (own_at sg.2.2.2.2.1 p2))] [(.ref a0), (.int p2), (.ref a1), (.ref a0)])) rfl rfl (hb hby d20_95)
      have cp1098 : ∀ target, own_S p e below T1096 (mkF m 98 #[.val (.ref a0), .val (.ref a1), .val (.int p2), .val (.int (own_at sg.2.2.2.2.1 p2))] [(.int sg.2.2.1), (.int p2), (.ref a1), (.ref a0)]) target → own_S p e below s₁ (mkF m 0 #[.val (.ref a0), .val (.ref a1), .val (.int p2), .unset] []) target := by
        intro target kt
        show own_S p e below s₁ (mkF m 0 #[.val (.ref a0), .val (.ref a1), .val (.int p2), .unset] []) _
        refine cp950 _ (XS.icmpYes X947.here hx rfl (pc0 := 39) (pc' := 91) rfl (hb hby d20_39) rfl (flt hc949).2.1 (by decide) (by decide) (XS.aloadN X947.here hx rfl (hb hby d20_91) rfl rfl (XS.aloadN X947.here hx rfl (hb hby d20_92) rfl rfl (XS.iloadN X947.here hx rfl (hb hby d20_93) rfl (XS.aloadN X947.here hx rfl (hb hby d20_94) rfl rfl (st1096 _ ?_))))))
        exact kt
      by_cases hc1097 : sg.2.2.1 = (0 : Int32)
      · obtain ⟨cq1099, q1099, q1099'⟩ := x929.cell
        obtain ⟨_, _, ⟨T1099, L1099, k1099, n1099⟩, -, X1099, ⟨Lc1099, hQ1099, l1099, y1099, z1099⟩, st1099⟩ := X1096.privateBack hx (y := (⟨"com/example/needle_in_json/needleinjson/MaskedDigits", "count", "([CIZ)V"⟩ : MethodName)) hown (mvT hZ (own_wk hw 105 rfl)) (mvT hZ (own_wk hw 106 rfl)) (own_selp (ym := (⟨"com/example/needle_in_json/needleinjson/MaskedDigits", "mask", "([CII)V"⟩ : MethodName)) (mvT hZ (own_wk hw 53 rfl)) rfl (Cond.privateMethod_at (mvP hZ (own_wk hw 107 rfl) (args := #[]))) (mvT hZ (own_wk hw 106 rfl)) (by decide)) (Cond.privateMethod_at (mvP hZ (own_wk hw 107 rfl) (args := #[]))) (mvT hZ (own_wk hw 108 rfl)) (by decide) (backOf (W := 0) (rm21 l Z ag hw [] a0 a1 p2 (0 : Int32) bd vb k1 kb n sg cs gf h928 n0 sz945 (show own_F Z h928 a0 a1 bd vb k1 kb n sg from ⟨x929, x930, x931, x932, x933, x934, x935, x936, x937, x938, x939⟩) hN hG x940 S_cs hcs S_gf rv_gf hi hKk (fun q => absurd rfl q)) hZ (own_wk hw 108 rfl) (own_wk hw 19 rfl) (by decide) (by decide)) (g := (mkF m 113 #[.val (.ref a0), .val (.ref a1), .val (.int p2), .val (.int (own_at sg.2.2.2.2.1 p2))] [.int 0, (.int p2), (.ref a1), (.ref a0)])) rfl (by rw [hml]; rfl) (Steps.refl _) (a := a0) (by rw [e1096]; exact q1099) q1099' (argsL := [(.ref a1), (.int p2), (.int (0 : Int32))]) (rest := []) (lenOf pd_24 rfl) rfl (by show 2 * 0 + _ ≤ _; exact Nat.le_of_eq rfl) (hb hby d20_113) (fun _ _ => ⟨rfl, e1096, (by decide : 2 + 0 ≤ _), (by decide : 20 + 0 ≤ _)⟩)
        dsimp only [Pt.U, Pt.locs, Pt.cells, Pt.slots] at X1099 l1099 y1099 z1099 st1099 hQ1099
        subst l1099 y1099 z1099
        obtain ⟨rfl, N1099q, K1099, F1099⟩ := hQ1099
        have N1099 := Fr.app N947 N1099q
        have x1100 := x929.keep K1099
        have x1101 := x934.keep K1099
        have x1102 := x940.keep K1099 (allS ge_a0 (allS ge_a1 (allS ge_bd (allS ge_vb all0))))
        have x1103 := Safe.keep K1099 (sfS x942 (sfS x943 (sfS x944 (sfS x941 sf0)))) hC.1 x941
        have x1104 := Safe.keep K1099 (sfS x942 (sfS x943 (sfS x944 (sfS x941 sf0)))) hC.1 x942
        have x1105 := Safe.keep K1099 (sfS x942 (sfS x943 (sfS x944 (sfS x941 sf0)))) hC.1 x943
        have x1106 := Safe.keep K1099 (sfS x942 (sfS x943 (sfS x944 (sfS x941 sf0)))) hC.1 x944
        have x1107 := Es928.keep K1099
        have x1108 := Fc928.keep K1099 (ninS (Ne.symm (hSf928 _ x942).1) (ninS (Ne.symm (hSf928 _ x943).1) (ninS (Ne.symm (hSf928 _ x944).1) (ninS (Ne.symm (hSf928 _ x941).1) nin0))))
        have x1109 := Fv928.keep K1099 (ninS (Ne.symm (hSf928 _ x942).1) (ninS (Ne.symm (hSf928 _ x943).1) (ninS (Ne.symm (hSf928 _ x944).1) (ninS (Ne.symm (hSf928 _ x941).1) nin0))))
        have x1110 := Vs928.keep K1099 (ninS (Ne.symm (hSf928 _ x942).2) (ninS (Ne.symm (hSf928 _ x943).2) (ninS (Ne.symm (hSf928 _ x944).2) (ninS (Ne.symm (hSf928 _ x941).2) nin0))))
        have sz1111 : n0 ≤ T1099.heap.size := Nat.le_trans sz945 K1099.1
        have hkS := Nat.le_trans hkS K1099.1
        have hC := hC.trans (CHr.keep K1099 (sfS x942 (sfS x943 (sfS x944 (sfS x941 sf0)))) hC.1)
        have kp1112 : Keep h0 T1099.heap [a0, a1, bd, vb] := kp946.trans K1099 (allS (Or.inl (List.mem_of_getElem? (i := 0) rfl)) (allS (Or.inl (List.mem_of_getElem? (i := 1) rfl)) (allS (Or.inl (List.mem_of_getElem? (i := 2) rfl)) (allS (Or.inl (List.mem_of_getElem? (i := 3) rfl)) all0))))
        obtain ⟨m1099_0, m1099_1, m1099_2, m1099_3, m1099_4, m1099_5, m1099_6, m1099_7, m1099_8, m1099_9, m1099_10⟩ := id F1099
        obtain ⟨T1113, h1113, X1113, e1113, W1113, st1113⟩ := putF X1099 hx hZ hown (host := "") (Or.inl (own_wk hw 48 rfl)) Via.refl rfl m1099_2 m1099_0 (Or.inl (own_wk hw 49 rfl)) (own_wk hw 18 rfl) (ty := .int) (by decide) rfl rfl (g := (mkF m 118 #[.val (.ref a0), .val (.ref a1), .val (.int p2), .val (.int (own_at sg.2.2.2.2.1 p2))] [.int (-1), (.ref a0)])) rfl rfl (hb hby d20_118)
        have Fw1113 := m1099_2.same W1113
        have x1114 := m1099_0.wr W1113
        have x1115 := m1099_5.wr W1113
        have x1116 := x1102.wr W1113 ge_a0
        have x1117 := Safe.wr W1113 x1104 hC.1 x1103
        have x1118 := Safe.wr W1113 x1104 hC.1 x1104
        have x1119 := Safe.wr W1113 x1104 hC.1 x1105
        have x1120 := Safe.wr W1113 x1104 hC.1 x1106
        have x1121 := x1107.wr W1113
        have x1122 := x1108.other W1113 (Or.inl (Ne.symm (hSf928 _ x942).1))
        have x1123 := x1109.other W1113 (Or.inl (Ne.symm (hSf928 _ x942).1))
        have x1124 := x1110.other W1113 (Ne.symm (hSf928 _ x942).2)
        have x1125 := m1099_1.other W1113 (Or.inr (slot_ne (Or.inl (own_wk hw 56 rfl)) (Or.inl (own_wk hw 49 rfl)) (by decide) (t := .int) (t' := .int) (by decide) (by decide)))
        have x1126 := m1099_3.other W1113 (Or.inr (slot_ne (Or.inl (own_wk hw 97 rfl)) (Or.inl (own_wk hw 49 rfl)) (by decide) (t := .boolean) (t' := .int) (by decide) (by decide)))
        have x1127 := m1099_4.other W1113 (Or.inr (slot_ne (Or.inr (own_wk hw 47 rfl)) (Or.inl (own_wk hw 49 rfl)) (by decide) (t := (.object "java/lang/StringBuilder")) (t' := .int) (by decide) (by decide)))
        have x1128 := m1099_6.other W1113 (Or.inl (Ne.symm ne_a0_bd))
        have x1129 := m1099_7.other W1113 (Or.inl (Ne.symm ne_a0_bd))
        have x1130 := m1099_8.other W1113 (Or.inl (Ne.symm ne_a0_bd))
        have x1131 := m1099_9.other W1113 (Ne.symm ne_a0_vb)
        have x1132 := m1099_10.other W1113 (Ne.symm ne_a0_a1)
        have sz1133 : n0 ≤ h1113.size := Nat.le_trans sz1111 (Keep.of_wr W1113).1
        have hkS := Nat.le_trans hkS (Keep.of_wr W1113).1
        have hC := hC.trans (CHr.wr W1113 x1104 hC.1)
        have kp1134 : Keep h0 h1113 [a0, a1, bd, vb] := kp1112.wr W1113 (Or.inl (List.mem_of_getElem? (i := 0) rfl))
        have N1113 := Fr.snoc X1113 N1099 ge_a0
        obtain ⟨fs, hr, hrun, hended, hEnd⟩ := X1113.leaveW hS (by rw [e1113]; exact hkS) (v := none) (fun _ => rfl)
        refine ⟨_, _, pre0 _ ?_, hrun, hended, _, _, rfl, ?_, ?_, hEnd.1, hEnd.2.1, hEnd.2.2.1, hEnd.2.2.2.mono (by decide) (by decide)⟩
        · show own_S p e below s₁ (mkF m 0 #[.val (.ref a0), .val (.ref a1), .val (.int p2), .unset] []) _
          refine cp1098 _ (XS.ifYes X1096.here hx rfl (pc0 := 98) (pc' := 112) rfl (hb hby d20_98) rfl ((if0 _ _).trans (teq hc1097).1) (by decide) (by decide) (XS.iconst X1096.here hx rfl (hb hby d20_112) (st1099.trans (XS.aloadN X1099.here hx rfl (hb hby d20_116) rfl rfl (XS.iconst X1099.here hx rfl (hb hby d20_117) (st1113 _ ?_))))))
          show own_S p e below T1113 (mkF m 121 #[.val (.ref a0), .val (.ref a1), .val (.int p2), .val (.int (own_at sg.2.2.2.2.1 p2))] []) _
          exact X1113.returnOut hx Bd.returns (hb hby d20_121) hr
        · refine ⟨?_, ?_⟩
          · show Q20_l Z a0 a1 p2 bd vb k1 kb n sg cs gf h0 n0 _ T1113.heap _
            rw [e1113]
            refine ⟨rfl, N1113, kp1134, ?_⟩
            rw [own_escL hld, show own_esc2 p2 sg = own_er (-1) (own_count p2 (0 : Int32) sg) from (if_neg hc949).trans (by rw [show own_fl sg.2.2.1 (own_at sg.2.2.2.2.1 p2) = (0 : Int32) from by unfold own_fl; rw [if_pos hc1097]])]
            exact ⟨x1114, x1125, Fw1113, x1126, x1127, x1115, x1128, x1129, x1130, x1131, x1132⟩
          · show (own_LitV Z a0 a1 bd vb) T1113.vm T1113.heap
            rw [show T1113.heap = h1113 from e1113]
            exact ⟨sa928, sb928, kb928, ⟨x1121, x1122, x1123, x1124⟩, ⟨(hSf928 _ x942).1, (hSf928 _ x943).1, (hSf928 _ x944).1, (hSf928 _ x941).1, (hSf928 _ x942).2, (hSf928 _ x943).2, (hSf928 _ x944).2, (hSf928 _ x941).2⟩, own_litU (s := s.setVm T928.vm) (U := Z.setVm T1113.vm) hLit928 X1113.warmed.wide⟩
        · show CHr Z own_EL s.vm s.heap T1113.vm T1113.heap
          rw [hh, show T1113.heap = h1113 from e1113]
          exact hC.trans (CHv.at X1113 hZ hEL hC.1)
      · obtain ⟨_, _, ⟨T1135, L1135, k1135, n1135⟩, -, X1135, ⟨Lc1135, hQ1135, l1135, y1135, z1135⟩, st1135⟩ := Jvm.LawKit.callS X1096 hx (y := (⟨"com/example/needle_in_json/needleinjson/MaskedDigits", "isDigit", "(C)Z"⟩ : MethodName)) hown (mvT hZ (own_wk hw 64 rfl)) (mvT hZ (own_wk hw 65 rfl)) (mvT hZ (own_wk hw 19 rfl)) (mvT hZ (own_wk hw 66 rfl)) (by decide) (backOf (W := 3) (rm12 l Z ag hw [] (own_at sg.2.2.2.2.1 p2)  h928 n0 sz945 ) hZ (own_wk hw 66 rfl) (own_wk hw 19 rfl) (by decide) (by decide)) (g := (mkF m 102 #[.val (.ref a0), .val (.ref a1), .val (.int p2), .val (.int (own_at sg.2.2.2.2.1 p2))] [(.int (own_at sg.2.2.2.2.1 p2)), (.int p2), (.ref a1), (.ref a0)])) rfl (by rw [hml]; rfl) (argsL := [(.int (own_at sg.2.2.2.2.1 p2))]) (rest := [(.int p2), (.ref a1), (.ref a0)]) (lenOf pd_6 rfl) rfl (by show 2 * 0 + _ ≤ _; exact Nat.le_of_eq rfl) (hb hby d20_102) (fun _ _ => ⟨rfl, e1096, (by decide : 2 + 0 ≤ _), (by decide : 20 + 0 ≤ _)⟩)
        dsimp only [Pt.U, Pt.locs, Pt.cells, Pt.slots] at X1135 l1135 y1135 z1135 st1135 hQ1135
        subst l1135 y1135 z1135
        obtain ⟨rfl, N1135q, e1135⟩ := hQ1135
        have N1135 := Fr.app N947 N1135q
        have cp1137 : ∀ target, own_S p e below T1135 (mkF m 105 #[.val (.ref a0), .val (.ref a1), .val (.int p2), .val (.int (own_at sg.2.2.2.2.1 p2))] [(.int (own_isD (own_at sg.2.2.2.2.1 p2))), (.int p2), (.ref a1), (.ref a0)]) target → own_S p e below s₁ (mkF m 0 #[.val (.ref a0), .val (.ref a1), .val (.int p2), .unset] []) target := by
          intro target kt
          show own_S p e below s₁ (mkF m 0 #[.val (.ref a0), .val (.ref a1), .val (.int p2), .unset] []) _
          refine cp1098 _ (XS.ifNo X1096.here hx rfl (hb hby d20_98) rfl ((if0 _ _).trans (feq hc1097).1) (XS.iloadN X1096.here hx rfl (hb hby d20_101) rfl (st1135 _ ?_)))
          exact kt
        by_cases hc1136 : (own_isD (own_at sg.2.2.2.2.1 p2)) = (0 : Int32)
        · obtain ⟨cq1138, q1138, q1138'⟩ := x929.cell
          obtain ⟨_, _, ⟨T1138, L1138, k1138, n1138⟩, -, X1138, ⟨Lc1138, hQ1138, l1138, y1138, z1138⟩, st1138⟩ := X1135.privateBack hx (y := (⟨"com/example/needle_in_json/needleinjson/MaskedDigits", "count", "([CIZ)V"⟩ : MethodName)) hown (mvT hZ (own_wk hw 105 rfl)) (mvT hZ (own_wk hw 106 rfl)) (own_selp (ym := (⟨"com/example/needle_in_json/needleinjson/MaskedDigits", "mask", "([CII)V"⟩ : MethodName)) (mvT hZ (own_wk hw 53 rfl)) rfl (Cond.privateMethod_at (mvP hZ (own_wk hw 107 rfl) (args := #[]))) (mvT hZ (own_wk hw 106 rfl)) (by decide)) (Cond.privateMethod_at (mvP hZ (own_wk hw 107 rfl) (args := #[]))) (mvT hZ (own_wk hw 108 rfl)) (by decide) (backOf (W := 0) (rm21 l Z ag hw [] a0 a1 p2 (0 : Int32) bd vb k1 kb n sg cs gf h928 n0 sz945 (show own_F Z h928 a0 a1 bd vb k1 kb n sg from ⟨x929, x930, x931, x932, x933, x934, x935, x936, x937, x938, x939⟩) hN hG x940 S_cs hcs S_gf rv_gf hi hKk (fun q => absurd rfl q)) hZ (own_wk hw 108 rfl) (own_wk hw 19 rfl) (by decide) (by decide)) (g := (mkF m 113 #[.val (.ref a0), .val (.ref a1), .val (.int p2), .val (.int (own_at sg.2.2.2.2.1 p2))] [.int 0, (.int p2), (.ref a1), (.ref a0)])) rfl (by rw [hml]; rfl) (Steps.refl _) (a := a0) (by rw [e1135]; exact q1138) q1138' (argsL := [(.ref a1), (.int p2), (.int (0 : Int32))]) (rest := []) (lenOf pd_24 rfl) rfl (by show 2 * 0 + _ ≤ _; exact Nat.le_of_eq rfl) (hb hby d20_113) (fun _ _ => ⟨rfl, e1135, (by decide : 2 + 0 ≤ _), (by decide : 20 + 0 ≤ _)⟩)
          dsimp only [Pt.U, Pt.locs, Pt.cells, Pt.slots] at X1138 l1138 y1138 z1138 st1138 hQ1138
          subst l1138 y1138 z1138
          obtain ⟨rfl, N1138q, K1138, F1138⟩ := hQ1138
          have N1138 := Fr.app N1135 N1138q
          have x1139 := x929.keep K1138
          have x1140 := x934.keep K1138
          have x1141 := x940.keep K1138 (allS ge_a0 (allS ge_a1 (allS ge_bd (allS ge_vb all0))))
          have x1142 := Safe.keep K1138 (sfS x942 (sfS x943 (sfS x944 (sfS x941 sf0)))) hC.1 x941
          have x1143 := Safe.keep K1138 (sfS x942 (sfS x943 (sfS x944 (sfS x941 sf0)))) hC.1 x942
          have x1144 := Safe.keep K1138 (sfS x942 (sfS x943 (sfS x944 (sfS x941 sf0)))) hC.1 x943
          have x1145 := Safe.keep K1138 (sfS x942 (sfS x943 (sfS x944 (sfS x941 sf0)))) hC.1 x944
          have x1146 := Es928.keep K1138
          have x1147 := Fc928.keep K1138 (ninS (Ne.symm (hSf928 _ x942).1) (ninS (Ne.symm (hSf928 _ x943).1) (ninS (Ne.symm (hSf928 _ x944).1) (ninS (Ne.symm (hSf928 _ x941).1) nin0))))
          have x1148 := Fv928.keep K1138 (ninS (Ne.symm (hSf928 _ x942).1) (ninS (Ne.symm (hSf928 _ x943).1) (ninS (Ne.symm (hSf928 _ x944).1) (ninS (Ne.symm (hSf928 _ x941).1) nin0))))
          have x1149 := Vs928.keep K1138 (ninS (Ne.symm (hSf928 _ x942).2) (ninS (Ne.symm (hSf928 _ x943).2) (ninS (Ne.symm (hSf928 _ x944).2) (ninS (Ne.symm (hSf928 _ x941).2) nin0))))
          have sz1150 : n0 ≤ T1138.heap.size := Nat.le_trans sz945 K1138.1
          have hkS := Nat.le_trans hkS K1138.1
          have hC := hC.trans (CHr.keep K1138 (sfS x942 (sfS x943 (sfS x944 (sfS x941 sf0)))) hC.1)
          have kp1151 : Keep h0 T1138.heap [a0, a1, bd, vb] := kp946.trans K1138 (allS (Or.inl (List.mem_of_getElem? (i := 0) rfl)) (allS (Or.inl (List.mem_of_getElem? (i := 1) rfl)) (allS (Or.inl (List.mem_of_getElem? (i := 2) rfl)) (allS (Or.inl (List.mem_of_getElem? (i := 3) rfl)) all0))))
          obtain ⟨m1138_0, m1138_1, m1138_2, m1138_3, m1138_4, m1138_5, m1138_6, m1138_7, m1138_8, m1138_9, m1138_10⟩ := id F1138
          obtain ⟨T1152, h1152, X1152, e1152, W1152, st1152⟩ := putF X1138 hx hZ hown (host := "") (Or.inl (own_wk hw 48 rfl)) Via.refl rfl m1138_2 m1138_0 (Or.inl (own_wk hw 49 rfl)) (own_wk hw 18 rfl) (ty := .int) (by decide) rfl rfl (g := (mkF m 118 #[.val (.ref a0), .val (.ref a1), .val (.int p2), .val (.int (own_at sg.2.2.2.2.1 p2))] [.int (-1), (.ref a0)])) rfl rfl (hb hby d20_118)
          have Fw1152 := m1138_2.same W1152
          have x1153 := m1138_0.wr W1152
          have x1154 := m1138_5.wr W1152
          have x1155 := x1141.wr W1152 ge_a0
          have x1156 := Safe.wr W1152 x1143 hC.1 x1142
          have x1157 := Safe.wr W1152 x1143 hC.1 x1143
          have x1158 := Safe.wr W1152 x1143 hC.1 x1144
          have x1159 := Safe.wr W1152 x1143 hC.1 x1145
          have x1160 := x1146.wr W1152
          have x1161 := x1147.other W1152 (Or.inl (Ne.symm (hSf928 _ x942).1))
          have x1162 := x1148.other W1152 (Or.inl (Ne.symm (hSf928 _ x942).1))
          have x1163 := x1149.other W1152 (Ne.symm (hSf928 _ x942).2)
          have x1164 := m1138_1.other W1152 (Or.inr (slot_ne (Or.inl (own_wk hw 56 rfl)) (Or.inl (own_wk hw 49 rfl)) (by decide) (t := .int) (t' := .int) (by decide) (by decide)))
          have x1165 := m1138_3.other W1152 (Or.inr (slot_ne (Or.inl (own_wk hw 97 rfl)) (Or.inl (own_wk hw 49 rfl)) (by decide) (t := .boolean) (t' := .int) (by decide) (by decide)))
          have x1166 := m1138_4.other W1152 (Or.inr (slot_ne (Or.inr (own_wk hw 47 rfl)) (Or.inl (own_wk hw 49 rfl)) (by decide) (t := (.object "java/lang/StringBuilder")) (t' := .int) (by decide) (by decide)))
          have x1167 := m1138_6.other W1152 (Or.inl (Ne.symm ne_a0_bd))
          have x1168 := m1138_7.other W1152 (Or.inl (Ne.symm ne_a0_bd))
          have x1169 := m1138_8.other W1152 (Or.inl (Ne.symm ne_a0_bd))
          have x1170 := m1138_9.other W1152 (Ne.symm ne_a0_vb)
          have x1171 := m1138_10.other W1152 (Ne.symm ne_a0_a1)
          have sz1172 : n0 ≤ h1152.size := Nat.le_trans sz1150 (Keep.of_wr W1152).1
          have hkS := Nat.le_trans hkS (Keep.of_wr W1152).1
          have hC := hC.trans (CHr.wr W1152 x1143 hC.1)
          have kp1173 : Keep h0 h1152 [a0, a1, bd, vb] := kp1151.wr W1152 (Or.inl (List.mem_of_getElem? (i := 0) rfl))
          have N1152 := Fr.snoc X1152 N1138 ge_a0
          obtain ⟨fs, hr, hrun, hended, hEnd⟩ := X1152.leaveW hS (by rw [e1152]; exact hkS) (v := none) (fun _ => rfl)
          refine ⟨_, _, pre0 _ ?_, hrun, hended, _, _, rfl, ?_, ?_, hEnd.1, hEnd.2.1, hEnd.2.2.1, hEnd.2.2.2.mono (by decide) (by decide)⟩
          · show own_S p e below s₁ (mkF m 0 #[.val (.ref a0), .val (.ref a1), .val (.int p2), .unset] []) _
            refine cp1137 _ (XS.ifYes X1135.here hx rfl (pc0 := 105) (pc' := 112) rfl (hb hby d20_105) rfl ((if0 _ _).trans (teq hc1136).1) (by decide) (by decide) (XS.iconst X1135.here hx rfl (hb hby d20_112) (st1138.trans (XS.aloadN X1138.here hx rfl (hb hby d20_116) rfl rfl (XS.iconst X1138.here hx rfl (hb hby d20_117) (st1152 _ ?_))))))
            show own_S p e below T1152 (mkF m 121 #[.val (.ref a0), .val (.ref a1), .val (.int p2), .val (.int (own_at sg.2.2.2.2.1 p2))] []) _
            exact X1152.returnOut hx Bd.returns (hb hby d20_121) hr
          · refine ⟨?_, ?_⟩
            · show Q20_l Z a0 a1 p2 bd vb k1 kb n sg cs gf h0 n0 _ T1152.heap _
              rw [e1152]
              refine ⟨rfl, N1152, kp1173, ?_⟩
              rw [own_escL hld, show own_esc2 p2 sg = own_er (-1) (own_count p2 (0 : Int32) sg) from (if_neg hc949).trans (by rw [show own_fl sg.2.2.1 (own_at sg.2.2.2.2.1 p2) = (0 : Int32) from by unfold own_fl; rw [if_neg hc1097, if_pos hc1136]])]
              exact ⟨x1153, x1164, Fw1152, x1165, x1166, x1154, x1167, x1168, x1169, x1170, x1171⟩
            · show (own_LitV Z a0 a1 bd vb) T1152.vm T1152.heap
              rw [show T1152.heap = h1152 from e1152]
              exact ⟨sa928, sb928, kb928, ⟨x1160, x1161, x1162, x1163⟩, ⟨(hSf928 _ x942).1, (hSf928 _ x943).1, (hSf928 _ x944).1, (hSf928 _ x941).1, (hSf928 _ x942).2, (hSf928 _ x943).2, (hSf928 _ x944).2, (hSf928 _ x941).2⟩, own_litU (s := s.setVm T928.vm) (U := Z.setVm T1152.vm) hLit928 X1152.warmed.wide⟩
          · show CHr Z own_EL s.vm s.heap T1152.vm T1152.heap
            rw [hh, show T1152.heap = h1152 from e1152]
            exact hC.trans (CHv.at X1152 hZ hEL hC.1)
        · obtain ⟨cq1174, q1174, q1174'⟩ := x929.cell
          obtain ⟨_, _, ⟨T1174, L1174, k1174, n1174⟩, -, X1174, ⟨Lc1174, hQ1174, l1174, y1174, z1174⟩, st1174⟩ := X1135.privateBack hx (y := (⟨"com/example/needle_in_json/needleinjson/MaskedDigits", "count", "([CIZ)V"⟩ : MethodName)) hown (mvT hZ (own_wk hw 105 rfl)) (mvT hZ (own_wk hw 106 rfl)) (own_selp (ym := (⟨"com/example/needle_in_json/needleinjson/MaskedDigits", "mask", "([CII)V"⟩ : MethodName)) (mvT hZ (own_wk hw 53 rfl)) rfl (Cond.privateMethod_at (mvP hZ (own_wk hw 107 rfl) (args := #[]))) (mvT hZ (own_wk hw 106 rfl)) (by decide)) (Cond.privateMethod_at (mvP hZ (own_wk hw 107 rfl) (args := #[]))) (mvT hZ (own_wk hw 108 rfl)) (by decide) (backOf (W := 0) (rm21 l Z ag hw [] a0 a1 p2 (1 : Int32) bd vb k1 kb n sg cs gf h928 n0 sz945 (show own_F Z h928 a0 a1 bd vb k1 kb n sg from ⟨x929, x930, x931, x932, x933, x934, x935, x936, x937, x938, x939⟩) hN hG x940 S_cs hcs S_gf rv_gf hi hKk (fun _ => hc1136)) hZ (own_wk hw 108 rfl) (own_wk hw 19 rfl) (by decide) (by decide)) (g := (mkF m 113 #[.val (.ref a0), .val (.ref a1), .val (.int p2), .val (.int (own_at sg.2.2.2.2.1 p2))] [.int 1, (.int p2), (.ref a1), (.ref a0)])) rfl (by rw [hml]; rfl) (Steps.refl _) (a := a0) (by rw [e1135]; exact q1174) q1174' (argsL := [(.ref a1), (.int p2), (.int (1 : Int32))]) (rest := []) (lenOf pd_24 rfl) rfl (by show 2 * 0 + _ ≤ _; exact Nat.le_of_eq rfl) (hb hby d20_113) (fun _ _ => ⟨rfl, e1135, (by decide : 2 + 0 ≤ _), (by decide : 20 + 0 ≤ _)⟩)
          dsimp only [Pt.U, Pt.locs, Pt.cells, Pt.slots] at X1174 l1174 y1174 z1174 st1174 hQ1174
          subst l1174 y1174 z1174
          obtain ⟨rfl, N1174q, K1174, F1174⟩ := hQ1174
          have N1174 := Fr.app N1135 N1174q
          have x1175 := x929.keep K1174
          have x1176 := x934.keep K1174
          have x1177 := x940.keep K1174 (allS ge_a0 (allS ge_a1 (allS ge_bd (allS ge_vb all0))))
          have x1178 := Safe.keep K1174 (sfS x942 (sfS x943 (sfS x944 (sfS x941 sf0)))) hC.1 x941
          have x1179 := Safe.keep K1174 (sfS x942 (sfS x943 (sfS x944 (sfS x941 sf0)))) hC.1 x942
          have x1180 := Safe.keep K1174 (sfS x942 (sfS x943 (sfS x944 (sfS x941 sf0)))) hC.1 x943
          have x1181 := Safe.keep K1174 (sfS x942 (sfS x943 (sfS x944 (sfS x941 sf0)))) hC.1 x944
          have x1182 := Es928.keep K1174
          have x1183 := Fc928.keep K1174 (ninS (Ne.symm (hSf928 _ x942).1) (ninS (Ne.symm (hSf928 _ x943).1) (ninS (Ne.symm (hSf928 _ x944).1) (ninS (Ne.symm (hSf928 _ x941).1) nin0))))
          have x1184 := Fv928.keep K1174 (ninS (Ne.symm (hSf928 _ x942).1) (ninS (Ne.symm (hSf928 _ x943).1) (ninS (Ne.symm (hSf928 _ x944).1) (ninS (Ne.symm (hSf928 _ x941).1) nin0))))
          have x1185 := Vs928.keep K1174 (ninS (Ne.symm (hSf928 _ x942).2) (ninS (Ne.symm (hSf928 _ x943).2) (ninS (Ne.symm (hSf928 _ x944).2) (ninS (Ne.symm (hSf928 _ x941).2) nin0))))
          have sz1186 : n0 ≤ T1174.heap.size := Nat.le_trans sz945 K1174.1
          have hkS := Nat.le_trans hkS K1174.1
          have hC := hC.trans (CHr.keep K1174 (sfS x942 (sfS x943 (sfS x944 (sfS x941 sf0)))) hC.1)
          have kp1187 : Keep h0 T1174.heap [a0, a1, bd, vb] := kp946.trans K1174 (allS (Or.inl (List.mem_of_getElem? (i := 0) rfl)) (allS (Or.inl (List.mem_of_getElem? (i := 1) rfl)) (allS (Or.inl (List.mem_of_getElem? (i := 2) rfl)) (allS (Or.inl (List.mem_of_getElem? (i := 3) rfl)) all0))))
          obtain ⟨m1174_0, m1174_1, m1174_2, m1174_3, m1174_4, m1174_5, m1174_6, m1174_7, m1174_8, m1174_9, m1174_10⟩ := id F1174
          obtain ⟨T1188, h1188, X1188, e1188, W1188, st1188⟩ := putF X1174 hx hZ hown (host := "") (Or.inl (own_wk hw 48 rfl)) Via.refl rfl m1174_2 m1174_0 (Or.inl (own_wk hw 49 rfl)) (own_wk hw 18 rfl) (ty := .int) (by decide) rfl rfl (g := (mkF m 118 #[.val (.ref a0), .val (.ref a1), .val (.int p2), .val (.int (own_at sg.2.2.2.2.1 p2))] [.int (-1), (.ref a0)])) rfl rfl (hb hby d20_118)
          have Fw1188 := m1174_2.same W1188
          have x1189 := m1174_0.wr W1188
          have x1190 := m1174_5.wr W1188
          have x1191 := x1177.wr W1188 ge_a0
          have x1192 := Safe.wr W1188 x1179 hC.1 x1178
          have x1193 := Safe.wr W1188 x1179 hC.1 x1179
          have x1194 := Safe.wr W1188 x1179 hC.1 x1180
          have x1195 := Safe.wr W1188 x1179 hC.1 x1181
          have x1196 := x1182.wr W1188
          have x1197 := x1183.other W1188 (Or.inl (Ne.symm (hSf928 _ x942).1))
          have x1198 := x1184.other W1188 (Or.inl (Ne.symm (hSf928 _ x942).1))
          have x1199 := x1185.other W1188 (Ne.symm (hSf928 _ x942).2)
          have x1200 := m1174_1.other W1188 (Or.inr (slot_ne (Or.inl (own_wk hw 56 rfl)) (Or.inl (own_wk hw 49 rfl)) (by decide) (t := .int) (t' := .int) (by decide) (by decide)))
          have x1201 := m1174_3.other W1188 (Or.inr (slot_ne (Or.inl (own_wk hw 97 rfl)) (Or.inl (own_wk hw 49 rfl)) (by decide) (t := .boolean) (t' := .int) (by decide) (by decide)))
          have x1202 := m1174_4.other W1188 (Or.inr (slot_ne (Or.inr (own_wk hw 47 rfl)) (Or.inl (own_wk hw 49 rfl)) (by decide) (t := (.object "java/lang/StringBuilder")) (t' := .int) (by decide) (by decide)))
          have x1203 := m1174_6.other W1188 (Or.inl (Ne.symm ne_a0_bd))
          have x1204 := m1174_7.other W1188 (Or.inl (Ne.symm ne_a0_bd))
          have x1205 := m1174_8.other W1188 (Or.inl (Ne.symm ne_a0_bd))
          have x1206 := m1174_9.other W1188 (Ne.symm ne_a0_vb)
          have x1207 := m1174_10.other W1188 (Ne.symm ne_a0_a1)
          have sz1208 : n0 ≤ h1188.size := Nat.le_trans sz1186 (Keep.of_wr W1188).1
          have hkS := Nat.le_trans hkS (Keep.of_wr W1188).1
          have hC := hC.trans (CHr.wr W1188 x1179 hC.1)
          have kp1209 : Keep h0 h1188 [a0, a1, bd, vb] := kp1187.wr W1188 (Or.inl (List.mem_of_getElem? (i := 0) rfl))
          have N1188 := Fr.snoc X1188 N1174 ge_a0
          obtain ⟨fs, hr, hrun, hended, hEnd⟩ := X1188.leaveW hS (by rw [e1188]; exact hkS) (v := none) (fun _ => rfl)
          refine ⟨_, _, pre0 _ ?_, hrun, hended, _, _, rfl, ?_, ?_, hEnd.1, hEnd.2.1, hEnd.2.2.1, hEnd.2.2.2.mono (by decide) (by decide)⟩
          · show own_S p e below s₁ (mkF m 0 #[.val (.ref a0), .val (.ref a1), .val (.int p2), .unset] []) _
            refine cp1137 _ (XS.ifNo X1135.here hx rfl (hb hby d20_105) rfl ((if0 _ _).trans (feq hc1136).1) (XS.iconst X1135.here hx rfl (hb hby d20_108) (XS.goto X1135.here hx rfl (pc0 := 109) (pc' := 113) rfl (hb hby d20_109) (by decide) (by decide) (st1174.trans (XS.aloadN X1174.here hx rfl (hb hby d20_116) rfl rfl (XS.iconst X1174.here hx rfl (hb hby d20_117) (st1188 _ ?_)))))))
            show own_S p e below T1188 (mkF m 121 #[.val (.ref a0), .val (.ref a1), .val (.int p2), .val (.int (own_at sg.2.2.2.2.1 p2))] []) _
            exact X1188.returnOut hx Bd.returns (hb hby d20_121) hr
          · refine ⟨?_, ?_⟩
            · show Q20_l Z a0 a1 p2 bd vb k1 kb n sg cs gf h0 n0 _ T1188.heap _
              rw [e1188]
              refine ⟨rfl, N1188, kp1209, ?_⟩
              rw [own_escL hld, show own_esc2 p2 sg = own_er (-1) (own_count p2 (1 : Int32) sg) from (if_neg hc949).trans (by rw [show own_fl sg.2.2.1 (own_at sg.2.2.2.2.1 p2) = (1 : Int32) from by unfold own_fl; rw [if_neg hc1097, if_neg hc1136]])]
              exact ⟨x1189, x1200, Fw1188, x1201, x1202, x1190, x1203, x1204, x1205, x1206, x1207⟩
            · show (own_LitV Z a0 a1 bd vb) T1188.vm T1188.heap
              rw [show T1188.heap = h1188 from e1188]
              exact ⟨sa928, sb928, kb928, ⟨x1196, x1197, x1198, x1199⟩, ⟨(hSf928 _ x942).1, (hSf928 _ x943).1, (hSf928 _ x944).1, (hSf928 _ x941).1, (hSf928 _ x942).2, (hSf928 _ x943).2, (hSf928 _ x944).2, (hSf928 _ x941).2⟩, own_litU (s := s.setVm T928.vm) (U := Z.setVm T1188.vm) hLit928 X1188.warmed.wide⟩
          · show CHr Z own_EL s.vm s.heap T1188.vm T1188.heap
            rw [hh, show T1188.heap = h1188 from e1188]
            exact hC.trans (CHv.at X1188 hZ hEL hC.1)
def Q14_l (Z : State) (a0 a1 : Addr) (p2 : Int32) (bd vb : Addr) (k1 kb : ClassId) (n : Int32) (sg : own_Sg) (cs : Int32) (gf : Value) (h0 : Heap) (n0 : Nat) (v : Option Value) (h : Heap) (L : List Loc) : Prop := v = none ∧ Fr n0 L ∧ Keep h0 h [a0, a1, bd, vb] ∧ own_F Z h a0 a1 bd vb k1 kb n (own_take p2 sg)
set_option maxRecDepth 65536 in
set_option maxHeartbeats 40000000 in
theorem rm14_l (l : Launch) (Z : State) (ag : Array Value) (hw : ∀ d ∈ tables_1, d.before ag Z = true) (ws : List Jvm.Cond) (a0 a1 : Addr) (p2 : Int32) (bd vb : Addr) (k1 kb : ClassId) (n : Int32) (sg : own_Sg) (cs : Int32) (gf : Value) (h0 : Heap) (n0 : Nat) (Z0 : n0 ≤ h0.size) (hF : own_F Z h0 a0 a1 bd vb k1 kb n sg) (hN : own_Nn a0 a1 bd vb) (hG : own_G n0 a0 a1 bd vb) (O_ : Old Z n0 h0) (S_cs : Sta Z Z.heap "java/lang/String" "COMPACT_STRINGS" "Z" (.int cs)) (hcs : ¬ cs = (0 : Int32)) (S_gf : Sta Z Z.heap "jdk/internal/util/Preconditions" "SIOOBE_FORMATTER" "Ljava/util/function/BiFunction;" gf) (rv_gf : gf.isRef = true) (hi : ¬ p2 < 0 ∧ p2 < n) (hKk : own_Kk n sg) (hge : ¬ sg.2.1 < 0) (hld : sg.2.1 = (0 : Int32) → (own_at sg.2.2.2.2.1 p2) = (117 : Int32)) :
    MetFree l (⟨"com/example/needle_in_json/needleinjson/MaskedDigits", "take", "([CI)V"⟩ : MethodName) (head1 (Jvm.Cond.code (⟨"com/example/needle_in_json/needleinjson/MaskedDigits", "take", "([CI)V"⟩ : MethodName) prog_32_method_7_code 4 none :: ws) ({ frames := 5, cells := 2, slots := 20, locals := 70 } : Room)) (fun a U => a = #[(.ref a0), (.ref a1), (.int p2)] ∧ Z.Warmed39 U.vm ∧ U.heap = h0 ∧ CHv Z own_EL U.vm h0 ∧ Safe Z own_EL U.vm h0 vb) (fun _ _ _ _ _ => True) (fun _ U o U' => ∃ v L, o = .returned v ∧ (Q14_l Z a0 a1 p2 bd vb k1 kb n sg cs gf h0 n0 v U'.heap L ∧ (own_LitV Z a0 a1 bd vb) U'.vm U'.heap) ∧ CHr Z own_EL U.vm U.heap U'.vm U'.heap ∧ ReturnedEndW U o U' L ({ frames := 5, cells := 2, slots := 20, locals := 70 } : Room).cells ({ frames := 5, cells := 2, slots := 20, locals := 70 } : Room).slots) := by
  refine MetFree.of_bodySF (plainFor_of_name pn_0) hisR ?_
  intro p e s m args below meth c s₁ Bd hml0 hP hK
  obtain ⟨rfl, hZ, hh, hI, hSv⟩ := hP
  have hx := Bd.exec
  have hby := Bd.bytes
  have hml : c.maxLocals = 4 := hml0
  have hown : s.vm.findClass "com/example/needle_in_json/needleinjson/MaskedDigits" = some m.cls := findClass_of_methodNamed Bd.named
  have hnm := (name_of_methodNamed Bd.named Bd.method).1
  have X0 : Stand p l e ({ frames := 5, cells := 2, slots := 20, locals := 70 } : Room) s m #[(.ref a0), (.ref a1), (.int p2)] below meth c s₁ [] 0 0 := Stand.of_body Bd
  have e0 : s₁.heap = h0 := by rw [← hh, Bd.state]; rfl
  have N0 := Fr.nil n0
  have pre0 : ∀ t, Steps p.tables e below (s₁.setTop (mkF m 0 #[.val (.ref a0), .val (.ref a1), .val (.int p2), .unset] [])) t → Steps p.tables e below (s₁.setTop (entryFrame m #[(.ref a0), (.ref a1), (.int p2)] 4)) t := fun t k => castTop (ef_14 m a0 a1 p2) k
  have X0 : Stand p l e ({ frames := 5, cells := 2, slots := 20, locals := 70 } : Room) (s.setVm s.vm) m #[(.ref a0), (.ref a1), (.int p2)] below meth c s₁ [] 0 0 := X0
  have hS : s.Since s.vm 0 := (State.WarmedH.refl s).since 0
  have hkS : 0 ≤ h0.size := Nat.zero_le _
  have hC : CHr Z own_EL s.vm h0 s.vm h0 := CHr.refl hI
  have hEL : EW Z ag own_EL := own_ew hw
  have hwS : ∀ d ∈ Bundle.stringAtoms, d.before ag Z = true := fun d hd => hw d ((by decide +kernel : ∀ d ∈ Bundle.stringAtoms, d ∈ tables_1) d hd)
  obtain ⟨E_a0, F_row, F_er, F_de, F_h, E_bd, F_v, F_c, F_n, V_vb, V_a1⟩ := id hF
  obtain ⟨ne_a0_a1, ne_a0_bd, ne_a0_vb, ne_a1_bd, ne_a1_vb, ne_bd_vb⟩ := id hN
  obtain ⟨ge_a0, ge_a1, ge_bd, ge_vb⟩ := id hG
  have sf_a0 := Safe.exa (EL := own_EL) hZ.alike E_a0 (by decide) (by decide)
  have sf_a1 := Safe.arv (EL := own_EL) hZ.alike V_a1 (by decide)
  have sf_bd := Safe.exa (EL := own_EL) hZ.alike E_bd (by decide) (by decide)
  obtain ⟨cl1210, Ar1210, q1210, S1210, M1210, H1210, G1210⟩ := id V_a1
  have hin1210 : ¬ (p2 < 0 ∨ cl1210.slots.size ≤ (p2).toNatClampNeg) := inb_of S1210 hi
  have hat1210 : cl1210.slots[(p2).toNatClampNeg]? = some (.int (own_at sg.2.2.2.2.1 p2)) := Has.at H1210 hin1210 (own_mg sg.2.2.2.2.1 p2)
  have ld1210 := X0.caload hx (j := p2) (v := (.int (own_at sg.2.2.2.2.1 p2))) (by rw [e0]; exact Ar1210.1) (State.isArrayOf_alike hZ.alike Ar1210.2.1) Ar1210.2.2 hin1210 hat1210 (g := (mkF m 2 #[.val (.ref a0), .val (.ref a1), .val (.int p2), .unset] [(.int p2), (.ref a1)])) rfl rfl (hb hby d14_2)
  obtain ⟨T1211, X1211, e1211, st1211⟩ := getF X0 hx hZ hown (host := "") (Or.inl (own_wk hw 48 rfl)) Via.refl e0 F_er (g := (mkF m 5 #[.val (.ref a0), .val (.ref a1), .val (.int p2), .val (.int (own_at sg.2.2.2.2.1 p2))] [(.ref a0)])) rfl rfl (hb hby d14_5)
  obtain ⟨cq1212, q1212, q1212'⟩ := E_a0.cell
  obtain ⟨_, _, ⟨T1212, L1212, k1212, n1212⟩, -, X1212, hS2_1212, hg2_1212, ⟨Lc1212, hQ1212, l1212, y1212, z1212, hCs1212⟩, st1212⟩ := X1211.privateBackS hx (y := (⟨"com/example/needle_in_json/needleinjson/MaskedDigits", "maskEscaped", "([CI)V"⟩ : MethodName)) hown (mvT hZ (own_wk hw 101 rfl)) (mvT hZ (own_wk hw 102 rfl)) (own_selp (ym := (⟨"com/example/needle_in_json/needleinjson/MaskedDigits", "mask", "([CII)V"⟩ : MethodName)) (mvT hZ (own_wk hw 53 rfl)) rfl (Cond.privateMethod_at (mvP hZ (own_wk hw 103 rfl) (args := #[]))) (mvT hZ (own_wk hw 102 rfl)) (by decide)) (Cond.privateMethod_at (mvP hZ (own_wk hw 103 rfl) (args := #[]))) (mvT hZ (own_wk hw 104 rfl)) (by decide) (own_backSL (W := 0) (rm20_l l Z ag hw [] a0 a1 p2 bd vb k1 kb n sg cs gf h0 n0 Z0 hF hN hG O_ S_cs hcs S_gf rv_gf hi hKk hge hld) hZ (own_wk hw 104 rfl) (own_wk hw 19 rfl) (by decide) (by decide) hEL hC.1 V_vb.lt hSv) (g := (mkF m 14 #[.val (.ref a0), .val (.ref a1), .val (.int p2), .val (.int (own_at sg.2.2.2.2.1 p2))] [(.int p2), (.ref a1), (.ref a0)])) rfl (by rw [hml]; rfl) (Steps.refl _) (a := a0) (by rw [e1211]; exact q1212) q1212' (argsL := [(.ref a1), (.int p2)]) (rest := []) (lenOf pd_19 rfl) rfl (by show 2 * 0 + _ ≤ _; exact Nat.le_of_eq rfl) (hb hby d14_14) (fun _ _ => ⟨rfl, e1211, (by decide : 0 + 2 ≤ _), (by decide : 0 + 20 ≤ _)⟩)
  dsimp only [Pt.U, Pt.locs, Pt.cells, Pt.slots] at X1212 l1212 y1212 z1212 st1212 hQ1212 hS2_1212 hg2_1212 hCs1212
  subst l1212 y1212 z1212
  obtain ⟨X1212, hS, hZ, hown⟩ := rebS hS (by rw [e1211]; exact hkS) X1212 hS2_1212 hg2_1212 hZ hown
  obtain ⟨hQ1212, la1212, lba1212, kl1212, hst1212, hns1212, hLit1212⟩ := hQ1212
  obtain ⟨rfl, N1212q, K1212, F1212⟩ := hQ1212
  have N1212 := Fr.app N0 N1212q
  have x1213 := E_a0.keep K1212
  have x1214 := E_bd.keep K1212
  have x1215 := O_.keep K1212 (allS ge_a0 (allS ge_a1 (allS ge_bd (allS ge_vb all0))))
  have x1216 := hCs1212.safe V_vb.lt hSv
  have x1217 := hCs1212.safe E_a0.lt sf_a0
  have x1218 := hCs1212.safe V_a1.lt sf_a1
  have x1219 := hCs1212.safe E_bd.lt sf_bd
  have sz1220 : n0 ≤ T1212.heap.size := Nat.le_trans Z0 K1212.1
  have hkS := Nat.le_trans hkS K1212.1
  have hC := hC.trans hCs1212
  have kp1221 : Keep h0 T1212.heap [a0, a1, bd, vb] := (Keep.refl h0 [a0, a1, bd, vb]).trans K1212 (allS (Or.inl (List.mem_of_getElem? (i := 0) rfl)) (allS (Or.inl (List.mem_of_getElem? (i := 1) rfl)) (allS (Or.inl (List.mem_of_getElem? (i := 2) rfl)) (allS (Or.inl (List.mem_of_getElem? (i := 3) rfl)) all0))))
  obtain ⟨m1212_0, m1212_1, m1212_2, m1212_3, m1212_4, m1212_5, m1212_6, m1212_7, m1212_8, m1212_9, m1212_10⟩ := id F1212
  obtain ⟨El1212, Fl1212, Fm1212, Vl1212⟩ := id hst1212
  obtain ⟨nl1212_0, nl1212_1, nl1212_2, nl1212_3, nl1212_4, nl1212_5, nl1212_6, nl1212_7⟩ := id hns1212
  have hkS : T1212.heap.size ≤ T1212.heap.size := Nat.le_refl _
  obtain ⟨fs, hr, hrun, hended, hEnd⟩ := X1212.leaveW hS hkS (v := none) (fun _ => rfl)
  refine ⟨_, _, pre0 _ ?_, hrun, hended, _, _, rfl, ?_, ?_, hEnd.1, hEnd.2.1, hEnd.2.2.1, hEnd.2.2.2.mono (by decide) (by decide)⟩
  · show own_S p e below s₁ (mkF m 0 #[.val (.ref a0), .val (.ref a1), .val (.int p2), .unset] []) _
    refine XS.aloadN X0.here hx rfl (hb hby d14_0) rfl rfl (XS.iloadN X0.here hx rfl (hb hby d14_1) rfl (ld1210 _ (XS.istoreN X0.here hx rfl (hb hby d14_3) rfl (l' := #[.val (.ref a0), .val (.ref a1), .val (.int p2), .val (.int (own_at sg.2.2.2.2.1 p2))]) rfl (XS.aloadN X0.here hx rfl (hb hby d14_4) rfl rfl (st1211 _ (XS.ifNo X1211.here hx rfl (hb hby d14_8) rfl ((if0 _ _).trans (flt (show ¬ (sg.2.1 < (0 : Int32)) from hge)).1) (XS.aloadN X1211.here hx rfl (hb hby d14_11) rfl rfl (XS.aloadN X1211.here hx rfl (hb hby d14_12) rfl rfl (XS.iloadN X1211.here hx rfl (hb hby d14_13) rfl ?_)))))))))
    refine st1212.trans (XS.goto X1212.here hx rfl (pc0 := 17) (pc' := 44) rfl (hb hby d14_17) (by decide) (by decide) ?_)
    show own_S p e below T1212 (mkF m 44 #[.val (.ref a0), .val (.ref a1), .val (.int p2), .val (.int (own_at sg.2.2.2.2.1 p2))] []) _
    exact X1212.returnOut hx Bd.returns (hb hby d14_44) hr
  · refine ⟨?_, ?_⟩
    · show Q14_l Z a0 a1 p2 bd vb k1 kb n sg cs gf h0 n0 _ T1212.heap _
      refine ⟨rfl, N1212, kp1221, ?_⟩
      rw [show own_take p2 sg = own_esc p2 sg from if_neg hge]
      exact ⟨m1212_0, m1212_1, m1212_2, m1212_3, m1212_4, m1212_5, m1212_6, m1212_7, m1212_8, m1212_9, m1212_10⟩
    · show (own_LitV Z a0 a1 bd vb) T1212.vm T1212.heap
      exact ⟨la1212, lba1212, kl1212, ⟨El1212, Fl1212, Fm1212, Vl1212⟩, ⟨nl1212_0, nl1212_1, nl1212_2, nl1212_3, nl1212_4, nl1212_5, nl1212_6, nl1212_7⟩, own_litU (s := s.setVm T1212.vm) (U := Z.setVm T1212.vm) hLit1212 X1212.warmed.wide⟩
  · show CHr Z own_EL s.vm s.heap T1212.vm T1212.heap
    rw [hh]
    exact hC.trans (CHv.at X1212 hZ hEL hC.1)
def own_LS (p : Program) (l : Launch) (e : Env) (R : Room) (s : State) (m : MethodId) (args : Array Value) (below : List Frame) (meth : Method) (c : Code) (Z : State) (h0 : Heap) (n0 : Nat) (a0 a1 bd vb : Addr) (k1 kb : ClassId) (n : Int32) (T : State) (sg : own_Sg) : Prop :=
  ∃ (vm0 : Vm) (h : Heap) (L : List Loc) (cells slots k0 : Nat), Stand p l e R (s.setVm vm0) m args below meth c T L cells slots ∧ T.heap = h ∧ n0 ≤ h.size ∧ Fr n0 L ∧ Keep h0 h [a0, a1, bd, vb] ∧ s.Since vm0 k0 ∧ k0 ≤ h.size ∧ Z.Warmed39 (s.setVm vm0).vm ∧ (s.setVm vm0).vm.findClass "com/example/needle_in_json/needleinjson/MaskedDigits" = some m.cls ∧ CHr Z own_EL s.vm h0 vm0 h ∧ Old Z n0 h ∧ own_F Z h a0 a1 bd vb k1 kb n sg ∧ Safe Z own_EL vm0 h vb ∧ ((cells = 0 ∧ slots = 0) ∨ (cells = 2 ∧ slots = 20 ∧ own_LitV Z a0 a1 bd vb vm0 h))
set_option maxHeartbeats 40000000 in
theorem own_stepT (l : Launch) (Z : State) (ag : Array Value) (hw : ∀ d ∈ tables_1, d.before ag Z = true) {p : Program} {e : Env} {s : State} {m : MethodId} {args : Array Value} {below : List Frame} {meth : Method} {c : Code} (hx : p.tables.exec = Jvm.exec) (a0 a1 bd vb : Addr) (k1 kb : ClassId) (n : Int32) (cs : Int32) (gf : Value) (h0 : Heap) (n0 : Nat) (hN : own_Nn a0 a1 bd vb) (hG : own_G n0 a0 a1 bd vb) (S_cs : Sta Z Z.heap "java/lang/String" "COMPACT_STRINGS" "Z" (.int cs)) (hcs : ¬ cs = (0 : Int32)) (S_gf : Sta Z Z.heap "jdk/internal/util/Preconditions" "SIOOBE_FORMATTER" "Ljava/util/function/BiFunction;" gf) (rv_gf : gf.isRef = true) {T : State} {sg : own_Sg} {i : Int32} (hLS : own_LS p l e ({ frames := 6, cells := 2, slots := 20, locals := 100 } : Room) s m args below meth c Z h0 n0 a0 a1 bd vb k1 kb n T sg) (hi : ¬ i < 0 ∧ i < n) (hKk : own_Kk n sg) {pc0 : Nat} {Ls : Array Slot} (hsz : Ls.size = c.maxLocals) (hd : decode c.code pc0 = .ok (.invokevirtual 53, 3)) :
    ∃ T', own_LS p l e ({ frames := 6, cells := 2, slots := 20, locals := 100 } : Room) s m args below meth c Z h0 n0 a0 a1 bd vb k1 kb n T' (own_take i sg) ∧ ∀ target, Steps p.tables e below (T'.setTop (mkF m (pc0 + 3) Ls [])) target → Steps p.tables e below (T.setTop (mkF m pc0 Ls [.int i, .ref a1, .ref a0])) target := by
  obtain ⟨vm0, h, L, cells, slots, k0, X, e0, sz, N, kp, hS, hkS, hZ, hown, hC, hO, hF, hSv, hcl⟩ := hLS
  have hEL : EW Z ag own_EL := own_ew hw
  obtain ⟨E_a0, F_row, F_er, F_de, F_h, E_bd, F_v, F_c, F_n, V_vb, V_a1⟩ := id hF
  obtain ⟨ne_a0_a1, ne_a0_bd, ne_a0_vb, ne_a1_bd, ne_a1_vb, ne_bd_vb⟩ := id hN
  obtain ⟨ge_a0, ge_a1, ge_bd, ge_vb⟩ := id hG
  rcases hcl with ⟨rfl, rfl⟩ | ⟨rfl, rfl, la, lba, kl, hst, hns, hLit⟩
  · by_cases hnt : sg.2.1 < (0 : Int32) ∨ (sg.2.1 = (0 : Int32) ∧ ¬ (own_at sg.2.2.2.2.1 i) = (117 : Int32))
    · obtain ⟨cq1222, q1222, q1222'⟩ := E_a0.cell
      obtain ⟨_, _, ⟨T1222, L1222, k1222, n1222⟩, -, X1222, ⟨Lc1222, hQ1222, l1222, y1222, z1222⟩, st1222⟩ := X.privateBack hx (y := (⟨"com/example/needle_in_json/needleinjson/MaskedDigits", "take", "([CI)V"⟩ : MethodName)) hown (mvT hZ (own_wk hw 70 rfl)) (mvT hZ (own_wk hw 71 rfl)) (own_selp (ym := (⟨"com/example/needle_in_json/needleinjson/MaskedDigits", "mask", "([CII)V"⟩ : MethodName)) (mvT hZ (own_wk hw 53 rfl)) rfl (Cond.privateMethod_at (mvP hZ (own_wk hw 72 rfl) (args := #[]))) (mvT hZ (own_wk hw 71 rfl)) (by decide)) (Cond.privateMethod_at (mvP hZ (own_wk hw 72 rfl) (args := #[]))) (mvT hZ (own_wk hw 73 rfl)) (by decide) (backOf (W := 0) (rm14_n l Z ag hw [] a0 a1 i bd vb k1 kb n sg cs gf h n0 sz (show own_F Z h a0 a1 bd vb k1 kb n sg from ⟨E_a0, F_row, F_er, F_de, F_h, E_bd, F_v, F_c, F_n, V_vb, V_a1⟩) hN hG hO S_cs hcs S_gf rv_gf hi hKk hnt) hZ (own_wk hw 73 rfl) (own_wk hw 19 rfl) (by decide) (by decide)) (g := (mkF m pc0 Ls [(.int i), (.ref a1), (.ref a0)])) rfl hsz (Steps.refl _) (a := a0) (by rw [e0]; exact q1222) q1222' (argsL := [(.ref a1), (.int i)]) (rest := []) (lenOf pd_19 rfl) rfl (by show 2 * 0 + _ ≤ _; exact Nat.le_of_eq rfl) hd (fun _ _ => ⟨rfl, e0, (by decide : 0 + 0 ≤ _), (by decide : 0 + 0 ≤ _)⟩)
      dsimp only [Pt.U, Pt.locs, Pt.cells, Pt.slots] at X1222 l1222 y1222 z1222 st1222 hQ1222
      subst l1222 y1222 z1222
      obtain ⟨rfl, N1222q, K1222, F1222⟩ := hQ1222
      have N1222 := Fr.app N N1222q
      have x1223 := E_a0.keep K1222
      have x1224 := E_bd.keep K1222
      have x1225 := hO.keep K1222 (allS ge_a0 (allS ge_a1 (allS ge_bd (allS ge_vb all0))))
      have x1226 := Safe.keep K1222 (sfS (Safe.exa hZ.alike E_a0 (by decide) (by decide)) (sfS (Safe.arv hZ.alike V_a1 (by decide)) (sfS (Safe.exa hZ.alike E_bd (by decide) (by decide)) (sfS hSv sf0)))) hC.1 hSv
      have sz1227 : n0 ≤ T1222.heap.size := Nat.le_trans sz K1222.1
      have hkS := Nat.le_trans hkS K1222.1
      have hC := hC.trans (CHr.keep K1222 (sfS (Safe.exa hZ.alike E_a0 (by decide) (by decide)) (sfS (Safe.arv hZ.alike V_a1 (by decide)) (sfS (Safe.exa hZ.alike E_bd (by decide) (by decide)) (sfS hSv sf0)))) hC.1)
      have kp1228 : Keep h0 T1222.heap [a0, a1, bd, vb] := kp.trans K1222 (allS (Or.inl (List.mem_of_getElem? (i := 0) rfl)) (allS (Or.inl (List.mem_of_getElem? (i := 1) rfl)) (allS (Or.inl (List.mem_of_getElem? (i := 2) rfl)) (allS (Or.inl (List.mem_of_getElem? (i := 3) rfl)) all0))))
      obtain ⟨m1222_0, m1222_1, m1222_2, m1222_3, m1222_4, m1222_5, m1222_6, m1222_7, m1222_8, m1222_9, m1222_10⟩ := id F1222
      exact ⟨_, ⟨_, _, _, _, _, _, X1222, rfl, sz1227, N1222, kp1228, hS, hkS, hZ, hown, hC, x1225, ⟨m1222_0, m1222_1, m1222_2, m1222_3, m1222_4, m1222_5, m1222_6, m1222_7, m1222_8, m1222_9, m1222_10⟩, x1226, Or.inl ⟨rfl, rfl⟩⟩, fun target kt => st1222.trans kt⟩
    · have hge : ¬ sg.2.1 < 0 := fun q => hnt (Or.inl q)
      have hld : sg.2.1 = (0 : Int32) → (own_at sg.2.2.2.2.1 i) = (117 : Int32) := fun q => Classical.byContradiction fun z => hnt (Or.inr ⟨q, z⟩)
      obtain ⟨cq1229, q1229, q1229'⟩ := E_a0.cell
      obtain ⟨_, _, ⟨T1229, L1229, k1229, n1229⟩, -, X1229, hS2_1229, hg2_1229, ⟨Lc1229, hQ1229, l1229, y1229, z1229, hCs1229⟩, st1229⟩ := X.privateBackS hx (y := (⟨"com/example/needle_in_json/needleinjson/MaskedDigits", "take", "([CI)V"⟩ : MethodName)) hown (mvT hZ (own_wk hw 70 rfl)) (mvT hZ (own_wk hw 71 rfl)) (own_selp (ym := (⟨"com/example/needle_in_json/needleinjson/MaskedDigits", "mask", "([CII)V"⟩ : MethodName)) (mvT hZ (own_wk hw 53 rfl)) rfl (Cond.privateMethod_at (mvP hZ (own_wk hw 72 rfl) (args := #[]))) (mvT hZ (own_wk hw 71 rfl)) (by decide)) (Cond.privateMethod_at (mvP hZ (own_wk hw 72 rfl) (args := #[]))) (mvT hZ (own_wk hw 73 rfl)) (by decide) (own_backSL (W := 0) (rm14_l l Z ag hw [] a0 a1 i bd vb k1 kb n sg cs gf h n0 sz (show own_F Z h a0 a1 bd vb k1 kb n sg from ⟨E_a0, F_row, F_er, F_de, F_h, E_bd, F_v, F_c, F_n, V_vb, V_a1⟩) hN hG hO S_cs hcs S_gf rv_gf hi hKk hge hld) hZ (own_wk hw 73 rfl) (own_wk hw 19 rfl) (by decide) (by decide) hEL hC.1 V_vb.lt hSv) (g := (mkF m pc0 Ls [(.int i), (.ref a1), (.ref a0)])) rfl hsz (Steps.refl _) (a := a0) (by rw [e0]; exact q1229) q1229' (argsL := [(.ref a1), (.int i)]) (rest := []) (lenOf pd_19 rfl) rfl (by show 2 * 0 + _ ≤ _; exact Nat.le_of_eq rfl) hd (fun _ _ => ⟨rfl, e0, (by decide : 0 + 2 ≤ _), (by decide : 0 + 20 ≤ _)⟩)
      dsimp only [Pt.U, Pt.locs, Pt.cells, Pt.slots] at X1229 l1229 y1229 z1229 st1229 hQ1229 hS2_1229 hg2_1229 hCs1229
      subst l1229 y1229 z1229
      obtain ⟨X1229, hS, hZ, hown⟩ := rebS hS (by rw [e0]; exact hkS) X1229 hS2_1229 hg2_1229 hZ hown
      obtain ⟨hQ1229, la1229, lba1229, kl1229, hst1229, hns1229, hLit1229⟩ := hQ1229
      obtain ⟨rfl, N1229q, K1229, F1229⟩ := hQ1229
      have N1229 := Fr.app N N1229q
      have x1230 := E_a0.keep K1229
      have x1231 := E_bd.keep K1229
      have x1232 := hO.keep K1229 (allS ge_a0 (allS ge_a1 (allS ge_bd (allS ge_vb all0))))
      have x1233 := hCs1229.safe V_vb.lt hSv
      have sz1234 : n0 ≤ T1229.heap.size := Nat.le_trans sz K1229.1
      have hkS := Nat.le_trans hkS K1229.1
      have hC := hC.trans hCs1229
      have kp1235 : Keep h0 T1229.heap [a0, a1, bd, vb] := kp.trans K1229 (allS (Or.inl (List.mem_of_getElem? (i := 0) rfl)) (allS (Or.inl (List.mem_of_getElem? (i := 1) rfl)) (allS (Or.inl (List.mem_of_getElem? (i := 2) rfl)) (allS (Or.inl (List.mem_of_getElem? (i := 3) rfl)) all0))))
      obtain ⟨m1229_0, m1229_1, m1229_2, m1229_3, m1229_4, m1229_5, m1229_6, m1229_7, m1229_8, m1229_9, m1229_10⟩ := id F1229
      obtain ⟨El1229, Fl1229, Fm1229, Vl1229⟩ := id hst1229
      obtain ⟨nl1229_0, nl1229_1, nl1229_2, nl1229_3, nl1229_4, nl1229_5, nl1229_6, nl1229_7⟩ := id hns1229
      have hkS : T1229.heap.size ≤ T1229.heap.size := Nat.le_refl _
      exact ⟨_, ⟨_, _, _, _, _, _, X1229, rfl, sz1234, N1229, kp1235, hS, hkS, hZ, hown, hC, x1232, ⟨m1229_0, m1229_1, m1229_2, m1229_3, m1229_4, m1229_5, m1229_6, m1229_7, m1229_8, m1229_9, m1229_10⟩, x1233, Or.inr ⟨rfl, rfl, la1229, lba1229, kl1229, hst1229, hns1229, hLit1229⟩⟩, fun target kt => st1229.trans kt⟩
  · obtain ⟨E_la, F_lc, F_lv, V_lb⟩ := id hst
    obtain ⟨nl_0, nl_1, nl_2, nl_3, nl_4, nl_5, nl_6, nl_7⟩ := id hns
    by_cases hnt : sg.2.1 < (0 : Int32) ∨ (sg.2.1 = (0 : Int32) ∧ ¬ (own_at sg.2.2.2.2.1 i) = (117 : Int32))
    · obtain ⟨cq1236, q1236, q1236'⟩ := E_a0.cell
      obtain ⟨_, _, ⟨T1236, L1236, k1236, n1236⟩, -, X1236, ⟨Lc1236, hQ1236, l1236, y1236, z1236⟩, st1236⟩ := X.privateBack hx (y := (⟨"com/example/needle_in_json/needleinjson/MaskedDigits", "take", "([CI)V"⟩ : MethodName)) hown (mvT hZ (own_wk hw 70 rfl)) (mvT hZ (own_wk hw 71 rfl)) (own_selp (ym := (⟨"com/example/needle_in_json/needleinjson/MaskedDigits", "mask", "([CII)V"⟩ : MethodName)) (mvT hZ (own_wk hw 53 rfl)) rfl (Cond.privateMethod_at (mvP hZ (own_wk hw 72 rfl) (args := #[]))) (mvT hZ (own_wk hw 71 rfl)) (by decide)) (Cond.privateMethod_at (mvP hZ (own_wk hw 72 rfl) (args := #[]))) (mvT hZ (own_wk hw 73 rfl)) (by decide) (backOf (W := 0) (rm14_n l Z ag hw [] a0 a1 i bd vb k1 kb n sg cs gf h n0 sz (show own_F Z h a0 a1 bd vb k1 kb n sg from ⟨E_a0, F_row, F_er, F_de, F_h, E_bd, F_v, F_c, F_n, V_vb, V_a1⟩) hN hG hO S_cs hcs S_gf rv_gf hi hKk hnt) hZ (own_wk hw 73 rfl) (own_wk hw 19 rfl) (by decide) (by decide)) (g := (mkF m pc0 Ls [(.int i), (.ref a1), (.ref a0)])) rfl hsz (Steps.refl _) (a := a0) (by rw [e0]; exact q1236) q1236' (argsL := [(.ref a1), (.int i)]) (rest := []) (lenOf pd_19 rfl) rfl (by show 2 * 0 + _ ≤ _; exact Nat.le_of_eq rfl) hd (fun _ _ => ⟨rfl, e0, (by decide : 2 + 0 ≤ _), (by decide : 20 + 0 ≤ _)⟩)
      dsimp only [Pt.U, Pt.locs, Pt.cells, Pt.slots] at X1236 l1236 y1236 z1236 st1236 hQ1236
      subst l1236 y1236 z1236
      obtain ⟨rfl, N1236q, K1236, F1236⟩ := hQ1236
      have N1236 := Fr.app N N1236q
      have x1237 := E_a0.keep K1236
      have x1238 := E_bd.keep K1236
      have x1239 := hO.keep K1236 (allS ge_a0 (allS ge_a1 (allS ge_bd (allS ge_vb all0))))
      have x1240 := Safe.keep K1236 (sfS (Safe.exa hZ.alike E_a0 (by decide) (by decide)) (sfS (Safe.arv hZ.alike V_a1 (by decide)) (sfS (Safe.exa hZ.alike E_bd (by decide) (by decide)) (sfS hSv sf0)))) hC.1 hSv
      have x1241 := E_la.keep K1236
      have x1242 := F_lc.keep K1236 (ninS (Ne.symm nl_0) (ninS (Ne.symm nl_1) (ninS (Ne.symm nl_2) (ninS (Ne.symm nl_3) nin0))))
      have x1243 := F_lv.keep K1236 (ninS (Ne.symm nl_0) (ninS (Ne.symm nl_1) (ninS (Ne.symm nl_2) (ninS (Ne.symm nl_3) nin0))))
      have x1244 := V_lb.keep K1236 (ninS (Ne.symm nl_4) (ninS (Ne.symm nl_5) (ninS (Ne.symm nl_6) (ninS (Ne.symm nl_7) nin0))))
      have sz1245 : n0 ≤ T1236.heap.size := Nat.le_trans sz K1236.1
      have hkS := Nat.le_trans hkS K1236.1
      have hC := hC.trans (CHr.keep K1236 (sfS (Safe.exa hZ.alike E_a0 (by decide) (by decide)) (sfS (Safe.arv hZ.alike V_a1 (by decide)) (sfS (Safe.exa hZ.alike E_bd (by decide) (by decide)) (sfS hSv sf0)))) hC.1)
      have kp1246 : Keep h0 T1236.heap [a0, a1, bd, vb] := kp.trans K1236 (allS (Or.inl (List.mem_of_getElem? (i := 0) rfl)) (allS (Or.inl (List.mem_of_getElem? (i := 1) rfl)) (allS (Or.inl (List.mem_of_getElem? (i := 2) rfl)) (allS (Or.inl (List.mem_of_getElem? (i := 3) rfl)) all0))))
      obtain ⟨m1236_0, m1236_1, m1236_2, m1236_3, m1236_4, m1236_5, m1236_6, m1236_7, m1236_8, m1236_9, m1236_10⟩ := id F1236
      exact ⟨_, ⟨_, _, _, _, _, _, X1236, rfl, sz1245, N1236, kp1246, hS, hkS, hZ, hown, hC, x1239, ⟨m1236_0, m1236_1, m1236_2, m1236_3, m1236_4, m1236_5, m1236_6, m1236_7, m1236_8, m1236_9, m1236_10⟩, x1240, Or.inr ⟨rfl, rfl, la, lba, kl, ⟨x1241, x1242, x1243, x1244⟩, hns, hLit⟩⟩, fun target kt => st1236.trans kt⟩
    · have hge : ¬ sg.2.1 < 0 := fun q => hnt (Or.inl q)
      have hld : sg.2.1 = (0 : Int32) → (own_at sg.2.2.2.2.1 i) = (117 : Int32) := fun q => Classical.byContradiction fun z => hnt (Or.inr ⟨q, z⟩)
      obtain ⟨cq1247, q1247, q1247'⟩ := E_a0.cell
      obtain ⟨_, _, ⟨T1247, L1247, k1247, n1247⟩, -, X1247, ⟨Lc1247, hQ1247, l1247, y1247, z1247⟩, st1247⟩ := X.privateBack hx (y := (⟨"com/example/needle_in_json/needleinjson/MaskedDigits", "take", "([CI)V"⟩ : MethodName)) hown (mvT hZ (own_wk hw 70 rfl)) (mvT hZ (own_wk hw 71 rfl)) (own_selp (ym := (⟨"com/example/needle_in_json/needleinjson/MaskedDigits", "mask", "([CII)V"⟩ : MethodName)) (mvT hZ (own_wk hw 53 rfl)) rfl (Cond.privateMethod_at (mvP hZ (own_wk hw 72 rfl) (args := #[]))) (mvT hZ (own_wk hw 71 rfl)) (by decide)) (Cond.privateMethod_at (mvP hZ (own_wk hw 72 rfl) (args := #[]))) (mvT hZ (own_wk hw 73 rfl)) (by decide) (own_backL (W := 0) (rm14_r l Z ag hw [] a0 a1 i bd vb k1 kb n sg cs gf la lba kl h n0 sz (show own_F Z h a0 a1 bd vb k1 kb n sg from ⟨E_a0, F_row, F_er, F_de, F_h, E_bd, F_v, F_c, F_n, V_vb, V_a1⟩) hN hG hO S_cs hcs S_gf rv_gf hi hKk hge hld hst) hZ (own_wk hw 73 rfl) (own_wk hw 19 rfl) (by decide) (by decide) (show Lit (s.setVm vm0) "com/example/needle_in_json/needleinjson/MaskedDigits" 80 la from hLit)) (g := (mkF m pc0 Ls [(.int i), (.ref a1), (.ref a0)])) rfl hsz (Steps.refl _) (a := a0) (by rw [e0]; exact q1247) q1247' (argsL := [(.ref a1), (.int i)]) (rest := []) (lenOf pd_19 rfl) rfl (by show 2 * 0 + _ ≤ _; exact Nat.le_of_eq rfl) hd (fun _ _ => ⟨rfl, e0, (by decide : 2 + 0 ≤ _), (by decide : 20 + 0 ≤ _)⟩)
      dsimp only [Pt.U, Pt.locs, Pt.cells, Pt.slots] at X1247 l1247 y1247 z1247 st1247 hQ1247
      subst l1247 y1247 z1247
      obtain ⟨rfl, N1247q, K1247, F1247⟩ := hQ1247
      have N1247 := Fr.app N N1247q
      have x1248 := E_a0.keep K1247
      have x1249 := E_bd.keep K1247
      have x1250 := hO.keep K1247 (allS ge_a0 (allS ge_a1 (allS ge_bd (allS ge_vb all0))))
      have x1251 := Safe.keep K1247 (sfS (Safe.exa hZ.alike E_a0 (by decide) (by decide)) (sfS (Safe.arv hZ.alike V_a1 (by decide)) (sfS (Safe.exa hZ.alike E_bd (by decide) (by decide)) (sfS hSv sf0)))) hC.1 hSv
      have x1252 := E_la.keep K1247
      have x1253 := F_lc.keep K1247 (ninS (Ne.symm nl_0) (ninS (Ne.symm nl_1) (ninS (Ne.symm nl_2) (ninS (Ne.symm nl_3) nin0))))
      have x1254 := F_lv.keep K1247 (ninS (Ne.symm nl_0) (ninS (Ne.symm nl_1) (ninS (Ne.symm nl_2) (ninS (Ne.symm nl_3) nin0))))
      have x1255 := V_lb.keep K1247 (ninS (Ne.symm nl_4) (ninS (Ne.symm nl_5) (ninS (Ne.symm nl_6) (ninS (Ne.symm nl_7) nin0))))
      have sz1256 : n0 ≤ T1247.heap.size := Nat.le_trans sz K1247.1
      have hkS := Nat.le_trans hkS K1247.1
      have hC := hC.trans (CHr.keep K1247 (sfS (Safe.exa hZ.alike E_a0 (by decide) (by decide)) (sfS (Safe.arv hZ.alike V_a1 (by decide)) (sfS (Safe.exa hZ.alike E_bd (by decide) (by decide)) (sfS hSv sf0)))) hC.1)
      have kp1257 : Keep h0 T1247.heap [a0, a1, bd, vb] := kp.trans K1247 (allS (Or.inl (List.mem_of_getElem? (i := 0) rfl)) (allS (Or.inl (List.mem_of_getElem? (i := 1) rfl)) (allS (Or.inl (List.mem_of_getElem? (i := 2) rfl)) (allS (Or.inl (List.mem_of_getElem? (i := 3) rfl)) all0))))
      obtain ⟨m1247_0, m1247_1, m1247_2, m1247_3, m1247_4, m1247_5, m1247_6, m1247_7, m1247_8, m1247_9, m1247_10⟩ := id F1247
      exact ⟨_, ⟨_, _, _, _, _, _, X1247, rfl, sz1256, N1247, kp1257, hS, hkS, hZ, hown, hC, x1250, ⟨m1247_0, m1247_1, m1247_2, m1247_3, m1247_4, m1247_5, m1247_6, m1247_7, m1247_8, m1247_9, m1247_10⟩, x1251, Or.inr ⟨rfl, rfl, la, lba, kl, ⟨x1252, x1253, x1254, x1255⟩, hns, hLit⟩⟩, fun target kt => st1247.trans kt⟩
theorem own_le2 {cells slots : Nat} {P : Prop} (h : (cells = 0 ∧ slots = 0) ∨ (cells = 2 ∧ slots = 20 ∧ P)) : cells ≤ 2 ∧ slots ≤ 20 := by rcases h with ⟨rfl, rfl⟩ | ⟨rfl, rfl, -⟩ <;> exact ⟨by decide, by decide⟩
theorem own_r1 {b4 r n : Int32} (h : own_rg b4 r n) (q : b4 < r) : (¬ r - (1 : Int32) < 0 ∧ r - (1 : Int32) < n) ∧ own_rg b4 (r + (Int32.ofInt (-1))) n ∧ (r + (Int32.ofInt (-1))).toInt = r.toInt - 1 := by
  obtain ⟨h1, h2, h3, h4⟩ := id h
  rw [Int32.lt_iff_toInt_lt] at q
  have z1 : (1 : Int32).toInt = 1 := rfl
  have e : (r + (Int32.ofInt (-1))).toInt = r.toInt - 1 := by
    rw [Int32.toInt_add]
    have zm : (Int32.ofInt (-1)).toInt = -1 := by decide +kernel
    rw [zm]; exact Int.bmod_eq_of_le (by omega) (by omega)
  have e2 : (r - (1 : Int32)).toInt = r.toInt - 1 := by rw [Int32.toInt_sub, z1]; exact Int.bmod_eq_of_le (by omega) (by omega)
  exact ⟨h.ix ⟨by rw [z1]; omega, by rw [z1]; omega⟩ (by rw [Int32.lt_iff_toInt_lt, e2]; omega), ⟨h1, by omega, by omega, h4⟩, e⟩
theorem own_rf {x y b : Int} {f : Nat} (he : y = x - 1) (hf : x - b ≤ ((f + 1 : Nat) : Int)) : y - b ≤ (f : Int) := by omega
theorem own_nl {a b : Int32} {f : Nat} (h : b.toInt - a.toInt ≤ (f : Int)) (z : f = 0) : ¬ a < b := by rw [Int32.lt_iff_toInt_lt]; omega
theorem own_i1 {i lim n : Int32} (h : own_rg i lim n) (q : i < lim) : (¬ i < 0 ∧ i < n) ∧ own_rg (i + (1 : Int32)) lim n ∧ (i + (1 : Int32)).toInt = i.toInt + 1 := by
  obtain ⟨h1, h2, h3, h4⟩ := id h
  rw [Int32.lt_iff_toInt_lt] at q
  have e := own_add1 (x := i) (k := 24) h1 (by omega) (by omega)
  have z0 : (0 : Int32).toInt = 0 := rfl
  exact ⟨⟨by rw [Int32.lt_iff_toInt_lt, z0]; omega, by rw [Int32.lt_iff_toInt_lt]; omega⟩, ⟨by omega, by omega, h3, h4⟩, e⟩
theorem own_ieq {i lim n : Int32} (h : own_rg i lim n) (q : ¬ i < lim) : i = lim := by
  rw [Int32.lt_iff_toInt_lt] at q
  exact Int32.toInt_inj.mp (by have := h.2.1; omega)
theorem own_J.kk {nn c0 k : Nat} {n : Int32} {sg : own_Sg} (h : own_J nn c0 k sg) (hn : nn = n.toNatClampNeg) (hk : c0 + (k - 19) < 16) : own_Kk n sg := by
  obtain ⟨h1, h2, h3, h4, h5, h6⟩ := h
  exact ⟨⟨by omega, by omega⟩, h6, h5.trans hn⟩
abbrev own_d9 (p : Nat) (i : Instr) (n : Nat) : Prop := decode prog_32_method_5_code p = .ok (i, n)
theorem d9_83 : own_d9 83 (.iload 7) 2 := by decide +kernel
theorem d9_85 : own_d9 85 (.iload 4) 2 := by decide +kernel
theorem d9_87 : own_d9 87 (.if_icmp .le 21) 3 := by decide +kernel
theorem d9_90 : own_d9 90 (.aload_n 1) 1 := by decide +kernel
theorem d9_91 : own_d9 91 (.iload 7) 2 := by decide +kernel
theorem d9_93 : own_d9 93 (.iconst 1) 1 := by decide +kernel
theorem d9_94 : own_d9 94 .isub 1 := by decide +kernel
theorem d9_95 : own_d9 95 .caload 1 := by decide +kernel
theorem d9_96 : own_d9 96 (.invokestatic 67) 3 := by decide +kernel
theorem d9_99 : own_d9 99 (.ifCond .eq 9) 3 := by decide +kernel
theorem d9_102 : own_d9 102 (.iinc 7 (-1)) 3 := by decide +kernel
theorem d9_105 : own_d9 105 (.goto (-22)) 3 := by decide +kernel
set_option maxHeartbeats 40000000 in
theorem own_runL (l : Launch) (Z : State) (ag : Array Value) (hw : ∀ d ∈ tables_1, d.before ag Z = true) {p : Program} {e : Env} {s : State} {m : MethodId} {args : Array Value} {below : List Frame} {meth : Method} {c : Code} (hx : p.tables.exec = Jvm.exec) (a0 a1 bd vb : Addr) (k1 kb : ClassId) (n : Int32) (cs : Int32) (gf : Value) (h0 : Heap) (n0 : Nat) (hN : own_Nn a0 a1 bd vb) (hG : own_G n0 a0 a1 bd vb) (S_cs : Sta Z Z.heap "java/lang/String" "COMPACT_STRINGS" "Z" (.int cs)) (hcs : ¬ cs = (0 : Int32)) (S_gf : Sta Z Z.heap "jdk/internal/util/Preconditions" "SIOOBE_FORMATTER" "Ljava/util/function/BiFunction;" gf) (rv_gf : gf.isRef = true) (hml : c.maxLocals = 10) (hby : c.code = prog_32_method_5_code) {f0 tt b4 b5 b6 : Int32} {x8 x9 : Slot} {sg : own_Sg} : ∀ (f : Nat) (r : Int32) (T : State), own_LS p l e ({ frames := 6, cells := 2, slots := 20, locals := 100 } : Room) s m args below meth c Z h0 n0 a0 a1 bd vb k1 kb n T sg → own_rg b4 r n → r.toInt - b4.toInt ≤ (f : Int) → ∃ T', own_LS p l e ({ frames := 6, cells := 2, slots := 20, locals := 100 } : Room) s m args below meth c Z h0 n0 a0 a1 bd vb k1 kb n T' sg ∧ ∀ target, Steps p.tables e below (T'.setTop (mkF m 108 #[.val (.ref a0), .val (.ref a1), .val (.int f0), .val (.int tt), .val (.int b4), .val (.int b5), .val (.int b6), .val (.int (own_run sg.2.2.2.2.1 b4 f r)), x8, x9] [])) target → Steps p.tables e below (T.setTop (mkF m 83 #[.val (.ref a0), .val (.ref a1), .val (.int f0), .val (.int tt), .val (.int b4), .val (.int b5), .val (.int b6), .val (.int r), x8, x9] [])) target := by
  intro f
  induction f with
  | zero =>
    intro r T hLS hrg hf
    obtain ⟨hr1, hr2, hr3, hr4⟩ := id hrg
    have hc : ¬ b4 < r := own_nl hf rfl
    refine ⟨T, hLS, fun target kt => ?_⟩
    obtain ⟨vm0, h, L, cells, slots, k0, X, e0, sz, N, kp, hS, hkS, hZ, hown, hC, hO, hF, hSv, hcl⟩ := hLS
    have hEL : EW Z ag own_EL := own_ew hw
    obtain ⟨E_a0, F_row, F_er, F_de, F_h, E_bd, F_v, F_c, F_n, V_vb, V_a1⟩ := id hF
    obtain ⟨ne_a0_a1, ne_a0_bd, ne_a0_vb, ne_a1_bd, ne_a1_vb, ne_bd_vb⟩ := id hN
    obtain ⟨ge_a0, ge_a1, ge_bd, ge_vb⟩ := id hG
    show own_S p e below T (mkF m 83 #[.val (.ref a0), .val (.ref a1), .val (.int f0), .val (.int tt), .val (.int b4), .val (.int b5), .val (.int b6), .val (.int r), x8, x9] []) _
    refine XS.iload X.here hx rfl (hb hby d9_83) rfl ?_
    refine XS.iload X.here hx rfl (hb hby d9_85) rfl ?_
    refine XS.icmpYes X.here hx rfl (pc0 := 87) (pc' := 108) rfl (hb hby d9_87) rfl (flt (show ¬ (b4 < r) from hc)).2.2.2 (by decide) (by decide) ?_
    exact kt
  | succ f ih =>
    intro r T hLS hrg hf
    obtain ⟨hr1, hr2, hr3, hr4⟩ := id hrg
    by_cases hc : b4 < r
    · have hLS0 := hLS
      obtain ⟨vm0, h, L, cells, slots, k0, X, e0, sz, N, kp, hS, hkS, hZ, hown, hC, hO, hF, hSv, hcl⟩ := hLS
      have hEL : EW Z ag own_EL := own_ew hw
      obtain ⟨E_a0, F_row, F_er, F_de, F_h, E_bd, F_v, F_c, F_n, V_vb, V_a1⟩ := id hF
      obtain ⟨ne_a0_a1, ne_a0_bd, ne_a0_vb, ne_a1_bd, ne_a1_vb, ne_bd_vb⟩ := id hN
      obtain ⟨ge_a0, ge_a1, ge_bd, ge_vb⟩ := id hG
      by_cases hm : own_may (own_at sg.2.2.2.2.1 (r - (1 : Int32))) = (0 : Int32)
      · obtain ⟨cl1258, Ar1258, q1258, S1258, M1258, H1258, G1258⟩ := id V_a1
        have hin1258 : ¬ ((r - (1 : Int32)) < 0 ∨ cl1258.slots.size ≤ ((r - (1 : Int32))).toNatClampNeg) := inb_of S1258 (own_r1 hrg hc).1
        have hat1258 : cl1258.slots[((r - (1 : Int32))).toNatClampNeg]? = some (.int (own_at sg.2.2.2.2.1 (r - (1 : Int32)))) := Has.at H1258 hin1258 (own_mg sg.2.2.2.2.1 (r - (1 : Int32)))
        have ld1258 := X.caload hx (j := (r - (1 : Int32))) (v := (.int (own_at sg.2.2.2.2.1 (r - (1 : Int32))))) (by rw [e0]; exact Ar1258.1) (State.isArrayOf_alike hZ.alike Ar1258.2.1) Ar1258.2.2 hin1258 hat1258 (g := (mkF m 95 #[.val (.ref a0), .val (.ref a1), .val (.int f0), .val (.int tt), .val (.int b4), .val (.int b5), .val (.int b6), .val (.int r), x8, x9] [(.int (r - (1 : Int32))), (.ref a1)])) rfl rfl (hb hby d9_95)
        obtain ⟨_, _, ⟨T1259, L1259, k1259, n1259⟩, -, X1259, ⟨Lc1259, hQ1259, l1259, y1259, z1259⟩, st1259⟩ := Jvm.LawKit.callS X hx (y := (⟨"com/example/needle_in_json/needleinjson/MaskedDigits", "mayStandForDigit", "(C)Z"⟩ : MethodName)) hown (mvT hZ (own_wk hw 61 rfl)) (mvT hZ (own_wk hw 62 rfl)) (mvT hZ (own_wk hw 19 rfl)) (mvT hZ (own_wk hw 63 rfl)) (by decide) (backOf (W := 0) (rm11 l Z ag hw [] (own_at sg.2.2.2.2.1 (r - (1 : Int32)))  h n0 sz ) hZ (own_wk hw 63 rfl) (own_wk hw 19 rfl) (by decide) (by decide)) (g := (mkF m 96 #[.val (.ref a0), .val (.ref a1), .val (.int f0), .val (.int tt), .val (.int b4), .val (.int b5), .val (.int b6), .val (.int r), x8, x9] [(.int (own_at sg.2.2.2.2.1 (r - (1 : Int32))))])) rfl (by rw [hml]; rfl) (argsL := [(.int (own_at sg.2.2.2.2.1 (r - (1 : Int32))))]) (rest := []) (lenOf pd_6 rfl) rfl (by show 2 * 0 + _ ≤ _; exact Nat.le_of_eq rfl) (hb hby d9_96) (fun _ _ => ⟨rfl, e0, (own_le2 hcl).1, (own_le2 hcl).2⟩)
        dsimp only [Pt.U, Pt.locs, Pt.cells, Pt.slots] at X1259 l1259 y1259 z1259 st1259 hQ1259
        subst l1259 y1259 z1259
        obtain ⟨rfl, N1259q, e1259⟩ := hQ1259
        have N1259 := Fr.app N N1259q
        refine ⟨_, ⟨_, _, _, _, _, _, X1259, e1259, sz, N1259, kp, hS, hkS, hZ, hown, hC, hO, ⟨E_a0, F_row, F_er, F_de, F_h, E_bd, F_v, F_c, F_n, V_vb, V_a1⟩, hSv, hcl⟩, fun target kt => ?_⟩
        rw [show own_run sg.2.2.2.2.1 b4 (f + 1) r = r from (if_pos hc).trans (if_pos hm)] at kt
        show own_S p e below T (mkF m 83 #[.val (.ref a0), .val (.ref a1), .val (.int f0), .val (.int tt), .val (.int b4), .val (.int b5), .val (.int b6), .val (.int r), x8, x9] []) _
        refine XS.iload X.here hx rfl (hb hby d9_83) rfl ?_
        refine XS.iload X.here hx rfl (hb hby d9_85) rfl ?_
        refine XS.icmpNo X.here hx rfl (hb hby d9_87) rfl (tlt (show b4 < r from hc)).2.2.2 ?_
        show own_S p e below T (mkF m 90 #[.val (.ref a0), .val (.ref a1), .val (.int f0), .val (.int tt), .val (.int b4), .val (.int b5), .val (.int b6), .val (.int r), x8, x9] []) _
        refine XS.aloadN X.here hx rfl (hb hby d9_90) rfl rfl ?_
        refine XS.iload X.here hx rfl (hb hby d9_91) rfl ?_
        refine XS.iconst X.here hx rfl (hb hby d9_93) ?_
        refine XS.isub X.here hx rfl (hb hby d9_94) rfl ?_
        show own_S p e below T (mkF m 95 #[.val (.ref a0), .val (.ref a1), .val (.int f0), .val (.int tt), .val (.int b4), .val (.int b5), .val (.int b6), .val (.int r), x8, x9] [(.int (r - (1 : Int32))), (.ref a1)]) _
        refine ld1258 _ ?_
        show own_S p e below T (mkF m 96 #[.val (.ref a0), .val (.ref a1), .val (.int f0), .val (.int tt), .val (.int b4), .val (.int b5), .val (.int b6), .val (.int r), x8, x9] [(.int (own_at sg.2.2.2.2.1 (r - (1 : Int32))))]) _
        refine st1259 _ ?_
        show own_S p e below T1259 (mkF m 99 #[.val (.ref a0), .val (.ref a1), .val (.int f0), .val (.int tt), .val (.int b4), .val (.int b5), .val (.int b6), .val (.int r), x8, x9] [(.int (own_may (own_at sg.2.2.2.2.1 (r - (1 : Int32)))))]) _
        refine XS.ifYes X1259.here hx rfl (pc0 := 99) (pc' := 108) rfl (hb hby d9_99) rfl ((if0 _ _).trans (teq (show (own_may (own_at sg.2.2.2.2.1 (r - (1 : Int32)))) = (0 : Int32) from hm)).1) (by decide) (by decide) ?_
        exact kt
      · obtain ⟨cl1260, Ar1260, q1260, S1260, M1260, H1260, G1260⟩ := id V_a1
        have hin1260 : ¬ ((r - (1 : Int32)) < 0 ∨ cl1260.slots.size ≤ ((r - (1 : Int32))).toNatClampNeg) := inb_of S1260 (own_r1 hrg hc).1
        have hat1260 : cl1260.slots[((r - (1 : Int32))).toNatClampNeg]? = some (.int (own_at sg.2.2.2.2.1 (r - (1 : Int32)))) := Has.at H1260 hin1260 (own_mg sg.2.2.2.2.1 (r - (1 : Int32)))
        have ld1260 := X.caload hx (j := (r - (1 : Int32))) (v := (.int (own_at sg.2.2.2.2.1 (r - (1 : Int32))))) (by rw [e0]; exact Ar1260.1) (State.isArrayOf_alike hZ.alike Ar1260.2.1) Ar1260.2.2 hin1260 hat1260 (g := (mkF m 95 #[.val (.ref a0), .val (.ref a1), .val (.int f0), .val (.int tt), .val (.int b4), .val (.int b5), .val (.int b6), .val (.int r), x8, x9] [(.int (r - (1 : Int32))), (.ref a1)])) rfl rfl (hb hby d9_95)
        obtain ⟨_, _, ⟨T1261, L1261, k1261, n1261⟩, -, X1261, ⟨Lc1261, hQ1261, l1261, y1261, z1261⟩, st1261⟩ := Jvm.LawKit.callS X hx (y := (⟨"com/example/needle_in_json/needleinjson/MaskedDigits", "mayStandForDigit", "(C)Z"⟩ : MethodName)) hown (mvT hZ (own_wk hw 61 rfl)) (mvT hZ (own_wk hw 62 rfl)) (mvT hZ (own_wk hw 19 rfl)) (mvT hZ (own_wk hw 63 rfl)) (by decide) (backOf (W := 0) (rm11 l Z ag hw [] (own_at sg.2.2.2.2.1 (r - (1 : Int32)))  h n0 sz ) hZ (own_wk hw 63 rfl) (own_wk hw 19 rfl) (by decide) (by decide)) (g := (mkF m 96 #[.val (.ref a0), .val (.ref a1), .val (.int f0), .val (.int tt), .val (.int b4), .val (.int b5), .val (.int b6), .val (.int r), x8, x9] [(.int (own_at sg.2.2.2.2.1 (r - (1 : Int32))))])) rfl (by rw [hml]; rfl) (argsL := [(.int (own_at sg.2.2.2.2.1 (r - (1 : Int32))))]) (rest := []) (lenOf pd_6 rfl) rfl (by show 2 * 0 + _ ≤ _; exact Nat.le_of_eq rfl) (hb hby d9_96) (fun _ _ => ⟨rfl, e0, (own_le2 hcl).1, (own_le2 hcl).2⟩)
        dsimp only [Pt.U, Pt.locs, Pt.cells, Pt.slots] at X1261 l1261 y1261 z1261 st1261 hQ1261
        subst l1261 y1261 z1261
        obtain ⟨rfl, N1261q, e1261⟩ := hQ1261
        have N1261 := Fr.app N N1261q
        obtain ⟨hi1, hrg1, he1⟩ := own_r1 hrg hc
        obtain ⟨T', hLS', sT⟩ := ih (r + (Int32.ofInt (-1))) T1261 ⟨_, _, _, _, _, _, X1261, e1261, sz, N1261, kp, hS, hkS, hZ, hown, hC, hO, ⟨E_a0, F_row, F_er, F_de, F_h, E_bd, F_v, F_c, F_n, V_vb, V_a1⟩, hSv, hcl⟩ hrg1 (own_rf he1 hf)
        refine ⟨T', hLS', fun target kt => ?_⟩
        rw [show own_run sg.2.2.2.2.1 b4 (f + 1) r = own_run sg.2.2.2.2.1 b4 f (r + (Int32.ofInt (-1))) from (if_pos hc).trans (if_neg hm)] at kt
        have kt := sT target kt
        show own_S p e below T (mkF m 83 #[.val (.ref a0), .val (.ref a1), .val (.int f0), .val (.int tt), .val (.int b4), .val (.int b5), .val (.int b6), .val (.int r), x8, x9] []) _
        refine XS.iload X.here hx rfl (hb hby d9_83) rfl ?_
        refine XS.iload X.here hx rfl (hb hby d9_85) rfl ?_
        refine XS.icmpNo X.here hx rfl (hb hby d9_87) rfl (tlt (show b4 < r from hc)).2.2.2 ?_
        show own_S p e below T (mkF m 90 #[.val (.ref a0), .val (.ref a1), .val (.int f0), .val (.int tt), .val (.int b4), .val (.int b5), .val (.int b6), .val (.int r), x8, x9] []) _
        refine XS.aloadN X.here hx rfl (hb hby d9_90) rfl rfl ?_
        refine XS.iload X.here hx rfl (hb hby d9_91) rfl ?_
        refine XS.iconst X.here hx rfl (hb hby d9_93) ?_
        refine XS.isub X.here hx rfl (hb hby d9_94) rfl ?_
        show own_S p e below T (mkF m 95 #[.val (.ref a0), .val (.ref a1), .val (.int f0), .val (.int tt), .val (.int b4), .val (.int b5), .val (.int b6), .val (.int r), x8, x9] [(.int (r - (1 : Int32))), (.ref a1)]) _
        refine ld1260 _ ?_
        show own_S p e below T (mkF m 96 #[.val (.ref a0), .val (.ref a1), .val (.int f0), .val (.int tt), .val (.int b4), .val (.int b5), .val (.int b6), .val (.int r), x8, x9] [(.int (own_at sg.2.2.2.2.1 (r - (1 : Int32))))]) _
        refine st1261 _ ?_
        show own_S p e below T1261 (mkF m 99 #[.val (.ref a0), .val (.ref a1), .val (.int f0), .val (.int tt), .val (.int b4), .val (.int b5), .val (.int b6), .val (.int r), x8, x9] [(.int (own_may (own_at sg.2.2.2.2.1 (r - (1 : Int32)))))]) _
        refine XS.ifNo X1261.here hx rfl (hb hby d9_99) rfl ((if0 _ _).trans (feq (show ¬ ((own_may (own_at sg.2.2.2.2.1 (r - (1 : Int32)))) = (0 : Int32)) from hm)).1) ?_
        show own_S p e below T1261 (mkF m 102 #[.val (.ref a0), .val (.ref a1), .val (.int f0), .val (.int tt), .val (.int b4), .val (.int b5), .val (.int b6), .val (.int r), x8, x9] []) _
        refine XS.iinc X1261.here hx rfl (hb hby d9_102) rfl (l' := #[.val (.ref a0), .val (.ref a1), .val (.int f0), .val (.int tt), .val (.int b4), .val (.int b5), .val (.int b6), .val (.int (r + (Int32.ofInt (-1)))), x8, x9]) rfl ?_
        show own_S p e below T1261 (mkF m 105 #[.val (.ref a0), .val (.ref a1), .val (.int f0), .val (.int tt), .val (.int b4), .val (.int b5), .val (.int b6), .val (.int (r + (Int32.ofInt (-1)))), x8, x9] []) _
        refine XS.goto X1261.here hx rfl (pc0 := 105) (pc' := 83) rfl (hb hby d9_105) (by decide) (by decide) ?_
        exact kt
    · refine ⟨T, hLS, fun target kt => ?_⟩
      obtain ⟨vm0, h, L, cells, slots, k0, X, e0, sz, N, kp, hS, hkS, hZ, hown, hC, hO, hF, hSv, hcl⟩ := hLS
      have hEL : EW Z ag own_EL := own_ew hw
      obtain ⟨E_a0, F_row, F_er, F_de, F_h, E_bd, F_v, F_c, F_n, V_vb, V_a1⟩ := id hF
      obtain ⟨ne_a0_a1, ne_a0_bd, ne_a0_vb, ne_a1_bd, ne_a1_vb, ne_bd_vb⟩ := id hN
      obtain ⟨ge_a0, ge_a1, ge_bd, ge_vb⟩ := id hG
      rw [show own_run sg.2.2.2.2.1 b4 (f + 1) r = r from if_neg hc] at kt
      show own_S p e below T (mkF m 83 #[.val (.ref a0), .val (.ref a1), .val (.int f0), .val (.int tt), .val (.int b4), .val (.int b5), .val (.int b6), .val (.int r), x8, x9] []) _
      refine XS.iload X.here hx rfl (hb hby d9_83) rfl ?_
      refine XS.iload X.here hx rfl (hb hby d9_85) rfl ?_
      refine XS.icmpYes X.here hx rfl (pc0 := 87) (pc' := 108) rfl (hb hby d9_87) rfl (flt (show ¬ (b4 < r) from hc)).2.2.2 (by decide) (by decide) ?_
      exact kt
theorem d9_132 : own_d9 132 (.iload 9) 2 := by decide +kernel
theorem d9_134 : own_d9 134 (.iload 6) 2 := by decide +kernel
theorem d9_136 : own_d9 136 (.if_icmp .ge 16) 3 := by decide +kernel
theorem d9_139 : own_d9 139 (.aload_n 0) 1 := by decide +kernel
theorem d9_140 : own_d9 140 (.aload_n 1) 1 := by decide +kernel
theorem d9_141 : own_d9 141 (.iload 9) 2 := by decide +kernel
theorem d9_146 : own_d9 146 (.iinc 9 1) 3 := by decide +kernel
theorem d9_149 : own_d9 149 (.goto (-17)) 3 := by decide +kernel
theorem d9_143 : own_d9 143 (.invokevirtual 53) 3 := by decide +kernel
set_option maxHeartbeats 40000000 in
theorem own_forL (l : Launch) (Z : State) (ag : Array Value) (hw : ∀ d ∈ tables_1, d.before ag Z = true) {p : Program} {e : Env} {s : State} {m : MethodId} {args : Array Value} {below : List Frame} {meth : Method} {c : Code} (hx : p.tables.exec = Jvm.exec) (a0 a1 bd vb : Addr) (k1 kb : ClassId) (n : Int32) (cs : Int32) (gf : Value) (h0 : Heap) (n0 : Nat) (hN : own_Nn a0 a1 bd vb) (hG : own_G n0 a0 a1 bd vb) (S_cs : Sta Z Z.heap "java/lang/String" "COMPACT_STRINGS" "Z" (.int cs)) (hcs : ¬ cs = (0 : Int32)) (S_gf : Sta Z Z.heap "jdk/internal/util/Preconditions" "SIOOBE_FORMATTER" "Ljava/util/function/BiFunction;" gf) (rv_gf : gf.isRef = true) (hml : c.maxLocals = 10) (hby : c.code = prog_32_method_5_code) {f0 tt b4 b5 b6 b7 b8 : Int32} {nn c0 : Nat} (hnn : nn = n.toNatClampNeg) (hc0 : c0 < 8) : ∀ (f : Nat) (i : Int32) (T : State) (sg : own_Sg) (k : Nat), own_LS p l e ({ frames := 6, cells := 2, slots := 20, locals := 100 } : Room) s m args below meth c Z h0 n0 a0 a1 bd vb k1 kb n T sg → own_rg i b6 n → b6.toInt - i.toInt ≤ (f : Int) → own_J nn c0 k sg → (k : Int) ≤ i.toInt → ∃ T', own_LS p l e ({ frames := 6, cells := 2, slots := 20, locals := 100 } : Room) s m args below meth c Z h0 n0 a0 a1 bd vb k1 kb n T' (own_for b6 f i sg) ∧ own_J nn c0 b6.toInt.toNat (own_for b6 f i sg) ∧ ∀ target, Steps p.tables e below (T'.setTop (mkF m 152 #[.val (.ref a0), .val (.ref a1), .val (.int f0), .val (.int tt), .val (.int b4), .val (.int b5), .val (.int b6), .val (.int b7), .val (.int b8), .val (.int b6)] [])) target → Steps p.tables e below (T.setTop (mkF m 132 #[.val (.ref a0), .val (.ref a1), .val (.int f0), .val (.int tt), .val (.int b4), .val (.int b5), .val (.int b6), .val (.int b7), .val (.int b8), .val (.int i)] [])) target := by
  intro f
  induction f with
  | zero =>
    intro i T sg k hLS hrg hf hJ hk
    obtain ⟨hr1, hr2, hr3, hr4⟩ := id hrg
    have hc : ¬ i < b6 := own_nl hf rfl
    refine ⟨T, hLS, hJ.mono (by omega), fun target kt => ?_⟩
    have hq := own_ieq hrg hc
    obtain ⟨vm0, h, L, cells, slots, k0, X, e0, sz, N, kp, hS, hkS, hZ, hown, hC, hO, hF, hSv, hcl⟩ := hLS
    have hEL : EW Z ag own_EL := own_ew hw
    obtain ⟨E_a0, F_row, F_er, F_de, F_h, E_bd, F_v, F_c, F_n, V_vb, V_a1⟩ := id hF
    obtain ⟨ne_a0_a1, ne_a0_bd, ne_a0_vb, ne_a1_bd, ne_a1_vb, ne_bd_vb⟩ := id hN
    obtain ⟨ge_a0, ge_a1, ge_bd, ge_vb⟩ := id hG
    have kt : Steps p.tables e below (T.setTop (mkF m 152 #[.val (.ref a0), .val (.ref a1), .val (.int f0), .val (.int tt), .val (.int b4), .val (.int b5), .val (.int b6), .val (.int b7), .val (.int b8), .val (.int i)] [])) target := by rw [hq]; exact kt
    show own_S p e below T (mkF m 132 #[.val (.ref a0), .val (.ref a1), .val (.int f0), .val (.int tt), .val (.int b4), .val (.int b5), .val (.int b6), .val (.int b7), .val (.int b8), .val (.int i)] []) _
    refine XS.iload X.here hx rfl (hb hby d9_132) rfl ?_
    refine XS.iload X.here hx rfl (hb hby d9_134) rfl ?_
    refine XS.icmpYes X.here hx rfl (pc0 := 136) (pc' := 152) rfl (hb hby d9_136) rfl (flt (show ¬ (i < b6) from hc)).2.1 (by decide) (by decide) ?_
    exact kt
  | succ f ih =>
    intro i T sg k hLS hrg hf hJ hk
    obtain ⟨hr1, hr2, hr3, hr4⟩ := id hrg
    by_cases hc : i < b6
    · obtain ⟨hi1, hrg1, he1⟩ := own_i1 hrg hc
      have hlt := hc
      rw [Int32.lt_iff_toInt_lt] at hlt
      obtain ⟨T1, hLS1, s1⟩ := own_stepT l Z ag hw hx a0 a1 bd vb k1 kb n cs gf h0 n0 hN hG S_cs hcs S_gf rv_gf hLS hi1 (hJ.kk hnn (by omega)) (pc0 := 143) (Ls := #[.val (.ref a0), .val (.ref a1), .val (.int f0), .val (.int tt), .val (.int b4), .val (.int b5), .val (.int b6), .val (.int b7), .val (.int b8), .val (.int i)]) (by rw [hml]; rfl) (hb hby d9_143)
      have hJ1 := hJ.take (i := i) (by omega) (by omega)
      obtain ⟨T', hLS', hJ', sT⟩ := ih (i + (1 : Int32)) T1 (own_take i sg) (k + 1) hLS1 hrg1 (by omega) hJ1 (by omega)
      have hfe : own_for b6 (f + 1) i sg = own_for b6 f (i + (1 : Int32)) (own_take i sg) := if_pos hc
      refine ⟨T', by rw [hfe]; exact hLS', by rw [hfe]; exact hJ', fun target kt => ?_⟩
      have kt := sT target kt
      obtain ⟨vm1, h1, L1, cells1, slots1, k01, X1, -⟩ := id hLS1
      have kt : Steps p.tables e below (T1.setTop (mkF m 146 #[.val (.ref a0), .val (.ref a1), .val (.int f0), .val (.int tt), .val (.int b4), .val (.int b5), .val (.int b6), .val (.int b7), .val (.int b8), .val (.int i)] [])) target := by
        show own_S p e below T1 (mkF m 146 #[.val (.ref a0), .val (.ref a1), .val (.int f0), .val (.int tt), .val (.int b4), .val (.int b5), .val (.int b6), .val (.int b7), .val (.int b8), .val (.int i)] []) _
        refine XS.iinc X1.here hx rfl (hb hby d9_146) rfl (l' := #[.val (.ref a0), .val (.ref a1), .val (.int f0), .val (.int tt), .val (.int b4), .val (.int b5), .val (.int b6), .val (.int b7), .val (.int b8), .val (.int (i + (1 : Int32)))]) rfl ?_
        show own_S p e below T1 (mkF m 149 #[.val (.ref a0), .val (.ref a1), .val (.int f0), .val (.int tt), .val (.int b4), .val (.int b5), .val (.int b6), .val (.int b7), .val (.int b8), .val (.int (i + (1 : Int32)))] []) _
        refine XS.goto X1.here hx rfl (pc0 := 149) (pc' := 132) rfl (hb hby d9_149) (by decide) (by decide) ?_
        exact kt
      have kt := s1 target kt
      obtain ⟨vm0, h, L, cells, slots, k0, X, e0, sz, N, kp, hS, hkS, hZ, hown, hC, hO, hF, hSv, hcl⟩ := hLS
      have hEL : EW Z ag own_EL := own_ew hw
      obtain ⟨E_a0, F_row, F_er, F_de, F_h, E_bd, F_v, F_c, F_n, V_vb, V_a1⟩ := id hF
      obtain ⟨ne_a0_a1, ne_a0_bd, ne_a0_vb, ne_a1_bd, ne_a1_vb, ne_bd_vb⟩ := id hN
      obtain ⟨ge_a0, ge_a1, ge_bd, ge_vb⟩ := id hG
      show own_S p e below T (mkF m 132 #[.val (.ref a0), .val (.ref a1), .val (.int f0), .val (.int tt), .val (.int b4), .val (.int b5), .val (.int b6), .val (.int b7), .val (.int b8), .val (.int i)] []) _
      refine XS.iload X.here hx rfl (hb hby d9_132) rfl ?_
      refine XS.iload X.here hx rfl (hb hby d9_134) rfl ?_
      refine XS.icmpNo X.here hx rfl (hb hby d9_136) rfl (tlt (show i < b6 from hc)).2.1 ?_
      show own_S p e below T (mkF m 139 #[.val (.ref a0), .val (.ref a1), .val (.int f0), .val (.int tt), .val (.int b4), .val (.int b5), .val (.int b6), .val (.int b7), .val (.int b8), .val (.int i)] []) _
      refine XS.aloadN X.here hx rfl (hb hby d9_139) rfl rfl ?_
      refine XS.aloadN X.here hx rfl (hb hby d9_140) rfl rfl ?_
      refine XS.iload X.here hx rfl (hb hby d9_141) rfl ?_
      exact kt
    · have hfe : own_for b6 (f + 1) i sg = sg := if_neg hc
      refine ⟨T, by rw [hfe]; exact hLS, by rw [hfe]; exact hJ.mono (by omega), fun target kt => ?_⟩
      have hq := own_ieq hrg hc
      obtain ⟨vm0, h, L, cells, slots, k0, X, e0, sz, N, kp, hS, hkS, hZ, hown, hC, hO, hF, hSv, hcl⟩ := hLS
      have hEL : EW Z ag own_EL := own_ew hw
      obtain ⟨E_a0, F_row, F_er, F_de, F_h, E_bd, F_v, F_c, F_n, V_vb, V_a1⟩ := id hF
      obtain ⟨ne_a0_a1, ne_a0_bd, ne_a0_vb, ne_a1_bd, ne_a1_vb, ne_bd_vb⟩ := id hN
      obtain ⟨ge_a0, ge_a1, ge_bd, ge_vb⟩ := id hG
      have kt : Steps p.tables e below (T.setTop (mkF m 152 #[.val (.ref a0), .val (.ref a1), .val (.int f0), .val (.int tt), .val (.int b4), .val (.int b5), .val (.int b6), .val (.int b7), .val (.int b8), .val (.int i)] [])) target := by rw [hq]; exact kt
      show own_S p e below T (mkF m 132 #[.val (.ref a0), .val (.ref a1), .val (.int f0), .val (.int tt), .val (.int b4), .val (.int b5), .val (.int b6), .val (.int b7), .val (.int b8), .val (.int i)] []) _
      refine XS.iload X.here hx rfl (hb hby d9_132) rfl ?_
      refine XS.iload X.here hx rfl (hb hby d9_134) rfl ?_
      refine XS.icmpYes X.here hx rfl (pc0 := 136) (pc' := 152) rfl (hb hby d9_136) rfl (flt (show ¬ (i < b6) from hc)).2.1 (by decide) (by decide) ?_
      exact kt
theorem own_le1 {x y : Int} (h : y = x - 1) : y ≤ x := by omega
def own_lim (st tt : Int32) : Int32 := own_min ((st + (19 : Int32)) + (1 : Int32)) tt
def own_from (cs : List Int32) (st lim : Int32) : Int32 := if own_emg cs st (own_run cs st 24 lim) = (0 : Int32) then own_run cs st 24 lim else st
def own_body (tt st : Int32) (sg : own_Sg) : own_Sg := own_for (own_lim st tt) 24 (own_from sg.2.2.2.2.1 st (own_lim st tt)) sg
def own_mask (tt : Int32) : Nat → Int32 → own_Sg → own_Sg
  | 0, _, sg => sg
  | f + 1, st, sg => if st < tt then (if (0 : Int32) < sg.1 then own_mask tt f (st + (1 : Int32)) (own_take st sg) else (if sg.2.1 < (0 : Int32) then (if (st + (19 : Int32)) < tt then (if own_ends sg.2.2.2.2.1 st (st + (19 : Int32)) = (0 : Int32) then own_mask tt f (own_lim st tt) (own_body tt st sg) else own_mask tt f ((st + (19 : Int32)) + (1 : Int32)) sg) else own_mask tt f (own_lim st tt) (own_body tt st sg)) else own_mask tt f (st + (1 : Int32)) (own_take st sg))) else sg
theorem own_19 {st tt n : Int32} (h : own_rg st tt n) : (st + (19 : Int32)).toInt = st.toInt + 19 ∧ ((st + (19 : Int32)) + (1 : Int32)).toInt = st.toInt + 20 := by
  obtain ⟨h1, h2, h3, h4⟩ := h
  have z : (19 : Int32).toInt = 19 := rfl
  have z1 : (1 : Int32).toInt = 1 := rfl
  have e : (st + (19 : Int32)).toInt = st.toInt + 19 := by rw [Int32.toInt_add, z]; exact Int.bmod_eq_of_le (by omega) (by omega)
  exact ⟨e, by rw [Int32.toInt_add, e, z1]; exact (Int.bmod_eq_of_le (by omega) (by omega)).trans (by omega)⟩
theorem own_limr {st tt n : Int32} (h : own_rg st tt n) (q : st < tt) : own_rg st (own_lim st tt) n ∧ own_rg (own_lim st tt) tt n ∧ st.toInt < (own_lim st tt).toInt := by
  obtain ⟨-, e2⟩ := own_19 h
  obtain ⟨h1, h2, h3, h4⟩ := h
  rw [Int32.lt_iff_toInt_lt] at q
  unfold own_lim own_min
  generalize (st + (19 : Int32)) + (1 : Int32) = y at *
  by_cases a : tt < y
  · rw [if_pos a]; exact ⟨⟨h1, by omega, h3, h4⟩, ⟨by omega, by omega, h3, h4⟩, by omega⟩
  · rw [if_neg a]
    rw [Int32.lt_iff_toInt_lt] at a
    exact ⟨⟨h1, by omega, by omega, h4⟩, ⟨by omega, by omega, h3, h4⟩, by omega⟩
theorem own_run_rg {cs : List Int32} {st n : Int32} : ∀ (f : Nat) (r : Int32), own_rg st r n → own_rg st (own_run cs st f r) n ∧ (own_run cs st f r).toInt ≤ r.toInt
  | 0, r, h => ⟨h, Int.le_refl _⟩
  | f + 1, r, h => by
    unfold own_run
    by_cases a : st < r
    · rw [if_pos a]
      by_cases b : own_may (own_at cs (r - (1 : Int32))) = (0 : Int32)
      · rw [if_pos b]; exact ⟨h, Int.le_refl _⟩
      · rw [if_neg b]
        obtain ⟨-, h1, h2⟩ := own_r1 h a
        obtain ⟨q1, q2⟩ := own_run_rg f (r + (Int32.ofInt (-1))) h1
        exact ⟨q1, Int.le_trans q2 (own_le1 h2)⟩
    · rw [if_neg a]; exact ⟨h, Int.le_refl _⟩
theorem own_from_rg {cs : List Int32} {st lim n : Int32} (h : own_rg st lim n) : own_rg st (own_from cs st lim) n ∧ own_rg (own_from cs st lim) lim n := by
  obtain ⟨q1, q2⟩ := own_run_rg (cs := cs) 24 lim h
  obtain ⟨h1, h2, h3, h4⟩ := id h
  unfold own_from
  by_cases a : own_emg cs st (own_run cs st 24 lim) = (0 : Int32)
  · rw [if_pos a]; exact ⟨q1, Int.le_trans h1 q1.2.1, q2, h3, h4⟩
  · rw [if_neg a]; exact ⟨⟨h1, Int.le_refl _, Int.le_trans h2 h3, h4⟩, h⟩
theorem d9_69 : own_d9 69 (.iload 5) 2 := by decide +kernel
theorem d9_71 : own_d9 71 (.iconst 1) 1 := by decide +kernel
theorem d9_72 : own_d9 72 .iadd 1 := by decide +kernel
theorem d9_73 : own_d9 73 (.iload_n 3) 1 := by decide +kernel
theorem pd_9 : parseMethodDescriptor "(II)I" = some ⟨[.int, .int], some .int⟩ := by decide +kernel
theorem d9_74 : own_d9 74 (.invokestatic 61) 3 := by decide +kernel
theorem d9_77 : own_d9 77 (.istore 6) 2 := by decide +kernel
theorem d9_79 : own_d9 79 (.iload 6) 2 := by decide +kernel
theorem d9_81 : own_d9 81 (.istore 7) 2 := by decide +kernel
theorem d9_108 : own_d9 108 (.aload_n 1) 1 := by decide +kernel
theorem d9_109 : own_d9 109 (.iload 4) 2 := by decide +kernel
theorem d9_111 : own_d9 111 (.iload 7) 2 := by decide +kernel
theorem d9_113 : own_d9 113 (.invokestatic 70) 3 := by decide +kernel
theorem d9_116 : own_d9 116 (.ifCond .eq 8) 3 := by decide +kernel
theorem d9_124 : own_d9 124 (.iload 7) 2 := by decide +kernel
theorem d9_126 : own_d9 126 (.istore 8) 2 := by decide +kernel
theorem d9_128 : own_d9 128 (.iload 8) 2 := by decide +kernel
theorem d9_130 : own_d9 130 (.istore 9) 2 := by decide +kernel
theorem d9_119 : own_d9 119 (.iload 4) 2 := by decide +kernel
theorem d9_121 : own_d9 121 (.goto 5) 3 := by decide +kernel
theorem d9_152 : own_d9 152 (.iload 6) 2 := by decide +kernel
theorem d9_154 : own_d9 154 (.istore 4) 2 := by decide +kernel
theorem d9_156 : own_d9 156 (.goto (-153)) 3 := by decide +kernel
set_option maxHeartbeats 40000000 in
theorem own_bodyL (l : Launch) (Z : State) (ag : Array Value) (hw : ∀ d ∈ tables_1, d.before ag Z = true) {p : Program} {e : Env} {s : State} {m : MethodId} {args : Array Value} {below : List Frame} {meth : Method} {c : Code} (hx : p.tables.exec = Jvm.exec) (a0 a1 bd vb : Addr) (k1 kb : ClassId) (n : Int32) (cs : Int32) (gf : Value) (h0 : Heap) (n0 : Nat) (hN : own_Nn a0 a1 bd vb) (hG : own_G n0 a0 a1 bd vb) (S_cs : Sta Z Z.heap "java/lang/String" "COMPACT_STRINGS" "Z" (.int cs)) (hcs : ¬ cs = (0 : Int32)) (S_gf : Sta Z Z.heap "jdk/internal/util/Preconditions" "SIOOBE_FORMATTER" "Ljava/util/function/BiFunction;" gf) (rv_gf : gf.isRef = true) (hml : c.maxLocals = 10) (hby : c.code = prog_32_method_5_code) {f0 tt st : Int32} {x6 x7 x8 x9 : Slot} (cs_x6 : own_c1 x6) (cs_x7 : own_c1 x7) (cs_x8 : own_c1 x8) (cs_x9 : own_c1 x9) {nn c0 : Nat} (hnn : nn = n.toNatClampNeg) (hc0 : c0 < 8) {T : State} {sg : own_Sg} {k : Nat} (hLS : own_LS p l e ({ frames := 6, cells := 2, slots := 20, locals := 100 } : Room) s m args below meth c Z h0 n0 a0 a1 bd vb k1 kb n T sg) (hrg : own_rg st tt n) (hc : st < tt) (hJ : own_J nn c0 k sg) (hk : (k : Int) ≤ st.toInt) : ∃ T', own_LS p l e ({ frames := 6, cells := 2, slots := 20, locals := 100 } : Room) s m args below meth c Z h0 n0 a0 a1 bd vb k1 kb n T' (own_body tt st sg) ∧ own_J nn c0 (own_lim st tt).toInt.toNat (own_body tt st sg) ∧ ∀ target, Steps p.tables e below (T'.setTop (mkF m 3 #[.val (.ref a0), .val (.ref a1), .val (.int f0), .val (.int tt), .val (.int (own_lim st tt)), .val (.int (st + (19 : Int32))), .val (.int (own_lim st tt)), .val (.int (own_run sg.2.2.2.2.1 st 24 (own_lim st tt))), .val (.int (own_from sg.2.2.2.2.1 st (own_lim st tt))), .val (.int (own_lim st tt))] [])) target → Steps p.tables e below (T.setTop (mkF m 69 #[.val (.ref a0), .val (.ref a1), .val (.int f0), .val (.int tt), .val (.int st), .val (.int (st + (19 : Int32))), x6, x7, x8, x9] [])) target := by
  obtain ⟨hl1, hl2, hl3⟩ := own_limr hrg hc
  obtain ⟨hrun, -⟩ := own_run_rg (cs := sg.2.2.2.2.1) 24 (own_lim st tt) hl1
  obtain ⟨hf1, hf2⟩ := own_from_rg (cs := sg.2.2.2.2.1) hl1
  obtain ⟨T1, hLS1, s1⟩ : ∃ T1, own_LS p l e ({ frames := 6, cells := 2, slots := 20, locals := 100 } : Room) s m args below meth c Z h0 n0 a0 a1 bd vb k1 kb n T1 sg ∧ ∀ target, Steps p.tables e below (T1.setTop (mkF m 83 #[.val (.ref a0), .val (.ref a1), .val (.int f0), .val (.int tt), .val (.int st), .val (.int (st + (19 : Int32))), .val (.int (own_lim st tt)), .val (.int (own_lim st tt)), x8, x9] [])) target → Steps p.tables e below (T.setTop (mkF m 69 #[.val (.ref a0), .val (.ref a1), .val (.int f0), .val (.int tt), .val (.int st), .val (.int (st + (19 : Int32))), x6, x7, x8, x9] [])) target := by
    obtain ⟨vm0, h, L, cells, slots, k0, X, e0, sz, N, kp, hS, hkS, hZ, hown, hC, hO, hF, hSv, hcl⟩ := hLS
    have hEL : EW Z ag own_EL := own_ew hw
    obtain ⟨E_a0, F_row, F_er, F_de, F_h, E_bd, F_v, F_c, F_n, V_vb, V_a1⟩ := id hF
    obtain ⟨ne_a0_a1, ne_a0_bd, ne_a0_vb, ne_a1_bd, ne_a1_vb, ne_bd_vb⟩ := id hN
    obtain ⟨ge_a0, ge_a1, ge_bd, ge_vb⟩ := id hG
    obtain ⟨_, _, ⟨T1262, L1262, k1262, n1262⟩, -, X1262, ⟨Lc1262, hQ1262, l1262, y1262, z1262⟩, st1262⟩ := Jvm.LawKit.callS X hx (y := (⟨"java/lang/Math", "min", "(II)I"⟩ : MethodName)) hown (mvT hZ (own_wk hw 57 rfl)) (mvT hZ (own_wk hw 58 rfl)) (mvT hZ (own_wk hw 59 rfl)) (mvT hZ (own_wk hw 60 rfl)) (by decide) (backOf (W := 0) (rm10 l Z ag hw [] ((st + (19 : Int32)) + (1 : Int32)) tt  h n0 sz ) hZ (own_wk hw 60 rfl) (own_wk hw 59 rfl) (by decide) (by decide)) (g := (mkF m 74 #[.val (.ref a0), .val (.ref a1), .val (.int f0), .val (.int tt), .val (.int st), .val (.int (st + (19 : Int32))), x6, x7, x8, x9] [(.int tt), (.int ((st + (19 : Int32)) + (1 : Int32)))])) rfl (by rw [hml]; rfl) (argsL := [(.int ((st + (19 : Int32)) + (1 : Int32))), (.int tt)]) (rest := []) (lenOf pd_9 rfl) rfl (by show 2 * 0 + _ ≤ _; exact Nat.le_of_eq rfl) (hb hby d9_74) (fun _ _ => ⟨rfl, e0, (own_le2 hcl).1, (own_le2 hcl).2⟩)
    dsimp only [Pt.U, Pt.locs, Pt.cells, Pt.slots] at X1262 l1262 y1262 z1262 st1262 hQ1262
    subst l1262 y1262 z1262
    obtain ⟨rfl, N1262q, e1262⟩ := hQ1262
    have N1262 := Fr.app N N1262q
    have sg1263 : ∀ target, Steps p.tables e below (T1262.setTop (mkF m 77 #[.val (.ref a0), .val (.ref a1), .val (.int f0), .val (.int tt), .val (.int st), .val (.int (st + (19 : Int32))), x6, x7, x8, x9] [(.int (own_lim st tt))])) target → Steps p.tables e below (T1262.setTop (mkF m 77 #[.val (.ref a0), .val (.ref a1), .val (.int f0), .val (.int tt), .val (.int st), .val (.int (st + (19 : Int32))), x6, x7, x8, x9] [(.int (own_min ((st + (19 : Int32)) + (1 : Int32)) tt))])) target := by exact fun _ k => k
    refine ⟨_, ⟨_, _, _, _, _, _, X1262, e1262, sz, N1262, kp, hS, hkS, hZ, hown, hC, hO, ⟨E_a0, F_row, F_er, F_de, F_h, E_bd, F_v, F_c, F_n, V_vb, V_a1⟩, hSv, hcl⟩, fun target kt => ?_⟩
    show own_S p e below T (mkF m 69 #[.val (.ref a0), .val (.ref a1), .val (.int f0), .val (.int tt), .val (.int st), .val (.int (st + (19 : Int32))), x6, x7, x8, x9] []) _
    refine XS.iload X.here hx rfl (hb hby d9_69) rfl ?_
    refine XS.iconst X.here hx rfl (hb hby d9_71) ?_
    refine XS.iadd X.here hx rfl (hb hby d9_72) rfl ?_
    refine XS.iloadN X.here hx rfl (hb hby d9_73) rfl ?_
    show own_S p e below T (mkF m 74 #[.val (.ref a0), .val (.ref a1), .val (.int f0), .val (.int tt), .val (.int st), .val (.int (st + (19 : Int32))), x6, x7, x8, x9] [(.int tt), (.int ((st + (19 : Int32)) + (1 : Int32)))]) _
    refine st1262 _ ?_
    show own_S p e below T1262 (mkF m 77 #[.val (.ref a0), .val (.ref a1), .val (.int f0), .val (.int tt), .val (.int st), .val (.int (st + (19 : Int32))), x6, x7, x8, x9] [(.int (own_min ((st + (19 : Int32)) + (1 : Int32)) tt))]) _
    refine sg1263 _ ?_
    show own_S p e below T1262 (mkF m 77 #[.val (.ref a0), .val (.ref a1), .val (.int f0), .val (.int tt), .val (.int st), .val (.int (st + (19 : Int32))), x6, x7, x8, x9] [(.int (own_lim st tt))]) _
    refine XS.istore X1262.here hx rfl (hb hby d9_77) rfl (l' := #[.val (.ref a0), .val (.ref a1), .val (.int f0), .val (.int tt), .val (.int st), .val (.int (st + (19 : Int32))), .val (.int (own_lim st tt)), x7, x8, x9]) (own_store1 rfl rfl cs_x6 rfl) ?_
    show own_S p e below T1262 (mkF m 79 #[.val (.ref a0), .val (.ref a1), .val (.int f0), .val (.int tt), .val (.int st), .val (.int (st + (19 : Int32))), .val (.int (own_lim st tt)), x7, x8, x9] []) _
    refine XS.iload X1262.here hx rfl (hb hby d9_79) rfl ?_
    refine XS.istore X1262.here hx rfl (hb hby d9_81) rfl (l' := #[.val (.ref a0), .val (.ref a1), .val (.int f0), .val (.int tt), .val (.int st), .val (.int (st + (19 : Int32))), .val (.int (own_lim st tt)), .val (.int (own_lim st tt)), x8, x9]) (own_store1 rfl rfl cs_x7 rfl) ?_
    exact kt
  obtain ⟨T2, hLS2, s2⟩ := own_runL l Z ag hw hx a0 a1 bd vb k1 kb n cs gf h0 n0 hN hG S_cs hcs S_gf rv_gf hml hby (f0 := f0) (tt := tt) (b4 := st) (b5 := (st + (19 : Int32))) (b6 := (own_lim st tt)) (x8 := x8) (x9 := x9) 24 (own_lim st tt) T1 hLS1 hl1 (by have := hl1.2.2.2; have := hl1.1; have := hl1.2.2.1; omega)
  obtain ⟨T3, hLS3, s3⟩ : ∃ T3, own_LS p l e ({ frames := 6, cells := 2, slots := 20, locals := 100 } : Room) s m args below meth c Z h0 n0 a0 a1 bd vb k1 kb n T3 sg ∧ ∀ target, Steps p.tables e below (T3.setTop (mkF m 132 #[.val (.ref a0), .val (.ref a1), .val (.int f0), .val (.int tt), .val (.int st), .val (.int (st + (19 : Int32))), .val (.int (own_lim st tt)), .val (.int (own_run sg.2.2.2.2.1 st 24 (own_lim st tt))), .val (.int (own_from sg.2.2.2.2.1 st (own_lim st tt))), .val (.int (own_from sg.2.2.2.2.1 st (own_lim st tt)))] [])) target → Steps p.tables e below (T2.setTop (mkF m 108 #[.val (.ref a0), .val (.ref a1), .val (.int f0), .val (.int tt), .val (.int st), .val (.int (st + (19 : Int32))), .val (.int (own_lim st tt)), .val (.int (own_run sg.2.2.2.2.1 st 24 (own_lim st tt))), x8, x9] [])) target := by
    by_cases hg : own_emg sg.2.2.2.2.1 st (own_run sg.2.2.2.2.1 st 24 (own_lim st tt)) = (0 : Int32)
    · obtain ⟨vm0, h, L, cells, slots, k0, X, e0, sz, N, kp, hS, hkS, hZ, hown, hC, hO, hF, hSv, hcl⟩ := hLS2
      have hEL : EW Z ag own_EL := own_ew hw
      obtain ⟨E_a0, F_row, F_er, F_de, F_h, E_bd, F_v, F_c, F_n, V_vb, V_a1⟩ := id hF
      obtain ⟨ne_a0_a1, ne_a0_bd, ne_a0_vb, ne_a1_bd, ne_a1_vb, ne_bd_vb⟩ := id hN
      obtain ⟨ge_a0, ge_a1, ge_bd, ge_vb⟩ := id hG
      obtain ⟨_, _, ⟨T1264, L1264, k1264, n1264⟩, -, X1264, ⟨Lc1264, hQ1264, l1264, y1264, z1264⟩, st1264⟩ := Jvm.LawKit.callS X hx (y := (⟨"com/example/needle_in_json/needleinjson/MaskedDigits", "escapeMayGoOn", "([CII)Z"⟩ : MethodName)) hown (mvT hZ (own_wk hw 67 rfl)) (mvT hZ (own_wk hw 68 rfl)) (mvT hZ (own_wk hw 19 rfl)) (mvT hZ (own_wk hw 69 rfl)) (by decide) (backOf (W := 0) (rm13 l Z ag hw [] a1 st (own_run sg.2.2.2.2.1 st 24 (own_lim st tt)) k1 n sg.2.2.2.2.1 h n0 sz V_a1 hrun) hZ (own_wk hw 69 rfl) (own_wk hw 19 rfl) (by decide) (by decide)) (g := (mkF m 113 #[.val (.ref a0), .val (.ref a1), .val (.int f0), .val (.int tt), .val (.int st), .val (.int (st + (19 : Int32))), .val (.int (own_lim st tt)), .val (.int (own_run sg.2.2.2.2.1 st 24 (own_lim st tt))), x8, x9] [(.int (own_run sg.2.2.2.2.1 st 24 (own_lim st tt))), (.int st), (.ref a1)])) rfl (by rw [hml]; rfl) (argsL := [(.ref a1), (.int st), (.int (own_run sg.2.2.2.2.1 st 24 (own_lim st tt)))]) (rest := []) (lenOf pd_21 rfl) rfl (by show 2 * 0 + _ ≤ _; exact Nat.le_of_eq rfl) (hb hby d9_113) (fun _ _ => ⟨rfl, e0, (own_le2 hcl).1, (own_le2 hcl).2⟩)
      dsimp only [Pt.U, Pt.locs, Pt.cells, Pt.slots] at X1264 l1264 y1264 z1264 st1264 hQ1264
      subst l1264 y1264 z1264
      obtain ⟨rfl, N1264q, e1264⟩ := hQ1264
      have N1264 := Fr.app N N1264q
      have sg1265 : ∀ target, Steps p.tables e below (T1264.setTop (mkF m 126 #[.val (.ref a0), .val (.ref a1), .val (.int f0), .val (.int tt), .val (.int st), .val (.int (st + (19 : Int32))), .val (.int (own_lim st tt)), .val (.int (own_run sg.2.2.2.2.1 st 24 (own_lim st tt))), x8, x9] [(.int (own_from sg.2.2.2.2.1 st (own_lim st tt)))])) target → Steps p.tables e below (T1264.setTop (mkF m 126 #[.val (.ref a0), .val (.ref a1), .val (.int f0), .val (.int tt), .val (.int st), .val (.int (st + (19 : Int32))), .val (.int (own_lim st tt)), .val (.int (own_run sg.2.2.2.2.1 st 24 (own_lim st tt))), x8, x9] [(.int (own_run sg.2.2.2.2.1 st 24 (own_lim st tt)))])) target := by rw [show (own_from sg.2.2.2.2.1 st (own_lim st tt)) = (own_run sg.2.2.2.2.1 st 24 (own_lim st tt)) from if_pos hg]; exact fun _ k => k
      refine ⟨_, ⟨_, _, _, _, _, _, X1264, e1264, sz, N1264, kp, hS, hkS, hZ, hown, hC, hO, ⟨E_a0, F_row, F_er, F_de, F_h, E_bd, F_v, F_c, F_n, V_vb, V_a1⟩, hSv, hcl⟩, fun target kt => ?_⟩
      show own_S p e below T2 (mkF m 108 #[.val (.ref a0), .val (.ref a1), .val (.int f0), .val (.int tt), .val (.int st), .val (.int (st + (19 : Int32))), .val (.int (own_lim st tt)), .val (.int (own_run sg.2.2.2.2.1 st 24 (own_lim st tt))), x8, x9] []) _
      refine XS.aloadN X.here hx rfl (hb hby d9_108) rfl rfl ?_
      refine XS.iload X.here hx rfl (hb hby d9_109) rfl ?_
      refine XS.iload X.here hx rfl (hb hby d9_111) rfl ?_
      show own_S p e below T2 (mkF m 113 #[.val (.ref a0), .val (.ref a1), .val (.int f0), .val (.int tt), .val (.int st), .val (.int (st + (19 : Int32))), .val (.int (own_lim st tt)), .val (.int (own_run sg.2.2.2.2.1 st 24 (own_lim st tt))), x8, x9] [(.int (own_run sg.2.2.2.2.1 st 24 (own_lim st tt))), (.int st), (.ref a1)]) _
      refine st1264 _ ?_
      show own_S p e below T1264 (mkF m 116 #[.val (.ref a0), .val (.ref a1), .val (.int f0), .val (.int tt), .val (.int st), .val (.int (st + (19 : Int32))), .val (.int (own_lim st tt)), .val (.int (own_run sg.2.2.2.2.1 st 24 (own_lim st tt))), x8, x9] [(.int (own_emg sg.2.2.2.2.1 st (own_run sg.2.2.2.2.1 st 24 (own_lim st tt))))]) _
      refine XS.ifYes X1264.here hx rfl (pc0 := 116) (pc' := 124) rfl (hb hby d9_116) rfl ((if0 _ _).trans (teq (show (own_emg sg.2.2.2.2.1 st (own_run sg.2.2.2.2.1 st 24 (own_lim st tt))) = (0 : Int32) from hg)).1) (by decide) (by decide) ?_
      show own_S p e below T1264 (mkF m 124 #[.val (.ref a0), .val (.ref a1), .val (.int f0), .val (.int tt), .val (.int st), .val (.int (st + (19 : Int32))), .val (.int (own_lim st tt)), .val (.int (own_run sg.2.2.2.2.1 st 24 (own_lim st tt))), x8, x9] []) _
      refine XS.iload X1264.here hx rfl (hb hby d9_124) rfl ?_
      show own_S p e below T1264 (mkF m 126 #[.val (.ref a0), .val (.ref a1), .val (.int f0), .val (.int tt), .val (.int st), .val (.int (st + (19 : Int32))), .val (.int (own_lim st tt)), .val (.int (own_run sg.2.2.2.2.1 st 24 (own_lim st tt))), x8, x9] [(.int (own_run sg.2.2.2.2.1 st 24 (own_lim st tt)))]) _
      refine sg1265 _ ?_
      show own_S p e below T1264 (mkF m 126 #[.val (.ref a0), .val (.ref a1), .val (.int f0), .val (.int tt), .val (.int st), .val (.int (st + (19 : Int32))), .val (.int (own_lim st tt)), .val (.int (own_run sg.2.2.2.2.1 st 24 (own_lim st tt))), x8, x9] [(.int (own_from sg.2.2.2.2.1 st (own_lim st tt)))]) _
      refine XS.istore X1264.here hx rfl (hb hby d9_126) rfl (l' := #[.val (.ref a0), .val (.ref a1), .val (.int f0), .val (.int tt), .val (.int st), .val (.int (st + (19 : Int32))), .val (.int (own_lim st tt)), .val (.int (own_run sg.2.2.2.2.1 st 24 (own_lim st tt))), .val (.int (own_from sg.2.2.2.2.1 st (own_lim st tt))), x9]) (own_store1 rfl rfl cs_x8 rfl) ?_
      show own_S p e below T1264 (mkF m 128 #[.val (.ref a0), .val (.ref a1), .val (.int f0), .val (.int tt), .val (.int st), .val (.int (st + (19 : Int32))), .val (.int (own_lim st tt)), .val (.int (own_run sg.2.2.2.2.1 st 24 (own_lim st tt))), .val (.int (own_from sg.2.2.2.2.1 st (own_lim st tt))), x9] []) _
      refine XS.iload X1264.here hx rfl (hb hby d9_128) rfl ?_
      refine XS.istore X1264.here hx rfl (hb hby d9_130) rfl (l' := #[.val (.ref a0), .val (.ref a1), .val (.int f0), .val (.int tt), .val (.int st), .val (.int (st + (19 : Int32))), .val (.int (own_lim st tt)), .val (.int (own_run sg.2.2.2.2.1 st 24 (own_lim st tt))), .val (.int (own_from sg.2.2.2.2.1 st (own_lim st tt))), .val (.int (own_from sg.2.2.2.2.1 st (own_lim st tt)))]) (own_store1 rfl rfl cs_x9 rfl) ?_
      exact kt
    · obtain ⟨vm0, h, L, cells, slots, k0, X, e0, sz, N, kp, hS, hkS, hZ, hown, hC, hO, hF, hSv, hcl⟩ := hLS2
      have hEL : EW Z ag own_EL := own_ew hw
      obtain ⟨E_a0, F_row, F_er, F_de, F_h, E_bd, F_v, F_c, F_n, V_vb, V_a1⟩ := id hF
      obtain ⟨ne_a0_a1, ne_a0_bd, ne_a0_vb, ne_a1_bd, ne_a1_vb, ne_bd_vb⟩ := id hN
      obtain ⟨ge_a0, ge_a1, ge_bd, ge_vb⟩ := id hG
      obtain ⟨_, _, ⟨T1266, L1266, k1266, n1266⟩, -, X1266, ⟨Lc1266, hQ1266, l1266, y1266, z1266⟩, st1266⟩ := Jvm.LawKit.callS X hx (y := (⟨"com/example/needle_in_json/needleinjson/MaskedDigits", "escapeMayGoOn", "([CII)Z"⟩ : MethodName)) hown (mvT hZ (own_wk hw 67 rfl)) (mvT hZ (own_wk hw 68 rfl)) (mvT hZ (own_wk hw 19 rfl)) (mvT hZ (own_wk hw 69 rfl)) (by decide) (backOf (W := 0) (rm13 l Z ag hw [] a1 st (own_run sg.2.2.2.2.1 st 24 (own_lim st tt)) k1 n sg.2.2.2.2.1 h n0 sz V_a1 hrun) hZ (own_wk hw 69 rfl) (own_wk hw 19 rfl) (by decide) (by decide)) (g := (mkF m 113 #[.val (.ref a0), .val (.ref a1), .val (.int f0), .val (.int tt), .val (.int st), .val (.int (st + (19 : Int32))), .val (.int (own_lim st tt)), .val (.int (own_run sg.2.2.2.2.1 st 24 (own_lim st tt))), x8, x9] [(.int (own_run sg.2.2.2.2.1 st 24 (own_lim st tt))), (.int st), (.ref a1)])) rfl (by rw [hml]; rfl) (argsL := [(.ref a1), (.int st), (.int (own_run sg.2.2.2.2.1 st 24 (own_lim st tt)))]) (rest := []) (lenOf pd_21 rfl) rfl (by show 2 * 0 + _ ≤ _; exact Nat.le_of_eq rfl) (hb hby d9_113) (fun _ _ => ⟨rfl, e0, (own_le2 hcl).1, (own_le2 hcl).2⟩)
      dsimp only [Pt.U, Pt.locs, Pt.cells, Pt.slots] at X1266 l1266 y1266 z1266 st1266 hQ1266
      subst l1266 y1266 z1266
      obtain ⟨rfl, N1266q, e1266⟩ := hQ1266
      have N1266 := Fr.app N N1266q
      have sg1267 : ∀ target, Steps p.tables e below (T1266.setTop (mkF m 126 #[.val (.ref a0), .val (.ref a1), .val (.int f0), .val (.int tt), .val (.int st), .val (.int (st + (19 : Int32))), .val (.int (own_lim st tt)), .val (.int (own_run sg.2.2.2.2.1 st 24 (own_lim st tt))), x8, x9] [(.int (own_from sg.2.2.2.2.1 st (own_lim st tt)))])) target → Steps p.tables e below (T1266.setTop (mkF m 126 #[.val (.ref a0), .val (.ref a1), .val (.int f0), .val (.int tt), .val (.int st), .val (.int (st + (19 : Int32))), .val (.int (own_lim st tt)), .val (.int (own_run sg.2.2.2.2.1 st 24 (own_lim st tt))), x8, x9] [(.int st)])) target := by rw [show (own_from sg.2.2.2.2.1 st (own_lim st tt)) = st from if_neg hg]; exact fun _ k => k
      refine ⟨_, ⟨_, _, _, _, _, _, X1266, e1266, sz, N1266, kp, hS, hkS, hZ, hown, hC, hO, ⟨E_a0, F_row, F_er, F_de, F_h, E_bd, F_v, F_c, F_n, V_vb, V_a1⟩, hSv, hcl⟩, fun target kt => ?_⟩
      show own_S p e below T2 (mkF m 108 #[.val (.ref a0), .val (.ref a1), .val (.int f0), .val (.int tt), .val (.int st), .val (.int (st + (19 : Int32))), .val (.int (own_lim st tt)), .val (.int (own_run sg.2.2.2.2.1 st 24 (own_lim st tt))), x8, x9] []) _
      refine XS.aloadN X.here hx rfl (hb hby d9_108) rfl rfl ?_
      refine XS.iload X.here hx rfl (hb hby d9_109) rfl ?_
      refine XS.iload X.here hx rfl (hb hby d9_111) rfl ?_
      show own_S p e below T2 (mkF m 113 #[.val (.ref a0), .val (.ref a1), .val (.int f0), .val (.int tt), .val (.int st), .val (.int (st + (19 : Int32))), .val (.int (own_lim st tt)), .val (.int (own_run sg.2.2.2.2.1 st 24 (own_lim st tt))), x8, x9] [(.int (own_run sg.2.2.2.2.1 st 24 (own_lim st tt))), (.int st), (.ref a1)]) _
      refine st1266 _ ?_
      show own_S p e below T1266 (mkF m 116 #[.val (.ref a0), .val (.ref a1), .val (.int f0), .val (.int tt), .val (.int st), .val (.int (st + (19 : Int32))), .val (.int (own_lim st tt)), .val (.int (own_run sg.2.2.2.2.1 st 24 (own_lim st tt))), x8, x9] [(.int (own_emg sg.2.2.2.2.1 st (own_run sg.2.2.2.2.1 st 24 (own_lim st tt))))]) _
      refine XS.ifNo X1266.here hx rfl (hb hby d9_116) rfl ((if0 _ _).trans (feq (show ¬ ((own_emg sg.2.2.2.2.1 st (own_run sg.2.2.2.2.1 st 24 (own_lim st tt))) = (0 : Int32)) from hg)).1) ?_
      show own_S p e below T1266 (mkF m 119 #[.val (.ref a0), .val (.ref a1), .val (.int f0), .val (.int tt), .val (.int st), .val (.int (st + (19 : Int32))), .val (.int (own_lim st tt)), .val (.int (own_run sg.2.2.2.2.1 st 24 (own_lim st tt))), x8, x9] []) _
      refine XS.iload X1266.here hx rfl (hb hby d9_119) rfl ?_
      refine XS.goto X1266.here hx rfl (pc0 := 121) (pc' := 126) rfl (hb hby d9_121) (by decide) (by decide) ?_
      show own_S p e below T1266 (mkF m 126 #[.val (.ref a0), .val (.ref a1), .val (.int f0), .val (.int tt), .val (.int st), .val (.int (st + (19 : Int32))), .val (.int (own_lim st tt)), .val (.int (own_run sg.2.2.2.2.1 st 24 (own_lim st tt))), x8, x9] [(.int st)]) _
      refine sg1267 _ ?_
      show own_S p e below T1266 (mkF m 126 #[.val (.ref a0), .val (.ref a1), .val (.int f0), .val (.int tt), .val (.int st), .val (.int (st + (19 : Int32))), .val (.int (own_lim st tt)), .val (.int (own_run sg.2.2.2.2.1 st 24 (own_lim st tt))), x8, x9] [(.int (own_from sg.2.2.2.2.1 st (own_lim st tt)))]) _
      refine XS.istore X1266.here hx rfl (hb hby d9_126) rfl (l' := #[.val (.ref a0), .val (.ref a1), .val (.int f0), .val (.int tt), .val (.int st), .val (.int (st + (19 : Int32))), .val (.int (own_lim st tt)), .val (.int (own_run sg.2.2.2.2.1 st 24 (own_lim st tt))), .val (.int (own_from sg.2.2.2.2.1 st (own_lim st tt))), x9]) (own_store1 rfl rfl cs_x8 rfl) ?_
      show own_S p e below T1266 (mkF m 128 #[.val (.ref a0), .val (.ref a1), .val (.int f0), .val (.int tt), .val (.int st), .val (.int (st + (19 : Int32))), .val (.int (own_lim st tt)), .val (.int (own_run sg.2.2.2.2.1 st 24 (own_lim st tt))), .val (.int (own_from sg.2.2.2.2.1 st (own_lim st tt))), x9] []) _
      refine XS.iload X1266.here hx rfl (hb hby d9_128) rfl ?_
      refine XS.istore X1266.here hx rfl (hb hby d9_130) rfl (l' := #[.val (.ref a0), .val (.ref a1), .val (.int f0), .val (.int tt), .val (.int st), .val (.int (st + (19 : Int32))), .val (.int (own_lim st tt)), .val (.int (own_run sg.2.2.2.2.1 st 24 (own_lim st tt))), .val (.int (own_from sg.2.2.2.2.1 st (own_lim st tt))), .val (.int (own_from sg.2.2.2.2.1 st (own_lim st tt)))]) (own_store1 rfl rfl cs_x9 rfl) ?_
      exact kt
  obtain ⟨T4, hLS4, hJ4, s4⟩ := own_forL l Z ag hw hx a0 a1 bd vb k1 kb n cs gf h0 n0 hN hG S_cs hcs S_gf rv_gf hml hby (f0 := f0) (tt := tt) (b4 := st) (b5 := (st + (19 : Int32))) (b6 := (own_lim st tt)) (b7 := (own_run sg.2.2.2.2.1 st 24 (own_lim st tt))) (b8 := (own_from sg.2.2.2.2.1 st (own_lim st tt))) hnn hc0 24 (own_from sg.2.2.2.2.1 st (own_lim st tt)) T3 sg k hLS3 hf2 (by have := hf2.1; have := hf2.2.2.1; have := hf2.2.2.2; omega) hJ (Int.le_trans hk hf1.2.1)
  refine ⟨T4, hLS4, hJ4, fun target kt => s1 target (s2 target (s3 target (s4 target ?_)))⟩
  obtain ⟨vm0, h, L, cells, slots, k0, X, e0, sz, N, kp, hS, hkS, hZ, hown, hC, hO, hF, hSv, hcl⟩ := hLS4
  have hEL : EW Z ag own_EL := own_ew hw
  obtain ⟨E_a0, F_row, F_er, F_de, F_h, E_bd, F_v, F_c, F_n, V_vb, V_a1⟩ := id hF
  obtain ⟨ne_a0_a1, ne_a0_bd, ne_a0_vb, ne_a1_bd, ne_a1_vb, ne_bd_vb⟩ := id hN
  obtain ⟨ge_a0, ge_a1, ge_bd, ge_vb⟩ := id hG
  show own_S p e below T4 (mkF m 152 #[.val (.ref a0), .val (.ref a1), .val (.int f0), .val (.int tt), .val (.int st), .val (.int (st + (19 : Int32))), .val (.int (own_lim st tt)), .val (.int (own_run sg.2.2.2.2.1 st 24 (own_lim st tt))), .val (.int (own_from sg.2.2.2.2.1 st (own_lim st tt))), .val (.int (own_lim st tt))] []) _
  refine XS.iload X.here hx rfl (hb hby d9_152) rfl ?_
  refine XS.istore X.here hx rfl (hb hby d9_154) rfl (l' := #[.val (.ref a0), .val (.ref a1), .val (.int f0), .val (.int tt), .val (.int (own_lim st tt)), .val (.int (st + (19 : Int32))), .val (.int (own_lim st tt)), .val (.int (own_run sg.2.2.2.2.1 st 24 (own_lim st tt))), .val (.int (own_from sg.2.2.2.2.1 st (own_lim st tt))), .val (.int (own_lim st tt))]) rfl ?_
  show own_S p e below T4 (mkF m 156 #[.val (.ref a0), .val (.ref a1), .val (.int f0), .val (.int tt), .val (.int (own_lim st tt)), .val (.int (st + (19 : Int32))), .val (.int (own_lim st tt)), .val (.int (own_run sg.2.2.2.2.1 st 24 (own_lim st tt))), .val (.int (own_from sg.2.2.2.2.1 st (own_lim st tt))), .val (.int (own_lim st tt))] []) _
  refine XS.goto X.here hx rfl (pc0 := 156) (pc' := 3) rfl (hb hby d9_156) (by decide) (by decide) ?_
  exact kt
theorem own_mf {x y t : Int} {f : Nat} (h : x < y) (hf : t - x ≤ ((f + 1 : Nat) : Int)) : t - y ≤ (f : Int) := by omega
theorem own_ltp {x y : Int} (h : y = x + 1) : x < y := by omega
theorem own_ltq {x y : Int} (h : y = x + 20) : x < y := by omega
theorem own_kp {x y : Int} {k : Nat} (hk : (k : Int) ≤ x) (he : y = x + 1) : ((k + 1 : Nat) : Int) ≤ y := by omega
theorem own_kl {x y : Int} {k : Nat} (hk : (k : Int) ≤ x) (he : x < y) : (k : Int) ≤ y := by omega
theorem own_k24 {x t n : Int} {k : Nat} (hk : (k : Int) ≤ x) (h2 : x ≤ t) (h3 : t ≤ n) (h4 : n ≤ 24) : k ≤ 24 := by omega
theorem own_20r {st tt n : Int32} (h : own_rg st tt n) (q : (st + (19 : Int32)) < tt) : (¬ (st + (19 : Int32)) < 0 ∧ (st + (19 : Int32)) < n) ∧ own_rg st ((st + (19 : Int32)) + (1 : Int32)) n ∧ own_rg ((st + (19 : Int32)) + (1 : Int32)) tt n := by
  obtain ⟨e1, e2⟩ := own_19 h
  obtain ⟨h1, h2, h3, h4⟩ := h
  generalize (st + (19 : Int32)) + (1 : Int32) = y at *
  generalize st + (19 : Int32) = x at *
  rw [Int32.lt_iff_toInt_lt] at q
  have z0 : (0 : Int32).toInt = 0 := rfl
  exact ⟨⟨by rw [Int32.lt_iff_toInt_lt, z0]; omega, by rw [Int32.lt_iff_toInt_lt]; omega⟩, ⟨h1, by omega, by omega, h4⟩, ⟨by omega, by omega, h3, h4⟩⟩
theorem own_k16 {c0 k : Nat} (h : c0 < 8) (hk : k ≤ 24) : c0 + (k - 19) < 16 := by omega
theorem own_k100 {k : Nat} (h : k ≤ 24) : k < 100 := by omega
theorem own_c100 {c0 : Nat} (h : c0 < 8) : c0 < 100 := by omega
theorem d9_3 : own_d9 3 (.iload 4) 2 := by decide +kernel
theorem d9_5 : own_d9 5 (.iload_n 3) 1 := by decide +kernel
theorem d9_6 : own_d9 6 (.if_icmp .ge 153) 3 := by decide +kernel
theorem d9_9 : own_d9 9 (.iload 4) 2 := by decide +kernel
theorem d9_11 : own_d9 11 (.bipush 19) 2 := by decide +kernel
theorem d9_13 : own_d9 13 .iadd 1 := by decide +kernel
theorem d9_14 : own_d9 14 (.istore 5) 2 := by decide +kernel
theorem d9_16 : own_d9 16 (.aload_n 0) 1 := by decide +kernel
theorem d9_17 : own_d9 17 (.getfield 46) 3 := by decide +kernel
theorem d9_20 : own_d9 20 (.ifCond .gt 10) 3 := by decide +kernel
theorem d9_23 : own_d9 23 (.aload_n 0) 1 := by decide +kernel
theorem d9_24 : own_d9 24 (.getfield 16) 3 := by decide +kernel
theorem d9_27 : own_d9 27 (.ifCond .lt 16) 3 := by decide +kernel
theorem d9_43 : own_d9 43 (.iload 5) 2 := by decide +kernel
theorem d9_45 : own_d9 45 (.iload_n 3) 1 := by decide +kernel
theorem d9_46 : own_d9 46 (.if_icmp .ge 23) 3 := by decide +kernel
theorem d9_49 : own_d9 49 (.aload_n 1) 1 := by decide +kernel
theorem d9_50 : own_d9 50 (.iload 4) 2 := by decide +kernel
theorem d9_52 : own_d9 52 (.iload 5) 2 := by decide +kernel
theorem d9_54 : own_d9 54 (.invokestatic 57) 3 := by decide +kernel
theorem d9_57 : own_d9 57 (.ifCond .eq 12) 3 := by decide +kernel
theorem d9_60 : own_d9 60 (.iload 5) 2 := by decide +kernel
theorem d9_62 : own_d9 62 (.iconst 1) 1 := by decide +kernel
theorem d9_63 : own_d9 63 .iadd 1 := by decide +kernel
theorem d9_64 : own_d9 64 (.istore 4) 2 := by decide +kernel
theorem d9_66 : own_d9 66 (.goto 90) 3 := by decide +kernel
theorem d9_30 : own_d9 30 (.aload_n 0) 1 := by decide +kernel
theorem d9_31 : own_d9 31 (.aload_n 1) 1 := by decide +kernel
theorem d9_32 : own_d9 32 (.iload 4) 2 := by decide +kernel
theorem d9_37 : own_d9 37 (.iinc 4 1) 3 := by decide +kernel
theorem d9_40 : own_d9 40 (.goto 116) 3 := by decide +kernel
theorem d9_34 : own_d9 34 (.invokevirtual 53) 3 := by decide +kernel
set_option maxHeartbeats 40000000 in
theorem own_maskL (l : Launch) (Z : State) (ag : Array Value) (hw : ∀ d ∈ tables_1, d.before ag Z = true) {p : Program} {e : Env} {s : State} {m : MethodId} {args : Array Value} {below : List Frame} {meth : Method} {c : Code} (hx : p.tables.exec = Jvm.exec) (a0 a1 bd vb : Addr) (k1 kb : ClassId) (n : Int32) (cs : Int32) (gf : Value) (h0 : Heap) (n0 : Nat) (hN : own_Nn a0 a1 bd vb) (hG : own_G n0 a0 a1 bd vb) (S_cs : Sta Z Z.heap "java/lang/String" "COMPACT_STRINGS" "Z" (.int cs)) (hcs : ¬ cs = (0 : Int32)) (S_gf : Sta Z Z.heap "jdk/internal/util/Preconditions" "SIOOBE_FORMATTER" "Ljava/util/function/BiFunction;" gf) (rv_gf : gf.isRef = true) (hml : c.maxLocals = 10) (hby : c.code = prog_32_method_5_code) {f0 tt : Int32} {nn c0 : Nat} (hnn : nn = n.toNatClampNeg) (hc0 : c0 < 8) : ∀ (f : Nat) (st : Int32) (T : State) (sg : own_Sg) (k : Nat) (x5 x6 x7 x8 x9 : Slot), own_c1 x5 → own_c1 x6 → own_c1 x7 → own_c1 x8 → own_c1 x9 → own_LS p l e ({ frames := 6, cells := 2, slots := 20, locals := 100 } : Room) s m args below meth c Z h0 n0 a0 a1 bd vb k1 kb n T sg → own_rg st tt n → tt.toInt - st.toInt ≤ (f : Int) → own_J nn c0 k sg → (k : Int) ≤ st.toInt → ∃ (T' : State) (b' : Int32) (y5 y6 y7 y8 y9 : Slot), own_LS p l e ({ frames := 6, cells := 2, slots := 20, locals := 100 } : Room) s m args below meth c Z h0 n0 a0 a1 bd vb k1 kb n T' (own_mask tt f st sg) ∧ own_J nn c0 24 (own_mask tt f st sg) ∧ ∀ target, Steps p.tables e below (T'.setTop (mkF m 159 #[.val (.ref a0), .val (.ref a1), .val (.int f0), .val (.int tt), .val (.int b'), y5, y6, y7, y8, y9] [])) target → Steps p.tables e below (T.setTop (mkF m 3 #[.val (.ref a0), .val (.ref a1), .val (.int f0), .val (.int tt), .val (.int st), x5, x6, x7, x8, x9] [])) target := by
  intro f
  induction f with
  | zero =>
    intro st T sg k x5 x6 x7 x8 x9 cs_x5 cs_x6 cs_x7 cs_x8 cs_x9 hLS hrg hf hJ hk
    obtain ⟨hr1, hr2, hr3, hr4⟩ := id hrg
    have hc : ¬ st < tt := own_nl hf rfl
    refine ⟨T, st, x5, x6, x7, x8, x9, hLS, hJ.mono (own_k24 hk hr2 hr3 hr4), fun target kt => ?_⟩
    obtain ⟨vm0, h, L, cells, slots, k0, X, e0, sz, N, kp, hS, hkS, hZ, hown, hC, hO, hF, hSv, hcl⟩ := hLS
    have hEL : EW Z ag own_EL := own_ew hw
    obtain ⟨E_a0, F_row, F_er, F_de, F_h, E_bd, F_v, F_c, F_n, V_vb, V_a1⟩ := id hF
    obtain ⟨ne_a0_a1, ne_a0_bd, ne_a0_vb, ne_a1_bd, ne_a1_vb, ne_bd_vb⟩ := id hN
    obtain ⟨ge_a0, ge_a1, ge_bd, ge_vb⟩ := id hG
    show own_S p e below T (mkF m 3 #[.val (.ref a0), .val (.ref a1), .val (.int f0), .val (.int tt), .val (.int st), x5, x6, x7, x8, x9] []) _
    refine XS.iload X.here hx rfl (hb hby d9_3) rfl ?_
    refine XS.iloadN X.here hx rfl (hb hby d9_5) rfl ?_
    refine XS.icmpYes X.here hx rfl (pc0 := 6) (pc' := 159) rfl (hb hby d9_6) rfl (flt (show ¬ (st < tt) from hc)).2.1 (by decide) (by decide) ?_
    exact kt
  | succ f ih =>
    intro st T sg k x5 x6 x7 x8 x9 cs_x5 cs_x6 cs_x7 cs_x8 cs_x9 hLS hrg hf hJ hk
    obtain ⟨hr1, hr2, hr3, hr4⟩ := id hrg
    by_cases hc : st < tt
    · by_cases hro : (0 : Int32) < sg.1
      · obtain ⟨T1, hLS1, s1⟩ : ∃ T1, own_LS p l e ({ frames := 6, cells := 2, slots := 20, locals := 100 } : Room) s m args below meth c Z h0 n0 a0 a1 bd vb k1 kb n T1 sg ∧ ∀ target, Steps p.tables e below (T1.setTop (mkF m 34 #[.val (.ref a0), .val (.ref a1), .val (.int f0), .val (.int tt), .val (.int st), .val (.int (st + (19 : Int32))), x6, x7, x8, x9] [(.int st), (.ref a1), (.ref a0)])) target → Steps p.tables e below (T.setTop (mkF m 3 #[.val (.ref a0), .val (.ref a1), .val (.int f0), .val (.int tt), .val (.int st), x5, x6, x7, x8, x9] [])) target := by
          obtain ⟨vm0, h, L, cells, slots, k0, X, e0, sz, N, kp, hS, hkS, hZ, hown, hC, hO, hF, hSv, hcl⟩ := hLS
          have hEL : EW Z ag own_EL := own_ew hw
          obtain ⟨E_a0, F_row, F_er, F_de, F_h, E_bd, F_v, F_c, F_n, V_vb, V_a1⟩ := id hF
          obtain ⟨ne_a0_a1, ne_a0_bd, ne_a0_vb, ne_a1_bd, ne_a1_vb, ne_bd_vb⟩ := id hN
          obtain ⟨ge_a0, ge_a1, ge_bd, ge_vb⟩ := id hG
          obtain ⟨T1271, X1271, e1271, st1271⟩ := getF X hx hZ hown (host := "") (Or.inl (own_wk hw 55 rfl)) Via.refl e0 F_row (g := (mkF m 17 #[.val (.ref a0), .val (.ref a1), .val (.int f0), .val (.int tt), .val (.int st), .val (.int (st + (19 : Int32))), x6, x7, x8, x9] [(.ref a0)])) rfl rfl (hb hby d9_17)
          refine ⟨_, ⟨_, _, _, _, _, _, X1271, e1271, sz, N, kp, hS, hkS, hZ, hown, hC, hO, ⟨E_a0, F_row, F_er, F_de, F_h, E_bd, F_v, F_c, F_n, V_vb, V_a1⟩, hSv, hcl⟩, fun target kt => ?_⟩
          show own_S p e below T (mkF m 3 #[.val (.ref a0), .val (.ref a1), .val (.int f0), .val (.int tt), .val (.int st), x5, x6, x7, x8, x9] []) _
          refine XS.iload X.here hx rfl (hb hby d9_3) rfl ?_
          refine XS.iloadN X.here hx rfl (hb hby d9_5) rfl ?_
          refine XS.icmpNo X.here hx rfl (hb hby d9_6) rfl (tlt (show st < tt from hc)).2.1 ?_
          show own_S p e below T (mkF m 9 #[.val (.ref a0), .val (.ref a1), .val (.int f0), .val (.int tt), .val (.int st), x5, x6, x7, x8, x9] []) _
          refine XS.iload X.here hx rfl (hb hby d9_9) rfl ?_
          refine XS.bipush X.here hx rfl (hb hby d9_11) ?_
          refine XS.iadd X.here hx rfl (hb hby d9_13) rfl ?_
          refine XS.istore X.here hx rfl (hb hby d9_14) rfl (l' := #[.val (.ref a0), .val (.ref a1), .val (.int f0), .val (.int tt), .val (.int st), .val (.int (st + (19 : Int32))), x6, x7, x8, x9]) (own_store1 rfl rfl cs_x5 rfl) ?_
          show own_S p e below T (mkF m 16 #[.val (.ref a0), .val (.ref a1), .val (.int f0), .val (.int tt), .val (.int st), .val (.int (st + (19 : Int32))), x6, x7, x8, x9] []) _
          refine XS.aloadN X.here hx rfl (hb hby d9_16) rfl rfl ?_
          show own_S p e below T (mkF m 17 #[.val (.ref a0), .val (.ref a1), .val (.int f0), .val (.int tt), .val (.int st), .val (.int (st + (19 : Int32))), x6, x7, x8, x9] [(.ref a0)]) _
          refine st1271 _ ?_
          show own_S p e below T1271 (mkF m 20 #[.val (.ref a0), .val (.ref a1), .val (.int f0), .val (.int tt), .val (.int st), .val (.int (st + (19 : Int32))), x6, x7, x8, x9] [(.int sg.1)]) _
          refine XS.ifYes X1271.here hx rfl (pc0 := 20) (pc' := 30) rfl (hb hby d9_20) rfl ((if0 _ _).trans (tlt (show (0 : Int32) < sg.1 from hro)).2.2.1) (by decide) (by decide) ?_
          show own_S p e below T1271 (mkF m 30 #[.val (.ref a0), .val (.ref a1), .val (.int f0), .val (.int tt), .val (.int st), .val (.int (st + (19 : Int32))), x6, x7, x8, x9] []) _
          refine XS.aloadN X1271.here hx rfl (hb hby d9_30) rfl rfl ?_
          refine XS.aloadN X1271.here hx rfl (hb hby d9_31) rfl rfl ?_
          refine XS.iload X1271.here hx rfl (hb hby d9_32) rfl ?_
          exact kt
        obtain ⟨hi1, hrg1, he1⟩ := own_i1 hrg hc
        obtain ⟨T2, hLS2, s2⟩ := own_stepT l Z ag hw hx a0 a1 bd vb k1 kb n cs gf h0 n0 hN hG S_cs hcs S_gf rv_gf hLS1 hi1 (hJ.kk hnn (own_k16 hc0 (own_k24 hk hr2 hr3 hr4))) (pc0 := 34) (Ls := #[.val (.ref a0), .val (.ref a1), .val (.int f0), .val (.int tt), .val (.int st), .val (.int (st + (19 : Int32))), x6, x7, x8, x9]) (by rw [hml]; rfl) (hb hby d9_34)
        have dn : ∀ target, Steps p.tables e below (T2.setTop (mkF m 3 #[.val (.ref a0), .val (.ref a1), .val (.int f0), .val (.int tt), .val (.int (st + (1 : Int32))), .val (.int (st + (19 : Int32))), x6, x7, x8, x9] [])) target → Steps p.tables e below (T2.setTop (mkF m 37 #[.val (.ref a0), .val (.ref a1), .val (.int f0), .val (.int tt), .val (.int st), .val (.int (st + (19 : Int32))), x6, x7, x8, x9] [])) target := by
          intro target kt
          obtain ⟨vm1, h1, L1, cells1, slots1, k01, X1, -⟩ := id hLS2
          show own_S p e below T2 (mkF m 37 #[.val (.ref a0), .val (.ref a1), .val (.int f0), .val (.int tt), .val (.int st), .val (.int (st + (19 : Int32))), x6, x7, x8, x9] []) _
          refine XS.iinc X1.here hx rfl (hb hby d9_37) rfl (l' := #[.val (.ref a0), .val (.ref a1), .val (.int f0), .val (.int tt), .val (.int (st + (1 : Int32))), .val (.int (st + (19 : Int32))), x6, x7, x8, x9]) rfl ?_
          show own_S p e below T2 (mkF m 40 #[.val (.ref a0), .val (.ref a1), .val (.int f0), .val (.int tt), .val (.int (st + (1 : Int32))), .val (.int (st + (19 : Int32))), x6, x7, x8, x9] []) _
          refine XS.goto X1.here hx rfl (pc0 := 40) (pc' := 156) rfl (hb hby d9_40) (by decide) (by decide) ?_
          show own_S p e below T2 (mkF m 156 #[.val (.ref a0), .val (.ref a1), .val (.int f0), .val (.int tt), .val (.int (st + (1 : Int32))), .val (.int (st + (19 : Int32))), x6, x7, x8, x9] []) _
          refine XS.goto X1.here hx rfl (pc0 := 156) (pc' := 3) rfl (hb hby d9_156) (by decide) (by decide) ?_
          exact kt
        obtain ⟨T', b', y5, y6, y7, y8, y9, hLS', hJ', sT⟩ := ih (st + (1 : Int32)) T2 (own_take st sg) (k + 1) (.val (.int (st + (19 : Int32)))) x6 x7 x8 x9 (Or.inr ⟨_, rfl, rfl⟩) cs_x6 cs_x7 cs_x8 cs_x9 hLS2 hrg1 (own_mf (own_ltp he1) hf) (hJ.take (own_k100 (own_k24 hk hr2 hr3 hr4)) (own_c100 hc0)) (own_kp hk he1)
        have hme : own_mask tt (f + 1) st sg = own_mask tt f (st + (1 : Int32)) (own_take st sg) := (if_pos hc).trans (if_pos hro)
        refine ⟨T', b', y5, y6, y7, y8, y9, by rw [hme]; exact hLS', by rw [hme]; exact hJ', fun target kt => s1 target (s2 target (dn target (sT target kt)))⟩
      · by_cases her : sg.2.1 < (0 : Int32)
        · by_cases h19 : (st + (19 : Int32)) < tt
          · by_cases hen : own_ends sg.2.2.2.2.1 st (st + (19 : Int32)) = (0 : Int32)
            · obtain ⟨T1, hLS1, s1⟩ : ∃ T1, own_LS p l e ({ frames := 6, cells := 2, slots := 20, locals := 100 } : Room) s m args below meth c Z h0 n0 a0 a1 bd vb k1 kb n T1 sg ∧ ∀ target, Steps p.tables e below (T1.setTop (mkF m 69 #[.val (.ref a0), .val (.ref a1), .val (.int f0), .val (.int tt), .val (.int st), .val (.int (st + (19 : Int32))), x6, x7, x8, x9] [])) target → Steps p.tables e below (T.setTop (mkF m 3 #[.val (.ref a0), .val (.ref a1), .val (.int f0), .val (.int tt), .val (.int st), x5, x6, x7, x8, x9] [])) target := by
                obtain ⟨vm0, h, L, cells, slots, k0, X, e0, sz, N, kp, hS, hkS, hZ, hown, hC, hO, hF, hSv, hcl⟩ := hLS
                have hEL : EW Z ag own_EL := own_ew hw
                obtain ⟨E_a0, F_row, F_er, F_de, F_h, E_bd, F_v, F_c, F_n, V_vb, V_a1⟩ := id hF
                obtain ⟨ne_a0_a1, ne_a0_bd, ne_a0_vb, ne_a1_bd, ne_a1_vb, ne_bd_vb⟩ := id hN
                obtain ⟨ge_a0, ge_a1, ge_bd, ge_vb⟩ := id hG
                obtain ⟨T1272, X1272, e1272, st1272⟩ := getF X hx hZ hown (host := "") (Or.inl (own_wk hw 55 rfl)) Via.refl e0 F_row (g := (mkF m 17 #[.val (.ref a0), .val (.ref a1), .val (.int f0), .val (.int tt), .val (.int st), .val (.int (st + (19 : Int32))), x6, x7, x8, x9] [(.ref a0)])) rfl rfl (hb hby d9_17)
                obtain ⟨T1273, X1273, e1273, st1273⟩ := getF X1272 hx hZ hown (host := "") (Or.inl (own_wk hw 48 rfl)) Via.refl e1272 F_er (g := (mkF m 24 #[.val (.ref a0), .val (.ref a1), .val (.int f0), .val (.int tt), .val (.int st), .val (.int (st + (19 : Int32))), x6, x7, x8, x9] [(.ref a0)])) rfl rfl (hb hby d9_24)
                obtain ⟨_, _, ⟨T1274, L1274, k1274, n1274⟩, -, X1274, ⟨Lc1274, hQ1274, l1274, y1274, z1274⟩, st1274⟩ := Jvm.LawKit.callS X1273 hx (y := (⟨"com/example/needle_in_json/needleinjson/MaskedDigits", "endsRowAndEscape", "([CII)Z"⟩ : MethodName)) hown (mvT hZ (own_wk hw 98 rfl)) (mvT hZ (own_wk hw 99 rfl)) (mvT hZ (own_wk hw 19 rfl)) (mvT hZ (own_wk hw 100 rfl)) (by decide) (backOf (W := 0) (rm19 l Z ag hw [] a1 st (st + (19 : Int32)) k1 n sg.2.2.2.2.1 h n0 sz V_a1 (own_20r hrg h19).1 (own_20r hrg h19).2.1) hZ (own_wk hw 100 rfl) (own_wk hw 19 rfl) (by decide) (by decide)) (g := (mkF m 54 #[.val (.ref a0), .val (.ref a1), .val (.int f0), .val (.int tt), .val (.int st), .val (.int (st + (19 : Int32))), x6, x7, x8, x9] [(.int (st + (19 : Int32))), (.int st), (.ref a1)])) rfl (by rw [hml]; rfl) (argsL := [(.ref a1), (.int st), (.int (st + (19 : Int32)))]) (rest := []) (lenOf pd_21 rfl) rfl (by show 2 * 0 + _ ≤ _; exact Nat.le_of_eq rfl) (hb hby d9_54) (fun _ _ => ⟨rfl, e1273, (own_le2 hcl).1, (own_le2 hcl).2⟩)
                dsimp only [Pt.U, Pt.locs, Pt.cells, Pt.slots] at X1274 l1274 y1274 z1274 st1274 hQ1274
                subst l1274 y1274 z1274
                obtain ⟨rfl, N1274q, e1274⟩ := hQ1274
                have N1274 := Fr.app N N1274q
                refine ⟨_, ⟨_, _, _, _, _, _, X1274, e1274, sz, N1274, kp, hS, hkS, hZ, hown, hC, hO, ⟨E_a0, F_row, F_er, F_de, F_h, E_bd, F_v, F_c, F_n, V_vb, V_a1⟩, hSv, hcl⟩, fun target kt => ?_⟩
                show own_S p e below T (mkF m 3 #[.val (.ref a0), .val (.ref a1), .val (.int f0), .val (.int tt), .val (.int st), x5, x6, x7, x8, x9] []) _
                refine XS.iload X.here hx rfl (hb hby d9_3) rfl ?_
                refine XS.iloadN X.here hx rfl (hb hby d9_5) rfl ?_
                refine XS.icmpNo X.here hx rfl (hb hby d9_6) rfl (tlt (show st < tt from hc)).2.1 ?_
                show own_S p e below T (mkF m 9 #[.val (.ref a0), .val (.ref a1), .val (.int f0), .val (.int tt), .val (.int st), x5, x6, x7, x8, x9] []) _
                refine XS.iload X.here hx rfl (hb hby d9_9) rfl ?_
                refine XS.bipush X.here hx rfl (hb hby d9_11) ?_
                refine XS.iadd X.here hx rfl (hb hby d9_13) rfl ?_
                refine XS.istore X.here hx rfl (hb hby d9_14) rfl (l' := #[.val (.ref a0), .val (.ref a1), .val (.int f0), .val (.int tt), .val (.int st), .val (.int (st + (19 : Int32))), x6, x7, x8, x9]) (own_store1 rfl rfl cs_x5 rfl) ?_
                show own_S p e below T (mkF m 16 #[.val (.ref a0), .val (.ref a1), .val (.int f0), .val (.int tt), .val (.int st), .val (.int (st + (19 : Int32))), x6, x7, x8, x9] []) _
                refine XS.aloadN X.here hx rfl (hb hby d9_16) rfl rfl ?_
                show own_S p e below T (mkF m 17 #[.val (.ref a0), .val (.ref a1), .val (.int f0), .val (.int tt), .val (.int st), .val (.int (st + (19 : Int32))), x6, x7, x8, x9] [(.ref a0)]) _
                refine st1272 _ ?_
                show own_S p e below T1272 (mkF m 20 #[.val (.ref a0), .val (.ref a1), .val (.int f0), .val (.int tt), .val (.int st), .val (.int (st + (19 : Int32))), x6, x7, x8, x9] [(.int sg.1)]) _
                refine XS.ifNo X1272.here hx rfl (hb hby d9_20) rfl ((if0 _ _).trans (flt (show ¬ ((0 : Int32) < sg.1) from hro)).2.2.1) ?_
                show own_S p e below T1272 (mkF m 23 #[.val (.ref a0), .val (.ref a1), .val (.int f0), .val (.int tt), .val (.int st), .val (.int (st + (19 : Int32))), x6, x7, x8, x9] []) _
                refine XS.aloadN X1272.here hx rfl (hb hby d9_23) rfl rfl ?_
                show own_S p e below T1272 (mkF m 24 #[.val (.ref a0), .val (.ref a1), .val (.int f0), .val (.int tt), .val (.int st), .val (.int (st + (19 : Int32))), x6, x7, x8, x9] [(.ref a0)]) _
                refine st1273 _ ?_
                show own_S p e below T1273 (mkF m 27 #[.val (.ref a0), .val (.ref a1), .val (.int f0), .val (.int tt), .val (.int st), .val (.int (st + (19 : Int32))), x6, x7, x8, x9] [(.int sg.2.1)]) _
                refine XS.ifYes X1273.here hx rfl (pc0 := 27) (pc' := 43) rfl (hb hby d9_27) rfl ((if0 _ _).trans (tlt (show sg.2.1 < (0 : Int32) from her)).1) (by decide) (by decide) ?_
                show own_S p e below T1273 (mkF m 43 #[.val (.ref a0), .val (.ref a1), .val (.int f0), .val (.int tt), .val (.int st), .val (.int (st + (19 : Int32))), x6, x7, x8, x9] []) _
                refine XS.iload X1273.here hx rfl (hb hby d9_43) rfl ?_
                refine XS.iloadN X1273.here hx rfl (hb hby d9_45) rfl ?_
                refine XS.icmpNo X1273.here hx rfl (hb hby d9_46) rfl (tlt (show (st + (19 : Int32)) < tt from h19)).2.1 ?_
                show own_S p e below T1273 (mkF m 49 #[.val (.ref a0), .val (.ref a1), .val (.int f0), .val (.int tt), .val (.int st), .val (.int (st + (19 : Int32))), x6, x7, x8, x9] []) _
                refine XS.aloadN X1273.here hx rfl (hb hby d9_49) rfl rfl ?_
                refine XS.iload X1273.here hx rfl (hb hby d9_50) rfl ?_
                refine XS.iload X1273.here hx rfl (hb hby d9_52) rfl ?_
                show own_S p e below T1273 (mkF m 54 #[.val (.ref a0), .val (.ref a1), .val (.int f0), .val (.int tt), .val (.int st), .val (.int (st + (19 : Int32))), x6, x7, x8, x9] [(.int (st + (19 : Int32))), (.int st), (.ref a1)]) _
                refine st1274 _ ?_
                show own_S p e below T1274 (mkF m 57 #[.val (.ref a0), .val (.ref a1), .val (.int f0), .val (.int tt), .val (.int st), .val (.int (st + (19 : Int32))), x6, x7, x8, x9] [(.int (own_ends sg.2.2.2.2.1 st (st + (19 : Int32))))]) _
                refine XS.ifYes X1274.here hx rfl (pc0 := 57) (pc' := 69) rfl (hb hby d9_57) rfl ((if0 _ _).trans (teq (show (own_ends sg.2.2.2.2.1 st (st + (19 : Int32))) = (0 : Int32) from hen)).1) (by decide) (by decide) ?_
                exact kt
              obtain ⟨hl1, hl2, hl3⟩ := own_limr hrg hc
              obtain ⟨T2, hLS2, hJ2, s2⟩ := own_bodyL l Z ag hw hx a0 a1 bd vb k1 kb n cs gf h0 n0 hN hG S_cs hcs S_gf rv_gf hml hby (f0 := f0) (x6 := x6) (x7 := x7) (x8 := x8) (x9 := x9) cs_x6 cs_x7 cs_x8 cs_x9 hnn hc0 hLS1 hrg hc hJ hk
              obtain ⟨T', b', y5, y6, y7, y8, y9, hLS', hJ', sT⟩ := ih (own_lim st tt) T2 (own_body tt st sg) _ (.val (.int (st + (19 : Int32)))) (.val (.int (own_lim st tt))) (.val (.int (own_run sg.2.2.2.2.1 st 24 (own_lim st tt)))) (.val (.int (own_from sg.2.2.2.2.1 st (own_lim st tt)))) (.val (.int (own_lim st tt))) (Or.inr ⟨_, rfl, rfl⟩) (Or.inr ⟨_, rfl, rfl⟩) (Or.inr ⟨_, rfl, rfl⟩) (Or.inr ⟨_, rfl, rfl⟩) (Or.inr ⟨_, rfl, rfl⟩) hLS2 hl2 (own_mf hl3 hf) hJ2 (Int.le_of_eq (Int.toNat_of_nonneg hl2.1))
              have hme : own_mask tt (f + 1) st sg = own_mask tt f (own_lim st tt) (own_body tt st sg) := (if_pos hc).trans ((if_neg hro).trans ((if_pos her).trans ((if_pos h19).trans (if_pos hen))))
              refine ⟨T', b', y5, y6, y7, y8, y9, by rw [hme]; exact hLS', by rw [hme]; exact hJ', fun target kt => s1 target (s2 target (sT target kt))⟩
            · obtain ⟨T1, hLS1, s1⟩ : ∃ T1, own_LS p l e ({ frames := 6, cells := 2, slots := 20, locals := 100 } : Room) s m args below meth c Z h0 n0 a0 a1 bd vb k1 kb n T1 sg ∧ ∀ target, Steps p.tables e below (T1.setTop (mkF m 3 #[.val (.ref a0), .val (.ref a1), .val (.int f0), .val (.int tt), .val (.int ((st + (19 : Int32)) + (1 : Int32))), .val (.int (st + (19 : Int32))), x6, x7, x8, x9] [])) target → Steps p.tables e below (T.setTop (mkF m 3 #[.val (.ref a0), .val (.ref a1), .val (.int f0), .val (.int tt), .val (.int st), x5, x6, x7, x8, x9] [])) target := by
                obtain ⟨vm0, h, L, cells, slots, k0, X, e0, sz, N, kp, hS, hkS, hZ, hown, hC, hO, hF, hSv, hcl⟩ := hLS
                have hEL : EW Z ag own_EL := own_ew hw
                obtain ⟨E_a0, F_row, F_er, F_de, F_h, E_bd, F_v, F_c, F_n, V_vb, V_a1⟩ := id hF
                obtain ⟨ne_a0_a1, ne_a0_bd, ne_a0_vb, ne_a1_bd, ne_a1_vb, ne_bd_vb⟩ := id hN
                obtain ⟨ge_a0, ge_a1, ge_bd, ge_vb⟩ := id hG
                obtain ⟨T1268, X1268, e1268, st1268⟩ := getF X hx hZ hown (host := "") (Or.inl (own_wk hw 55 rfl)) Via.refl e0 F_row (g := (mkF m 17 #[.val (.ref a0), .val (.ref a1), .val (.int f0), .val (.int tt), .val (.int st), .val (.int (st + (19 : Int32))), x6, x7, x8, x9] [(.ref a0)])) rfl rfl (hb hby d9_17)
                obtain ⟨T1269, X1269, e1269, st1269⟩ := getF X1268 hx hZ hown (host := "") (Or.inl (own_wk hw 48 rfl)) Via.refl e1268 F_er (g := (mkF m 24 #[.val (.ref a0), .val (.ref a1), .val (.int f0), .val (.int tt), .val (.int st), .val (.int (st + (19 : Int32))), x6, x7, x8, x9] [(.ref a0)])) rfl rfl (hb hby d9_24)
                obtain ⟨_, _, ⟨T1270, L1270, k1270, n1270⟩, -, X1270, ⟨Lc1270, hQ1270, l1270, y1270, z1270⟩, st1270⟩ := Jvm.LawKit.callS X1269 hx (y := (⟨"com/example/needle_in_json/needleinjson/MaskedDigits", "endsRowAndEscape", "([CII)Z"⟩ : MethodName)) hown (mvT hZ (own_wk hw 98 rfl)) (mvT hZ (own_wk hw 99 rfl)) (mvT hZ (own_wk hw 19 rfl)) (mvT hZ (own_wk hw 100 rfl)) (by decide) (backOf (W := 0) (rm19 l Z ag hw [] a1 st (st + (19 : Int32)) k1 n sg.2.2.2.2.1 h n0 sz V_a1 (own_20r hrg h19).1 (own_20r hrg h19).2.1) hZ (own_wk hw 100 rfl) (own_wk hw 19 rfl) (by decide) (by decide)) (g := (mkF m 54 #[.val (.ref a0), .val (.ref a1), .val (.int f0), .val (.int tt), .val (.int st), .val (.int (st + (19 : Int32))), x6, x7, x8, x9] [(.int (st + (19 : Int32))), (.int st), (.ref a1)])) rfl (by rw [hml]; rfl) (argsL := [(.ref a1), (.int st), (.int (st + (19 : Int32)))]) (rest := []) (lenOf pd_21 rfl) rfl (by show 2 * 0 + _ ≤ _; exact Nat.le_of_eq rfl) (hb hby d9_54) (fun _ _ => ⟨rfl, e1269, (own_le2 hcl).1, (own_le2 hcl).2⟩)
                dsimp only [Pt.U, Pt.locs, Pt.cells, Pt.slots] at X1270 l1270 y1270 z1270 st1270 hQ1270
                subst l1270 y1270 z1270
                obtain ⟨rfl, N1270q, e1270⟩ := hQ1270
                have N1270 := Fr.app N N1270q
                refine ⟨_, ⟨_, _, _, _, _, _, X1270, e1270, sz, N1270, kp, hS, hkS, hZ, hown, hC, hO, ⟨E_a0, F_row, F_er, F_de, F_h, E_bd, F_v, F_c, F_n, V_vb, V_a1⟩, hSv, hcl⟩, fun target kt => ?_⟩
                show own_S p e below T (mkF m 3 #[.val (.ref a0), .val (.ref a1), .val (.int f0), .val (.int tt), .val (.int st), x5, x6, x7, x8, x9] []) _
                refine XS.iload X.here hx rfl (hb hby d9_3) rfl ?_
                refine XS.iloadN X.here hx rfl (hb hby d9_5) rfl ?_
                refine XS.icmpNo X.here hx rfl (hb hby d9_6) rfl (tlt (show st < tt from hc)).2.1 ?_
                show own_S p e below T (mkF m 9 #[.val (.ref a0), .val (.ref a1), .val (.int f0), .val (.int tt), .val (.int st), x5, x6, x7, x8, x9] []) _
                refine XS.iload X.here hx rfl (hb hby d9_9) rfl ?_
                refine XS.bipush X.here hx rfl (hb hby d9_11) ?_
                refine XS.iadd X.here hx rfl (hb hby d9_13) rfl ?_
                refine XS.istore X.here hx rfl (hb hby d9_14) rfl (l' := #[.val (.ref a0), .val (.ref a1), .val (.int f0), .val (.int tt), .val (.int st), .val (.int (st + (19 : Int32))), x6, x7, x8, x9]) (own_store1 rfl rfl cs_x5 rfl) ?_
                show own_S p e below T (mkF m 16 #[.val (.ref a0), .val (.ref a1), .val (.int f0), .val (.int tt), .val (.int st), .val (.int (st + (19 : Int32))), x6, x7, x8, x9] []) _
                refine XS.aloadN X.here hx rfl (hb hby d9_16) rfl rfl ?_
                show own_S p e below T (mkF m 17 #[.val (.ref a0), .val (.ref a1), .val (.int f0), .val (.int tt), .val (.int st), .val (.int (st + (19 : Int32))), x6, x7, x8, x9] [(.ref a0)]) _
                refine st1268 _ ?_
                show own_S p e below T1268 (mkF m 20 #[.val (.ref a0), .val (.ref a1), .val (.int f0), .val (.int tt), .val (.int st), .val (.int (st + (19 : Int32))), x6, x7, x8, x9] [(.int sg.1)]) _
                refine XS.ifNo X1268.here hx rfl (hb hby d9_20) rfl ((if0 _ _).trans (flt (show ¬ ((0 : Int32) < sg.1) from hro)).2.2.1) ?_
                show own_S p e below T1268 (mkF m 23 #[.val (.ref a0), .val (.ref a1), .val (.int f0), .val (.int tt), .val (.int st), .val (.int (st + (19 : Int32))), x6, x7, x8, x9] []) _
                refine XS.aloadN X1268.here hx rfl (hb hby d9_23) rfl rfl ?_
                show own_S p e below T1268 (mkF m 24 #[.val (.ref a0), .val (.ref a1), .val (.int f0), .val (.int tt), .val (.int st), .val (.int (st + (19 : Int32))), x6, x7, x8, x9] [(.ref a0)]) _
                refine st1269 _ ?_
                show own_S p e below T1269 (mkF m 27 #[.val (.ref a0), .val (.ref a1), .val (.int f0), .val (.int tt), .val (.int st), .val (.int (st + (19 : Int32))), x6, x7, x8, x9] [(.int sg.2.1)]) _
                refine XS.ifYes X1269.here hx rfl (pc0 := 27) (pc' := 43) rfl (hb hby d9_27) rfl ((if0 _ _).trans (tlt (show sg.2.1 < (0 : Int32) from her)).1) (by decide) (by decide) ?_
                show own_S p e below T1269 (mkF m 43 #[.val (.ref a0), .val (.ref a1), .val (.int f0), .val (.int tt), .val (.int st), .val (.int (st + (19 : Int32))), x6, x7, x8, x9] []) _
                refine XS.iload X1269.here hx rfl (hb hby d9_43) rfl ?_
                refine XS.iloadN X1269.here hx rfl (hb hby d9_45) rfl ?_
                refine XS.icmpNo X1269.here hx rfl (hb hby d9_46) rfl (tlt (show (st + (19 : Int32)) < tt from h19)).2.1 ?_
                show own_S p e below T1269 (mkF m 49 #[.val (.ref a0), .val (.ref a1), .val (.int f0), .val (.int tt), .val (.int st), .val (.int (st + (19 : Int32))), x6, x7, x8, x9] []) _
                refine XS.aloadN X1269.here hx rfl (hb hby d9_49) rfl rfl ?_
                refine XS.iload X1269.here hx rfl (hb hby d9_50) rfl ?_
                refine XS.iload X1269.here hx rfl (hb hby d9_52) rfl ?_
                show own_S p e below T1269 (mkF m 54 #[.val (.ref a0), .val (.ref a1), .val (.int f0), .val (.int tt), .val (.int st), .val (.int (st + (19 : Int32))), x6, x7, x8, x9] [(.int (st + (19 : Int32))), (.int st), (.ref a1)]) _
                refine st1270 _ ?_
                show own_S p e below T1270 (mkF m 57 #[.val (.ref a0), .val (.ref a1), .val (.int f0), .val (.int tt), .val (.int st), .val (.int (st + (19 : Int32))), x6, x7, x8, x9] [(.int (own_ends sg.2.2.2.2.1 st (st + (19 : Int32))))]) _
                refine XS.ifNo X1270.here hx rfl (hb hby d9_57) rfl ((if0 _ _).trans (feq (show ¬ ((own_ends sg.2.2.2.2.1 st (st + (19 : Int32))) = (0 : Int32)) from hen)).1) ?_
                show own_S p e below T1270 (mkF m 60 #[.val (.ref a0), .val (.ref a1), .val (.int f0), .val (.int tt), .val (.int st), .val (.int (st + (19 : Int32))), x6, x7, x8, x9] []) _
                refine XS.iload X1270.here hx rfl (hb hby d9_60) rfl ?_
                refine XS.iconst X1270.here hx rfl (hb hby d9_62) ?_
                refine XS.iadd X1270.here hx rfl (hb hby d9_63) rfl ?_
                refine XS.istore X1270.here hx rfl (hb hby d9_64) rfl (l' := #[.val (.ref a0), .val (.ref a1), .val (.int f0), .val (.int tt), .val (.int ((st + (19 : Int32)) + (1 : Int32))), .val (.int (st + (19 : Int32))), x6, x7, x8, x9]) rfl ?_
                show own_S p e below T1270 (mkF m 66 #[.val (.ref a0), .val (.ref a1), .val (.int f0), .val (.int tt), .val (.int ((st + (19 : Int32)) + (1 : Int32))), .val (.int (st + (19 : Int32))), x6, x7, x8, x9] []) _
                refine XS.goto X1270.here hx rfl (pc0 := 66) (pc' := 156) rfl (hb hby d9_66) (by decide) (by decide) ?_
                show own_S p e below T1270 (mkF m 156 #[.val (.ref a0), .val (.ref a1), .val (.int f0), .val (.int tt), .val (.int ((st + (19 : Int32)) + (1 : Int32))), .val (.int (st + (19 : Int32))), x6, x7, x8, x9] []) _
                refine XS.goto X1270.here hx rfl (pc0 := 156) (pc' := 3) rfl (hb hby d9_156) (by decide) (by decide) ?_
                exact kt
              obtain ⟨-, -, hrg1⟩ := own_20r hrg h19
              obtain ⟨T', b', y5, y6, y7, y8, y9, hLS', hJ', sT⟩ := ih ((st + (19 : Int32)) + (1 : Int32)) T1 sg k (.val (.int (st + (19 : Int32)))) x6 x7 x8 x9 (Or.inr ⟨_, rfl, rfl⟩) cs_x6 cs_x7 cs_x8 cs_x9 hLS1 hrg1 (own_mf (own_ltq (own_19 hrg).2) hf) hJ (own_kl hk (own_ltq (own_19 hrg).2))
              have hme : own_mask tt (f + 1) st sg = own_mask tt f ((st + (19 : Int32)) + (1 : Int32)) sg := (if_pos hc).trans ((if_neg hro).trans ((if_pos her).trans ((if_pos h19).trans (if_neg hen))))
              refine ⟨T', b', y5, y6, y7, y8, y9, by rw [hme]; exact hLS', by rw [hme]; exact hJ', fun target kt => s1 target (sT target kt)⟩
          · obtain ⟨T1, hLS1, s1⟩ : ∃ T1, own_LS p l e ({ frames := 6, cells := 2, slots := 20, locals := 100 } : Room) s m args below meth c Z h0 n0 a0 a1 bd vb k1 kb n T1 sg ∧ ∀ target, Steps p.tables e below (T1.setTop (mkF m 69 #[.val (.ref a0), .val (.ref a1), .val (.int f0), .val (.int tt), .val (.int st), .val (.int (st + (19 : Int32))), x6, x7, x8, x9] [])) target → Steps p.tables e below (T.setTop (mkF m 3 #[.val (.ref a0), .val (.ref a1), .val (.int f0), .val (.int tt), .val (.int st), x5, x6, x7, x8, x9] [])) target := by
              obtain ⟨vm0, h, L, cells, slots, k0, X, e0, sz, N, kp, hS, hkS, hZ, hown, hC, hO, hF, hSv, hcl⟩ := hLS
              have hEL : EW Z ag own_EL := own_ew hw
              obtain ⟨E_a0, F_row, F_er, F_de, F_h, E_bd, F_v, F_c, F_n, V_vb, V_a1⟩ := id hF
              obtain ⟨ne_a0_a1, ne_a0_bd, ne_a0_vb, ne_a1_bd, ne_a1_vb, ne_bd_vb⟩ := id hN
              obtain ⟨ge_a0, ge_a1, ge_bd, ge_vb⟩ := id hG
              obtain ⟨T1275, X1275, e1275, st1275⟩ := getF X hx hZ hown (host := "") (Or.inl (own_wk hw 55 rfl)) Via.refl e0 F_row (g := (mkF m 17 #[.val (.ref a0), .val (.ref a1), .val (.int f0), .val (.int tt), .val (.int st), .val (.int (st + (19 : Int32))), x6, x7, x8, x9] [(.ref a0)])) rfl rfl (hb hby d9_17)
              obtain ⟨T1276, X1276, e1276, st1276⟩ := getF X1275 hx hZ hown (host := "") (Or.inl (own_wk hw 48 rfl)) Via.refl e1275 F_er (g := (mkF m 24 #[.val (.ref a0), .val (.ref a1), .val (.int f0), .val (.int tt), .val (.int st), .val (.int (st + (19 : Int32))), x6, x7, x8, x9] [(.ref a0)])) rfl rfl (hb hby d9_24)
              refine ⟨_, ⟨_, _, _, _, _, _, X1276, e1276, sz, N, kp, hS, hkS, hZ, hown, hC, hO, ⟨E_a0, F_row, F_er, F_de, F_h, E_bd, F_v, F_c, F_n, V_vb, V_a1⟩, hSv, hcl⟩, fun target kt => ?_⟩
              show own_S p e below T (mkF m 3 #[.val (.ref a0), .val (.ref a1), .val (.int f0), .val (.int tt), .val (.int st), x5, x6, x7, x8, x9] []) _
              refine XS.iload X.here hx rfl (hb hby d9_3) rfl ?_
              refine XS.iloadN X.here hx rfl (hb hby d9_5) rfl ?_
              refine XS.icmpNo X.here hx rfl (hb hby d9_6) rfl (tlt (show st < tt from hc)).2.1 ?_
              show own_S p e below T (mkF m 9 #[.val (.ref a0), .val (.ref a1), .val (.int f0), .val (.int tt), .val (.int st), x5, x6, x7, x8, x9] []) _
              refine XS.iload X.here hx rfl (hb hby d9_9) rfl ?_
              refine XS.bipush X.here hx rfl (hb hby d9_11) ?_
              refine XS.iadd X.here hx rfl (hb hby d9_13) rfl ?_
              refine XS.istore X.here hx rfl (hb hby d9_14) rfl (l' := #[.val (.ref a0), .val (.ref a1), .val (.int f0), .val (.int tt), .val (.int st), .val (.int (st + (19 : Int32))), x6, x7, x8, x9]) (own_store1 rfl rfl cs_x5 rfl) ?_
              show own_S p e below T (mkF m 16 #[.val (.ref a0), .val (.ref a1), .val (.int f0), .val (.int tt), .val (.int st), .val (.int (st + (19 : Int32))), x6, x7, x8, x9] []) _
              refine XS.aloadN X.here hx rfl (hb hby d9_16) rfl rfl ?_
              show own_S p e below T (mkF m 17 #[.val (.ref a0), .val (.ref a1), .val (.int f0), .val (.int tt), .val (.int st), .val (.int (st + (19 : Int32))), x6, x7, x8, x9] [(.ref a0)]) _
              refine st1275 _ ?_
              show own_S p e below T1275 (mkF m 20 #[.val (.ref a0), .val (.ref a1), .val (.int f0), .val (.int tt), .val (.int st), .val (.int (st + (19 : Int32))), x6, x7, x8, x9] [(.int sg.1)]) _
              refine XS.ifNo X1275.here hx rfl (hb hby d9_20) rfl ((if0 _ _).trans (flt (show ¬ ((0 : Int32) < sg.1) from hro)).2.2.1) ?_
              show own_S p e below T1275 (mkF m 23 #[.val (.ref a0), .val (.ref a1), .val (.int f0), .val (.int tt), .val (.int st), .val (.int (st + (19 : Int32))), x6, x7, x8, x9] []) _
              refine XS.aloadN X1275.here hx rfl (hb hby d9_23) rfl rfl ?_
              show own_S p e below T1275 (mkF m 24 #[.val (.ref a0), .val (.ref a1), .val (.int f0), .val (.int tt), .val (.int st), .val (.int (st + (19 : Int32))), x6, x7, x8, x9] [(.ref a0)]) _
              refine st1276 _ ?_
              show own_S p e below T1276 (mkF m 27 #[.val (.ref a0), .val (.ref a1), .val (.int f0), .val (.int tt), .val (.int st), .val (.int (st + (19 : Int32))), x6, x7, x8, x9] [(.int sg.2.1)]) _
              refine XS.ifYes X1276.here hx rfl (pc0 := 27) (pc' := 43) rfl (hb hby d9_27) rfl ((if0 _ _).trans (tlt (show sg.2.1 < (0 : Int32) from her)).1) (by decide) (by decide) ?_
              show own_S p e below T1276 (mkF m 43 #[.val (.ref a0), .val (.ref a1), .val (.int f0), .val (.int tt), .val (.int st), .val (.int (st + (19 : Int32))), x6, x7, x8, x9] []) _
              refine XS.iload X1276.here hx rfl (hb hby d9_43) rfl ?_
              refine XS.iloadN X1276.here hx rfl (hb hby d9_45) rfl ?_
              refine XS.icmpYes X1276.here hx rfl (pc0 := 46) (pc' := 69) rfl (hb hby d9_46) rfl (flt (show ¬ ((st + (19 : Int32)) < tt) from h19)).2.1 (by decide) (by decide) ?_
              exact kt
            obtain ⟨hl1, hl2, hl3⟩ := own_limr hrg hc
            obtain ⟨T2, hLS2, hJ2, s2⟩ := own_bodyL l Z ag hw hx a0 a1 bd vb k1 kb n cs gf h0 n0 hN hG S_cs hcs S_gf rv_gf hml hby (f0 := f0) (x6 := x6) (x7 := x7) (x8 := x8) (x9 := x9) cs_x6 cs_x7 cs_x8 cs_x9 hnn hc0 hLS1 hrg hc hJ hk
            obtain ⟨T', b', y5, y6, y7, y8, y9, hLS', hJ', sT⟩ := ih (own_lim st tt) T2 (own_body tt st sg) _ (.val (.int (st + (19 : Int32)))) (.val (.int (own_lim st tt))) (.val (.int (own_run sg.2.2.2.2.1 st 24 (own_lim st tt)))) (.val (.int (own_from sg.2.2.2.2.1 st (own_lim st tt)))) (.val (.int (own_lim st tt))) (Or.inr ⟨_, rfl, rfl⟩) (Or.inr ⟨_, rfl, rfl⟩) (Or.inr ⟨_, rfl, rfl⟩) (Or.inr ⟨_, rfl, rfl⟩) (Or.inr ⟨_, rfl, rfl⟩) hLS2 hl2 (own_mf hl3 hf) hJ2 (Int.le_of_eq (Int.toNat_of_nonneg hl2.1))
            have hme : own_mask tt (f + 1) st sg = own_mask tt f (own_lim st tt) (own_body tt st sg) := (if_pos hc).trans ((if_neg hro).trans ((if_pos her).trans (if_neg h19)))
            refine ⟨T', b', y5, y6, y7, y8, y9, by rw [hme]; exact hLS', by rw [hme]; exact hJ', fun target kt => s1 target (s2 target (sT target kt))⟩
        · obtain ⟨T1, hLS1, s1⟩ : ∃ T1, own_LS p l e ({ frames := 6, cells := 2, slots := 20, locals := 100 } : Room) s m args below meth c Z h0 n0 a0 a1 bd vb k1 kb n T1 sg ∧ ∀ target, Steps p.tables e below (T1.setTop (mkF m 34 #[.val (.ref a0), .val (.ref a1), .val (.int f0), .val (.int tt), .val (.int st), .val (.int (st + (19 : Int32))), x6, x7, x8, x9] [(.int st), (.ref a1), (.ref a0)])) target → Steps p.tables e below (T.setTop (mkF m 3 #[.val (.ref a0), .val (.ref a1), .val (.int f0), .val (.int tt), .val (.int st), x5, x6, x7, x8, x9] [])) target := by
            obtain ⟨vm0, h, L, cells, slots, k0, X, e0, sz, N, kp, hS, hkS, hZ, hown, hC, hO, hF, hSv, hcl⟩ := hLS
            have hEL : EW Z ag own_EL := own_ew hw
            obtain ⟨E_a0, F_row, F_er, F_de, F_h, E_bd, F_v, F_c, F_n, V_vb, V_a1⟩ := id hF
            obtain ⟨ne_a0_a1, ne_a0_bd, ne_a0_vb, ne_a1_bd, ne_a1_vb, ne_bd_vb⟩ := id hN
            obtain ⟨ge_a0, ge_a1, ge_bd, ge_vb⟩ := id hG
            obtain ⟨T1277, X1277, e1277, st1277⟩ := getF X hx hZ hown (host := "") (Or.inl (own_wk hw 55 rfl)) Via.refl e0 F_row (g := (mkF m 17 #[.val (.ref a0), .val (.ref a1), .val (.int f0), .val (.int tt), .val (.int st), .val (.int (st + (19 : Int32))), x6, x7, x8, x9] [(.ref a0)])) rfl rfl (hb hby d9_17)
            obtain ⟨T1278, X1278, e1278, st1278⟩ := getF X1277 hx hZ hown (host := "") (Or.inl (own_wk hw 48 rfl)) Via.refl e1277 F_er (g := (mkF m 24 #[.val (.ref a0), .val (.ref a1), .val (.int f0), .val (.int tt), .val (.int st), .val (.int (st + (19 : Int32))), x6, x7, x8, x9] [(.ref a0)])) rfl rfl (hb hby d9_24)
            refine ⟨_, ⟨_, _, _, _, _, _, X1278, e1278, sz, N, kp, hS, hkS, hZ, hown, hC, hO, ⟨E_a0, F_row, F_er, F_de, F_h, E_bd, F_v, F_c, F_n, V_vb, V_a1⟩, hSv, hcl⟩, fun target kt => ?_⟩
            show own_S p e below T (mkF m 3 #[.val (.ref a0), .val (.ref a1), .val (.int f0), .val (.int tt), .val (.int st), x5, x6, x7, x8, x9] []) _
            refine XS.iload X.here hx rfl (hb hby d9_3) rfl ?_
            refine XS.iloadN X.here hx rfl (hb hby d9_5) rfl ?_
            refine XS.icmpNo X.here hx rfl (hb hby d9_6) rfl (tlt (show st < tt from hc)).2.1 ?_
            show own_S p e below T (mkF m 9 #[.val (.ref a0), .val (.ref a1), .val (.int f0), .val (.int tt), .val (.int st), x5, x6, x7, x8, x9] []) _
            refine XS.iload X.here hx rfl (hb hby d9_9) rfl ?_
            refine XS.bipush X.here hx rfl (hb hby d9_11) ?_
            refine XS.iadd X.here hx rfl (hb hby d9_13) rfl ?_
            refine XS.istore X.here hx rfl (hb hby d9_14) rfl (l' := #[.val (.ref a0), .val (.ref a1), .val (.int f0), .val (.int tt), .val (.int st), .val (.int (st + (19 : Int32))), x6, x7, x8, x9]) (own_store1 rfl rfl cs_x5 rfl) ?_
            show own_S p e below T (mkF m 16 #[.val (.ref a0), .val (.ref a1), .val (.int f0), .val (.int tt), .val (.int st), .val (.int (st + (19 : Int32))), x6, x7, x8, x9] []) _
            refine XS.aloadN X.here hx rfl (hb hby d9_16) rfl rfl ?_
            show own_S p e below T (mkF m 17 #[.val (.ref a0), .val (.ref a1), .val (.int f0), .val (.int tt), .val (.int st), .val (.int (st + (19 : Int32))), x6, x7, x8, x9] [(.ref a0)]) _
            refine st1277 _ ?_
            show own_S p e below T1277 (mkF m 20 #[.val (.ref a0), .val (.ref a1), .val (.int f0), .val (.int tt), .val (.int st), .val (.int (st + (19 : Int32))), x6, x7, x8, x9] [(.int sg.1)]) _
            refine XS.ifNo X1277.here hx rfl (hb hby d9_20) rfl ((if0 _ _).trans (flt (show ¬ ((0 : Int32) < sg.1) from hro)).2.2.1) ?_
            show own_S p e below T1277 (mkF m 23 #[.val (.ref a0), .val (.ref a1), .val (.int f0), .val (.int tt), .val (.int st), .val (.int (st + (19 : Int32))), x6, x7, x8, x9] []) _
            refine XS.aloadN X1277.here hx rfl (hb hby d9_23) rfl rfl ?_
            show own_S p e below T1277 (mkF m 24 #[.val (.ref a0), .val (.ref a1), .val (.int f0), .val (.int tt), .val (.int st), .val (.int (st + (19 : Int32))), x6, x7, x8, x9] [(.ref a0)]) _
            refine st1278 _ ?_
            show own_S p e below T1278 (mkF m 27 #[.val (.ref a0), .val (.ref a1), .val (.int f0), .val (.int tt), .val (.int st), .val (.int (st + (19 : Int32))), x6, x7, x8, x9] [(.int sg.2.1)]) _
            refine XS.ifNo X1278.here hx rfl (hb hby d9_27) rfl ((if0 _ _).trans (flt (show ¬ (sg.2.1 < (0 : Int32)) from her)).1) ?_
            show own_S p e below T1278 (mkF m 30 #[.val (.ref a0), .val (.ref a1), .val (.int f0), .val (.int tt), .val (.int st), .val (.int (st + (19 : Int32))), x6, x7, x8, x9] []) _
            refine XS.aloadN X1278.here hx rfl (hb hby d9_30) rfl rfl ?_
            refine XS.aloadN X1278.here hx rfl (hb hby d9_31) rfl rfl ?_
            refine XS.iload X1278.here hx rfl (hb hby d9_32) rfl ?_
            exact kt
          obtain ⟨hi1, hrg1, he1⟩ := own_i1 hrg hc
          obtain ⟨T2, hLS2, s2⟩ := own_stepT l Z ag hw hx a0 a1 bd vb k1 kb n cs gf h0 n0 hN hG S_cs hcs S_gf rv_gf hLS1 hi1 (hJ.kk hnn (own_k16 hc0 (own_k24 hk hr2 hr3 hr4))) (pc0 := 34) (Ls := #[.val (.ref a0), .val (.ref a1), .val (.int f0), .val (.int tt), .val (.int st), .val (.int (st + (19 : Int32))), x6, x7, x8, x9]) (by rw [hml]; rfl) (hb hby d9_34)
          have dn : ∀ target, Steps p.tables e below (T2.setTop (mkF m 3 #[.val (.ref a0), .val (.ref a1), .val (.int f0), .val (.int tt), .val (.int (st + (1 : Int32))), .val (.int (st + (19 : Int32))), x6, x7, x8, x9] [])) target → Steps p.tables e below (T2.setTop (mkF m 37 #[.val (.ref a0), .val (.ref a1), .val (.int f0), .val (.int tt), .val (.int st), .val (.int (st + (19 : Int32))), x6, x7, x8, x9] [])) target := by
            intro target kt
            obtain ⟨vm1, h1, L1, cells1, slots1, k01, X1, -⟩ := id hLS2
            show own_S p e below T2 (mkF m 37 #[.val (.ref a0), .val (.ref a1), .val (.int f0), .val (.int tt), .val (.int st), .val (.int (st + (19 : Int32))), x6, x7, x8, x9] []) _
            refine XS.iinc X1.here hx rfl (hb hby d9_37) rfl (l' := #[.val (.ref a0), .val (.ref a1), .val (.int f0), .val (.int tt), .val (.int (st + (1 : Int32))), .val (.int (st + (19 : Int32))), x6, x7, x8, x9]) rfl ?_
            show own_S p e below T2 (mkF m 40 #[.val (.ref a0), .val (.ref a1), .val (.int f0), .val (.int tt), .val (.int (st + (1 : Int32))), .val (.int (st + (19 : Int32))), x6, x7, x8, x9] []) _
            refine XS.goto X1.here hx rfl (pc0 := 40) (pc' := 156) rfl (hb hby d9_40) (by decide) (by decide) ?_
            show own_S p e below T2 (mkF m 156 #[.val (.ref a0), .val (.ref a1), .val (.int f0), .val (.int tt), .val (.int (st + (1 : Int32))), .val (.int (st + (19 : Int32))), x6, x7, x8, x9] []) _
            refine XS.goto X1.here hx rfl (pc0 := 156) (pc' := 3) rfl (hb hby d9_156) (by decide) (by decide) ?_
            exact kt
          obtain ⟨T', b', y5, y6, y7, y8, y9, hLS', hJ', sT⟩ := ih (st + (1 : Int32)) T2 (own_take st sg) (k + 1) (.val (.int (st + (19 : Int32)))) x6 x7 x8 x9 (Or.inr ⟨_, rfl, rfl⟩) cs_x6 cs_x7 cs_x8 cs_x9 hLS2 hrg1 (own_mf (own_ltp he1) hf) (hJ.take (own_k100 (own_k24 hk hr2 hr3 hr4)) (own_c100 hc0)) (own_kp hk he1)
          have hme : own_mask tt (f + 1) st sg = own_mask tt f (st + (1 : Int32)) (own_take st sg) := (if_pos hc).trans ((if_neg hro).trans (if_neg her))
          refine ⟨T', b', y5, y6, y7, y8, y9, by rw [hme]; exact hLS', by rw [hme]; exact hJ', fun target kt => s1 target (s2 target (dn target (sT target kt)))⟩
    · refine ⟨T, st, x5, x6, x7, x8, x9, by rw [show own_mask tt (f + 1) st sg = sg from if_neg hc]; exact hLS, by rw [show own_mask tt (f + 1) st sg = sg from if_neg hc]; exact hJ.mono (own_k24 hk hr2 hr3 hr4), fun target kt => ?_⟩
      obtain ⟨vm0, h, L, cells, slots, k0, X, e0, sz, N, kp, hS, hkS, hZ, hown, hC, hO, hF, hSv, hcl⟩ := hLS
      have hEL : EW Z ag own_EL := own_ew hw
      obtain ⟨E_a0, F_row, F_er, F_de, F_h, E_bd, F_v, F_c, F_n, V_vb, V_a1⟩ := id hF
      obtain ⟨ne_a0_a1, ne_a0_bd, ne_a0_vb, ne_a1_bd, ne_a1_vb, ne_bd_vb⟩ := id hN
      obtain ⟨ge_a0, ge_a1, ge_bd, ge_vb⟩ := id hG
      show own_S p e below T (mkF m 3 #[.val (.ref a0), .val (.ref a1), .val (.int f0), .val (.int tt), .val (.int st), x5, x6, x7, x8, x9] []) _
      refine XS.iload X.here hx rfl (hb hby d9_3) rfl ?_
      refine XS.iloadN X.here hx rfl (hb hby d9_5) rfl ?_
      refine XS.icmpYes X.here hx rfl (pc0 := 6) (pc' := 159) rfl (hb hby d9_6) rfl (flt (show ¬ (st < tt) from hc)).2.1 (by decide) (by decide) ?_
      exact kt
def own_TT (_ : Vm) (_ : Heap) : Prop := True
theorem ef_9_vv0v (m : MethodId) (a0 : Addr) (a1 : Addr) (p3 : Int32) : entryFrame m #[(.ref a0), (.ref a1), (.int (0 : Int32)), (.int p3)] 10 = mkF m 0 #[.val (.ref a0), .val (.ref a1), .val (.int 0), .val (.int p3), .unset, .unset, .unset, .unset, .unset, .unset] [] := by first | (simp [entryFrame, mkF, argsToLocals, Value.category]; done) | rfl
def Q9 (Z : State) (a0 a1 : Addr) (p3 : Int32) (bd vb : Addr) (k1 kb : ClassId) (n : Int32) (sg : own_Sg) (cs : Int32) (gf : Value) (c0 : Nat) (h0 : Heap) (n0 : Nat) (v : Option Value) (h : Heap) (L : List Loc) : Prop := v = none ∧ Fr n0 L ∧ Keep h0 h [a0, a1, bd, vb] ∧ own_F Z h a0 a1 bd vb k1 kb n (own_mask p3 24 (0 : Int32) sg) ∧ own_J n.toNatClampNeg c0 24 (own_mask p3 24 (0 : Int32) sg)
theorem d9_0 : own_d9 0 (.iload_n 2) 1 := by decide +kernel
theorem d9_1 : own_d9 1 (.istore 4) 2 := by decide +kernel
theorem d9_159 : own_d9 159 .return_ 1 := by decide +kernel
set_option maxRecDepth 65536 in
set_option maxHeartbeats 40000000 in
theorem rm9 (l : Launch) (Z : State) (ag : Array Value) (hw : ∀ d ∈ tables_1, d.before ag Z = true) (ws : List Jvm.Cond) (a0 a1 : Addr) (p3 : Int32) (bd vb : Addr) (k1 kb : ClassId) (n : Int32) (sg : own_Sg) (cs : Int32) (gf : Value) (c0 : Nat) (h0 : Heap) (n0 : Nat) (Z0 : n0 ≤ h0.size) (hF : own_F Z h0 a0 a1 bd vb k1 kb n sg) (hN : own_Nn a0 a1 bd vb) (hG : own_G n0 a0 a1 bd vb) (O_ : Old Z n0 h0) (S_cs : Sta Z Z.heap "java/lang/String" "COMPACT_STRINGS" "Z" (.int cs)) (hcs : ¬ cs = (0 : Int32)) (S_gf : Sta Z Z.heap "jdk/internal/util/Preconditions" "SIOOBE_FORMATTER" "Ljava/util/function/BiFunction;" gf) (rv_gf : gf.isRef = true) (hrg : own_rg (0 : Int32) p3 n) (hJ : own_J n.toNatClampNeg c0 0 sg) (hc0 : c0 < 8) :
    MetFree l (⟨"com/example/needle_in_json/needleinjson/MaskedDigits", "mask", "([CII)V"⟩ : MethodName) (head1 (Jvm.Cond.code (⟨"com/example/needle_in_json/needleinjson/MaskedDigits", "mask", "([CII)V"⟩ : MethodName) prog_32_method_5_code 10 none :: ws) ({ frames := 6, cells := 2, slots := 20, locals := 100 } : Room)) (fun a U => a = #[(.ref a0), (.ref a1), (.int (0 : Int32)), (.int p3)] ∧ Z.Warmed39 U.vm ∧ U.heap = h0 ∧ CHv Z own_EL U.vm h0 ∧ Safe Z own_EL U.vm h0 vb) (fun _ _ _ _ _ => True) (fun _ U o U' => ∃ v L, o = .returned v ∧ (Q9 Z a0 a1 p3 bd vb k1 kb n sg cs gf c0 h0 n0 v U'.heap L ∧ own_TT U'.vm U'.heap) ∧ CHr Z own_EL U.vm U.heap U'.vm U'.heap ∧ ReturnedEndW U o U' L ({ frames := 6, cells := 2, slots := 20, locals := 100 } : Room).cells ({ frames := 6, cells := 2, slots := 20, locals := 100 } : Room).slots) := by
  refine MetFree.of_bodySF (plainFor_of_name pn_0) hisR ?_
  intro p e s m args below meth c s₁ Bd hml0 hP hK
  obtain ⟨rfl, hZ, hh, hI, hSv⟩ := hP
  have hx := Bd.exec
  have hby := Bd.bytes
  have hml : c.maxLocals = 10 := hml0
  have hown : s.vm.findClass "com/example/needle_in_json/needleinjson/MaskedDigits" = some m.cls := findClass_of_methodNamed Bd.named
  have hnm := (name_of_methodNamed Bd.named Bd.method).1
  have X0 : Stand p l e ({ frames := 6, cells := 2, slots := 20, locals := 100 } : Room) s m #[(.ref a0), (.ref a1), (.int (0 : Int32)), (.int p3)] below meth c s₁ [] 0 0 := Stand.of_body Bd
  have e0 : s₁.heap = h0 := by rw [← hh, Bd.state]; rfl
  have N0 := Fr.nil n0
  have pre0 : ∀ t, Steps p.tables e below (s₁.setTop (mkF m 0 #[.val (.ref a0), .val (.ref a1), .val (.int 0), .val (.int p3), .unset, .unset, .unset, .unset, .unset, .unset] [])) t → Steps p.tables e below (s₁.setTop (entryFrame m #[(.ref a0), (.ref a1), (.int (0 : Int32)), (.int p3)] 10)) t := fun t k => castTop (ef_9_vv0v m a0 a1 p3) k
  have X0 : Stand p l e ({ frames := 6, cells := 2, slots := 20, locals := 100 } : Room) (s.setVm s.vm) m #[(.ref a0), (.ref a1), (.int (0 : Int32)), (.int p3)] below meth c s₁ [] 0 0 := X0
  have hS : s.Since s.vm 0 := (State.WarmedH.refl s).since 0
  have hkS : 0 ≤ h0.size := Nat.zero_le _
  have hC : CHr Z own_EL s.vm h0 s.vm h0 := CHr.refl hI
  have hEL : EW Z ag own_EL := own_ew hw
  have hwS : ∀ d ∈ Bundle.stringAtoms, d.before ag Z = true := fun d hd => hw d ((by decide +kernel : ∀ d ∈ Bundle.stringAtoms, d ∈ tables_1) d hd)
  have hLS0 : own_LS p l e ({ frames := 6, cells := 2, slots := 20, locals := 100 } : Room) s m #[(.ref a0), (.ref a1), (.int (0 : Int32)), (.int p3)] below meth c Z h0 n0 a0 a1 bd vb k1 kb n s₁ sg := ⟨s.vm, h0, [], 0, 0, 0, X0, e0, Z0, N0, Keep.refl h0 [a0, a1, bd, vb], hS, hkS, hZ, hown, hC, O_, hF, hSv, Or.inl ⟨rfl, rfl⟩⟩
  obtain ⟨T', b', y5, y6, y7, y8, y9, hLS', hJ', sT⟩ := own_maskL l Z ag hw hx a0 a1 bd vb k1 kb n cs gf h0 n0 hN hG S_cs hcs S_gf rv_gf hml hby (f0 := (0 : Int32)) (tt := p3) rfl hc0 24 (0 : Int32) s₁ sg 0 .unset .unset .unset .unset .unset (Or.inl rfl) (Or.inl rfl) (Or.inl rfl) (Or.inl rfl) (Or.inl rfl) hLS0 hrg (by have z0 : (0 : Int32).toInt = 0 := rfl; have := hrg.2.2.1; have := hrg.2.2.2; omega) hJ (Int.le_refl _)
  obtain ⟨vm1, h1, L1, cells1, slots1, k01, X1, e1, sz1, N1, kp1, hS1, hk1, hZ1, hown1, hC1, hO1, hF1, hSv1, hcl1⟩ := hLS'
  have X2 := X1.mono (own_le2 hcl1).1 (own_le2 hcl1).2
  obtain ⟨fs, hr, hrun, hended, hEnd⟩ := X2.leaveW hS1 (by rw [e1]; exact hk1) (v := none) (fun _ => rfl)
  refine ⟨_, _, pre0 _ ?_, hrun, hended, _, _, rfl, ?_, ?_, hEnd.1, hEnd.2.1, hEnd.2.2.1, hEnd.2.2.2.mono (by decide) (by decide)⟩
  · show own_S p e below s₁ (mkF m 0 #[.val (.ref a0), .val (.ref a1), .val (.int 0), .val (.int p3), .unset, .unset, .unset, .unset, .unset, .unset] []) _
    refine XS.iloadN X0.here hx rfl (hb hby d9_0) rfl ?_
    refine XS.istore X0.here hx rfl (hb hby d9_1) rfl (l' := #[.val (.ref a0), .val (.ref a1), .val (.int 0), .val (.int p3), .val (.int 0), .unset, .unset, .unset, .unset, .unset]) rfl ?_
    show own_S p e below s₁ (mkF m 3 #[.val (.ref a0), .val (.ref a1), .val (.int 0), .val (.int p3), .val (.int 0), .unset, .unset, .unset, .unset, .unset] []) _
    refine sT _ ?_
    exact X2.returnOut hx Bd.returns (hb hby d9_159) hr
  · refine ⟨?_, trivial⟩
    show Q9 Z a0 a1 p3 bd vb k1 kb n sg cs gf c0 h0 n0 _ T'.heap _
    rw [e1]
    exact ⟨rfl, N1, kp1, hF1, hJ'⟩
  · show CHr Z own_EL s.vm s.heap T'.vm T'.heap
    rw [hh, e1]
    exact hC1.trans (CHv.at X2 hZ1 hEL hC1.1)
theorem own_and31 (x : Int32) : 0 ≤ (x &&& (31 : Int32)).toInt ∧ (x &&& (31 : Int32)).toInt ≤ 31 := by
  have h : (x &&& (31 : Int32)).toBitVec.toNat ≤ 31 := by
    rw [Int32.toBitVec_and, BitVec.toNat_and]; exact Nat.and_le_right
  have e : (x &&& (31 : Int32)).toInt = ((x &&& (31 : Int32)).toBitVec.toNat : Int) := by
    show (x &&& (31 : Int32)).toBitVec.toInt = _
    exact BitVec.toInt_eq_toNat_of_lt (by omega)
  omega
theorem own_mi {y m : Int32} (h : 0 ≤ y.toInt) (hm : 0 < m.toInt) : ¬ y % m < 0 ∧ y % m < m := by
  have z0 : (0 : Int32).toInt = 0 := rfl
  have a1 := Int.emod_nonneg y.toInt (show m.toInt ≠ 0 by omega)
  have a2 := Int.emod_lt_of_pos y.toInt hm
  rw [Int32.lt_iff_toInt_lt, Int32.lt_iff_toInt_lt, Int32.toInt_mod, Int.tmod_eq_emod_of_nonneg h, z0]
  exact ⟨by omega, a2⟩
theorem own_mk {y m : Int32} (h : 0 ≤ y.toInt) (hm : 0 < m.toInt) : (y % m).toNatClampNeg < m.toInt.toNat := by
  have a1 := Int.emod_nonneg y.toInt (show m.toInt ≠ 0 by omega)
  have a2 := Int.emod_lt_of_pos y.toInt hm
  have e : (y % m).toNatClampNeg = (y % m).toInt.toNat := rfl
  rw [e, Int32.toInt_mod, Int.tmod_eq_emod_of_nonneg h]; omega
/-- an array filled from its first place on -/
def own_pl (N : Nat) (f : Nat → Value) : Nat → List Value
  | 0 => List.replicate N (.int (0 : Int32))
  | k + 1 => (own_pl N f k).set k (f k)
theorem own_pl_len (N : Nat) (f : Nat → Value) : ∀ k, (own_pl N f k).length = N
  | 0 => List.length_replicate ..
  | k + 1 => by show ((own_pl N f k).set k (f k)).length = N; rw [List.length_set]; exact own_pl_len N f k
theorem own_pl_at (N : Nat) (f : Nat → Value) : ∀ (k i : Nat), i < k → i < N → (own_pl N f k)[i]? = some (f i)
  | 0, _, h, _ => absurd h (Nat.not_lt_zero _)
  | k + 1, i, h, hN => by
    show ((own_pl N f k).set k (f k))[i]? = _
    by_cases e : i = k
    · subst e; rw [List.getElem?_set_self (by rw [own_pl_len]; exact hN)]
    · rw [List.getElem?_set_ne (fun q => e q.symm)]; exact own_pl_at N f k i (by omega) hN
theorem own_pl_eq (N : Nat) (g : Nat → Int32) : own_pl N (fun i => .int (g i)) N = ((List.range N).map g).map Value.int := by
  apply List.ext_getElem?
  intro i
  by_cases h : i < N
  · rw [own_pl_at N _ N i h h, List.getElem?_map, List.getElem?_map, List.getElem?_range h]; rfl
  · rw [List.getElem?_eq_none (by rw [own_pl_len]; omega), List.getElem?_eq_none (by simp; omega)]
theorem own_pad0 (N : Nat) : ∀ i, (List.replicate N (.int (0 : Int32) : Value)).getD i (.int (0 : Int32)) = ([] : List Value).getD i (.int (0 : Int32)) := fun i => by
  by_cases h : i < N
  · rw [List.getD_eq_getElem?_getD, List.getElem?_replicate_of_lt h]; rfl
  · rw [List.getD_eq_getElem?_getD, List.getElem?_eq_none (by rw [List.length_replicate]; omega)]; rfl
theorem own_pl_succ (N : Nat) (f : Nat → Value) (k : Nat) : own_pl N f (k + 1) = (own_pl N f k).set k (f k) := rfl
def own_pg (q0 : Int64) (i : Nat) : Int32 := nar .char (own_d q0 (Int32.ofNat i))
abbrev own_pf (q0 : Int64) (i : Nat) : Value := .int (own_pg q0 i)
def own_FS (p : Program) (l : Launch) (e : Env) (R : Room) (s : State) (m : MethodId) (args : Array Value) (below : List Frame) (meth : Method) (c : Code) (Z : State) (h0 : Heap) (n0 : Nat) (N : Int32) (r : Addr) (k : ClassId) (S : Nat) (T : State) (vs : List Value) : Prop :=
  ∃ (h : Heap) (L : List Loc), Stand p l e R s m args below meth c T L 1 S ∧ T.heap = h ∧ n0 ≤ h.size ∧ Fr n0 L ∧ Keep h0 h [] ∧ Arv Z h r k .char N vs (.int (0 : Int32))
def own_prefix (q0 : Int64) (p1 : Int32) : List Int32 := (((List.range 20).map (own_pg q0)).set (((p1 &&& (31 : Int32)) % (20 : Int32))).toNatClampNeg (nar .char (own_special (own_ushr p1 (5 : Int32))))).set ((((own_ushr p1 (16 : Int32)) &&& (31 : Int32)) % (20 : Int32))).toNatClampNeg (nar .char (own_special (own_ushr p1 (21 : Int32))))
theorem own_prefixm (q0 : Int64) (p1 : Int32) : (own_prefix q0 p1).map Value.int = ((own_pl 20 (own_pf q0) 20).set (((p1 &&& (31 : Int32)) % (20 : Int32))).toNatClampNeg (.int (nar .char (own_special (own_ushr p1 (5 : Int32)))))).set ((((own_ushr p1 (16 : Int32)) &&& (31 : Int32)) % (20 : Int32))).toNatClampNeg (.int (nar .char (own_special (own_ushr p1 (21 : Int32))))) := by unfold own_prefix; rw [List.map_set, List.map_set, ← own_pl_eq]
theorem pd_12 : parseMethodDescriptor "(JI)C" = some ⟨[.long, .int], some .char⟩ := by decide +kernel
set_option maxHeartbeats 4000000 in
theorem own_fill20 (l : Launch) (Z : State) (ag : Array Value) (hw : ∀ d ∈ tables_1, d.before ag Z = true) {p : Program} {e : Env} {s : State} {m : MethodId} {args : Array Value} {below : List Frame} {meth : Method} {c : Code} {h0 : Heap} {n0 : Nat} {r : Addr} {k : ClassId} {T : State} {j : Nat} {q0 : Int64} {i : Int32} {pc0 : Nat} {Ls : Array Slot} (hx : p.tables.exec = Jvm.exec) (hZ : Z.Warmed39 s.vm) (hown : s.vm.findClass "com/example/needle_in_json/needleinjson/MaskedDigitsResumeAfterStringPinLaw" = some m.cls) (hml : c.maxLocals = 4) (hge : n0 ≤ r) (hgs : h0.size ≤ r) (HF : own_FS p l e ({ frames := 1, cells := 1, slots := 20, locals := 17 } : Room) s m args below meth c Z h0 n0 (20 : Int32) r k 20 T (own_pl 20 (own_pf q0) j)) (hsz : Ls.size = c.maxLocals) (hd1 : decode c.code pc0 = .ok (.invokestatic 11, 3)) (hd2 : decode c.code (pc0 + 3) = .ok (.castore, 1)) (hij : i = Int32.ofNat j) (hi : ¬ i < 0 ∧ i < (20 : Int32)) (hk : i.toNatClampNeg = j) (hj : j < 20) :
    ∃ T', own_FS p l e ({ frames := 1, cells := 1, slots := 20, locals := 17 } : Room) s m args below meth c Z h0 n0 (20 : Int32) r k 20 T' (own_pl 20 (own_pf q0) (j + 1)) ∧ ∀ target, own_S p e below T' (mkF m (pc0 + 4) Ls [.ref r]) target → own_S p e below T (mkF m pc0 Ls [.int i, .long q0, .int i, .ref r, .ref r]) target := by
  obtain ⟨h, L, X, e0, sz, NF0, kp, V⟩ := HF
  obtain ⟨_, _, ⟨T1279, L1279, k1279, n1279⟩, -, X1279, ⟨Lc1279, hQ1279, l1279, y1279, z1279⟩, st1279⟩ := Jvm.LawKit.callS X hx (y := (⟨"com/example/needle_in_json/needleinjson/MaskedDigitsResumeAfterStringPinLaw", "d", "(JI)C"⟩ : MethodName)) hown (mvT hZ (own_wk hw 5 rfl)) (mvT hZ (own_wk hw 6 rfl)) (mvT hZ (own_wk hw 2 rfl)) (mvT hZ (own_wk hw 7 rfl)) (by decide) (backOf (W := 3) (rm2 l Z ag hw [] q0 i  h n0 sz ) hZ (own_wk hw 7 rfl) (own_wk hw 2 rfl) (by decide) (by decide)) (g := (mkF m pc0 Ls [(.int i), (.long q0), (.int i), (.ref r), (.ref r)])) rfl hsz (argsL := [(.long q0), (.int i)]) (rest := [(.int i), (.ref r), (.ref r)]) (lenOf pd_12 rfl) rfl (by show 2 * 0 + _ ≤ _; exact Nat.le_of_eq rfl) hd1 (fun _ _ => ⟨rfl, e0, (by decide : 1 + 0 ≤ _), (by decide : 20 + 0 ≤ _)⟩)
  dsimp only [Pt.U, Pt.locs, Pt.cells, Pt.slots] at X1279 l1279 y1279 z1279 st1279 hQ1279
  subst l1279 y1279 z1279
  obtain ⟨rfl, N1279q, e1279⟩ := hQ1279
  have N1279 := Fr.app NF0 N1279q
  obtain ⟨cl, Ar, q, S, M, H, G⟩ := id V
  have hin : ¬ (i < 0 ∨ cl.slots.size ≤ i.toNatClampNeg) := inb_of S hi
  obtain ⟨T2, h2, X2, e2, W2, st2⟩ := stC X1279 hx hZ e1279 Ar (j := i) hin (g := (mkF m (pc0 + 3) Ls [(.int (own_d q0 i)), (.int i), (.ref r), (.ref r)])) rfl rfl hd2
  have V2 : Arv Z h2 r k .char (20 : Int32) (own_pl 20 (own_pf q0) (j + 1)) (.int (0 : Int32)) := by
    rw [own_pl_succ, show own_pf q0 j = .int (nar .char (own_d q0 i)) from by subst hij; rfl]
    exact Arv.set Ar q S M H G (fits_nar_char _) W2 j hk (by rw [own_pl_len]; exact hj)
  exact ⟨T2, ⟨_, _, X2, e2, Nat.le_trans sz (Keep.of_wr W2).1, Fr.snoc X2 N1279 hge, kp.wr W2 (Or.inr hgs), V2⟩, fun target kt => st1279 _ (st2 _ kt)⟩
theorem ef_1 (m : MethodId) (q0 : Int64) (p1 : Int32) : entryFrame m #[(.long q0), (.int p1)] 4 = mkF m 0 #[.val (.long q0), .second, .val (.int p1), .unset] [] := by first | (simp [entryFrame, mkF, argsToLocals, Value.category]; done) | rfl
abbrev own_d1 (p : Nat) (i : Instr) (n : Nat) : Prop := decode method_4_code p = .ok (i, n)
theorem d1_0 : own_d1 0 (.bipush 20) 2 := by decide +kernel
theorem d1_2 : own_d1 2 (.newarray .char) 2 := by decide +kernel
theorem d1_4 : own_d1 4 .dup 1 := by decide +kernel
theorem d1_5 : own_d1 5 (.iconst 0) 1 := by decide +kernel
theorem d1_6 : own_d1 6 (.lload_n 0) 1 := by decide +kernel
theorem d1_7 : own_d1 7 (.iconst 0) 1 := by decide +kernel
theorem d1_8 : own_d1 8 (.invokestatic 11) 3 := by decide +kernel
theorem d1_11 : own_d1 11 .castore 1 := by decide +kernel
theorem d1_12 : own_d1 12 .dup 1 := by decide +kernel
theorem d1_13 : own_d1 13 (.iconst 1) 1 := by decide +kernel
theorem d1_14 : own_d1 14 (.lload_n 0) 1 := by decide +kernel
theorem d1_15 : own_d1 15 (.iconst 1) 1 := by decide +kernel
theorem d1_16 : own_d1 16 (.invokestatic 11) 3 := by decide +kernel
theorem d1_19 : own_d1 19 .castore 1 := by decide +kernel
theorem d1_20 : own_d1 20 .dup 1 := by decide +kernel
theorem d1_21 : own_d1 21 (.iconst 2) 1 := by decide +kernel
theorem d1_22 : own_d1 22 (.lload_n 0) 1 := by decide +kernel
theorem d1_23 : own_d1 23 (.iconst 2) 1 := by decide +kernel
theorem d1_24 : own_d1 24 (.invokestatic 11) 3 := by decide +kernel
theorem d1_27 : own_d1 27 .castore 1 := by decide +kernel
theorem d1_28 : own_d1 28 .dup 1 := by decide +kernel
theorem d1_29 : own_d1 29 (.iconst 3) 1 := by decide +kernel
theorem d1_30 : own_d1 30 (.lload_n 0) 1 := by decide +kernel
theorem d1_31 : own_d1 31 (.iconst 3) 1 := by decide +kernel
theorem d1_32 : own_d1 32 (.invokestatic 11) 3 := by decide +kernel
theorem d1_35 : own_d1 35 .castore 1 := by decide +kernel
theorem d1_36 : own_d1 36 .dup 1 := by decide +kernel
theorem d1_37 : own_d1 37 (.iconst 4) 1 := by decide +kernel
theorem d1_38 : own_d1 38 (.lload_n 0) 1 := by decide +kernel
theorem d1_39 : own_d1 39 (.iconst 4) 1 := by decide +kernel
theorem d1_40 : own_d1 40 (.invokestatic 11) 3 := by decide +kernel
theorem d1_43 : own_d1 43 .castore 1 := by decide +kernel
theorem d1_44 : own_d1 44 .dup 1 := by decide +kernel
theorem d1_45 : own_d1 45 (.iconst 5) 1 := by decide +kernel
theorem d1_46 : own_d1 46 (.lload_n 0) 1 := by decide +kernel
theorem d1_47 : own_d1 47 (.iconst 5) 1 := by decide +kernel
theorem d1_48 : own_d1 48 (.invokestatic 11) 3 := by decide +kernel
theorem d1_51 : own_d1 51 .castore 1 := by decide +kernel
theorem d1_52 : own_d1 52 .dup 1 := by decide +kernel
theorem d1_53 : own_d1 53 (.bipush 6) 2 := by decide +kernel
theorem d1_55 : own_d1 55 (.lload_n 0) 1 := by decide +kernel
theorem d1_56 : own_d1 56 (.bipush 6) 2 := by decide +kernel
theorem d1_58 : own_d1 58 (.invokestatic 11) 3 := by decide +kernel
theorem d1_61 : own_d1 61 .castore 1 := by decide +kernel
theorem d1_62 : own_d1 62 .dup 1 := by decide +kernel
theorem d1_63 : own_d1 63 (.bipush 7) 2 := by decide +kernel
theorem d1_65 : own_d1 65 (.lload_n 0) 1 := by decide +kernel
theorem d1_66 : own_d1 66 (.bipush 7) 2 := by decide +kernel
theorem d1_68 : own_d1 68 (.invokestatic 11) 3 := by decide +kernel
theorem d1_71 : own_d1 71 .castore 1 := by decide +kernel
theorem d1_72 : own_d1 72 .dup 1 := by decide +kernel
theorem d1_73 : own_d1 73 (.bipush 8) 2 := by decide +kernel
theorem d1_75 : own_d1 75 (.lload_n 0) 1 := by decide +kernel
theorem d1_76 : own_d1 76 (.bipush 8) 2 := by decide +kernel
theorem d1_78 : own_d1 78 (.invokestatic 11) 3 := by decide +kernel
theorem d1_81 : own_d1 81 .castore 1 := by decide +kernel
theorem d1_82 : own_d1 82 .dup 1 := by decide +kernel
theorem d1_83 : own_d1 83 (.bipush 9) 2 := by decide +kernel
theorem d1_85 : own_d1 85 (.lload_n 0) 1 := by decide +kernel
theorem d1_86 : own_d1 86 (.bipush 9) 2 := by decide +kernel
theorem d1_88 : own_d1 88 (.invokestatic 11) 3 := by decide +kernel
theorem d1_91 : own_d1 91 .castore 1 := by decide +kernel
theorem d1_92 : own_d1 92 .dup 1 := by decide +kernel
theorem d1_93 : own_d1 93 (.bipush 10) 2 := by decide +kernel
theorem d1_95 : own_d1 95 (.lload_n 0) 1 := by decide +kernel
theorem d1_96 : own_d1 96 (.bipush 10) 2 := by decide +kernel
theorem d1_98 : own_d1 98 (.invokestatic 11) 3 := by decide +kernel
theorem d1_101 : own_d1 101 .castore 1 := by decide +kernel
theorem d1_102 : own_d1 102 .dup 1 := by decide +kernel
theorem d1_103 : own_d1 103 (.bipush 11) 2 := by decide +kernel
theorem d1_105 : own_d1 105 (.lload_n 0) 1 := by decide +kernel
theorem d1_106 : own_d1 106 (.bipush 11) 2 := by decide +kernel
theorem d1_108 : own_d1 108 (.invokestatic 11) 3 := by decide +kernel
theorem d1_111 : own_d1 111 .castore 1 := by decide +kernel
theorem d1_112 : own_d1 112 .dup 1 := by decide +kernel
theorem d1_113 : own_d1 113 (.bipush 12) 2 := by decide +kernel
theorem d1_115 : own_d1 115 (.lload_n 0) 1 := by decide +kernel
theorem d1_116 : own_d1 116 (.bipush 12) 2 := by decide +kernel
theorem d1_118 : own_d1 118 (.invokestatic 11) 3 := by decide +kernel
theorem d1_121 : own_d1 121 .castore 1 := by decide +kernel
theorem d1_122 : own_d1 122 .dup 1 := by decide +kernel
theorem d1_123 : own_d1 123 (.bipush 13) 2 := by decide +kernel
theorem d1_125 : own_d1 125 (.lload_n 0) 1 := by decide +kernel
theorem d1_126 : own_d1 126 (.bipush 13) 2 := by decide +kernel
theorem d1_128 : own_d1 128 (.invokestatic 11) 3 := by decide +kernel
theorem d1_131 : own_d1 131 .castore 1 := by decide +kernel
theorem d1_132 : own_d1 132 .dup 1 := by decide +kernel
theorem d1_133 : own_d1 133 (.bipush 14) 2 := by decide +kernel
theorem d1_135 : own_d1 135 (.lload_n 0) 1 := by decide +kernel
theorem d1_136 : own_d1 136 (.bipush 14) 2 := by decide +kernel
theorem d1_138 : own_d1 138 (.invokestatic 11) 3 := by decide +kernel
theorem d1_141 : own_d1 141 .castore 1 := by decide +kernel
theorem d1_142 : own_d1 142 .dup 1 := by decide +kernel
theorem d1_143 : own_d1 143 (.bipush 15) 2 := by decide +kernel
theorem d1_145 : own_d1 145 (.lload_n 0) 1 := by decide +kernel
theorem d1_146 : own_d1 146 (.bipush 15) 2 := by decide +kernel
theorem d1_148 : own_d1 148 (.invokestatic 11) 3 := by decide +kernel
theorem d1_151 : own_d1 151 .castore 1 := by decide +kernel
theorem d1_152 : own_d1 152 .dup 1 := by decide +kernel
theorem d1_153 : own_d1 153 (.bipush 16) 2 := by decide +kernel
theorem d1_155 : own_d1 155 (.lload_n 0) 1 := by decide +kernel
theorem d1_156 : own_d1 156 (.bipush 16) 2 := by decide +kernel
theorem d1_158 : own_d1 158 (.invokestatic 11) 3 := by decide +kernel
theorem d1_161 : own_d1 161 .castore 1 := by decide +kernel
theorem d1_162 : own_d1 162 .dup 1 := by decide +kernel
theorem d1_163 : own_d1 163 (.bipush 17) 2 := by decide +kernel
theorem d1_165 : own_d1 165 (.lload_n 0) 1 := by decide +kernel
theorem d1_166 : own_d1 166 (.bipush 17) 2 := by decide +kernel
theorem d1_168 : own_d1 168 (.invokestatic 11) 3 := by decide +kernel
theorem d1_171 : own_d1 171 .castore 1 := by decide +kernel
theorem d1_172 : own_d1 172 .dup 1 := by decide +kernel
theorem d1_173 : own_d1 173 (.bipush 18) 2 := by decide +kernel
theorem d1_175 : own_d1 175 (.lload_n 0) 1 := by decide +kernel
theorem d1_176 : own_d1 176 (.bipush 18) 2 := by decide +kernel
theorem d1_178 : own_d1 178 (.invokestatic 11) 3 := by decide +kernel
theorem d1_181 : own_d1 181 .castore 1 := by decide +kernel
theorem d1_182 : own_d1 182 .dup 1 := by decide +kernel
theorem d1_183 : own_d1 183 (.bipush 19) 2 := by decide +kernel
theorem d1_185 : own_d1 185 (.lload_n 0) 1 := by decide +kernel
theorem d1_186 : own_d1 186 (.bipush 19) 2 := by decide +kernel
theorem d1_188 : own_d1 188 (.invokestatic 11) 3 := by decide +kernel
theorem d1_191 : own_d1 191 .castore 1 := by decide +kernel
theorem d1_192 : own_d1 192 (.astore_n 3) 1 := by decide +kernel
theorem d1_193 : own_d1 193 (.aload_n 3) 1 := by decide +kernel
theorem d1_194 : own_d1 194 (.iload_n 2) 1 := by decide +kernel
theorem d1_195 : own_d1 195 (.bipush 31) 2 := by decide +kernel
theorem d1_197 : own_d1 197 .iand 1 := by decide +kernel
theorem d1_198 : own_d1 198 (.bipush 20) 2 := by decide +kernel
theorem d1_200 : own_d1 200 .irem 1 := by decide +kernel
theorem d1_201 : own_d1 201 (.iload_n 2) 1 := by decide +kernel
theorem d1_202 : own_d1 202 (.iconst 5) 1 := by decide +kernel
theorem d1_203 : own_d1 203 .iushr 1 := by decide +kernel
theorem d1_204 : own_d1 204 (.invokestatic 17) 3 := by decide +kernel
theorem d1_207 : own_d1 207 .castore 1 := by decide +kernel
theorem d1_208 : own_d1 208 (.aload_n 3) 1 := by decide +kernel
theorem d1_209 : own_d1 209 (.iload_n 2) 1 := by decide +kernel
theorem d1_210 : own_d1 210 (.bipush 16) 2 := by decide +kernel
theorem d1_212 : own_d1 212 .iushr 1 := by decide +kernel
theorem d1_213 : own_d1 213 (.bipush 31) 2 := by decide +kernel
theorem d1_215 : own_d1 215 .iand 1 := by decide +kernel
theorem d1_216 : own_d1 216 (.bipush 20) 2 := by decide +kernel
theorem d1_218 : own_d1 218 .irem 1 := by decide +kernel
theorem d1_219 : own_d1 219 (.iload_n 2) 1 := by decide +kernel
theorem d1_220 : own_d1 220 (.bipush 21) 2 := by decide +kernel
theorem d1_222 : own_d1 222 .iushr 1 := by decide +kernel
theorem d1_223 : own_d1 223 (.invokestatic 17) 3 := by decide +kernel
theorem d1_226 : own_d1 226 .castore 1 := by decide +kernel
theorem d1_227 : own_d1 227 (.aload_n 3) 1 := by decide +kernel
theorem d1_228 : own_d1 228 .areturn 1 := by decide +kernel
def Q1 (Z : State) (q0 : Int64) (p1 : Int32) (h0 : Heap) (n0 : Nat) (v : Option Value) (h : Heap) (L : List Loc) : Prop := ∃ (r : Addr) (k : ClassId), v = some (.ref r) ∧ Fr n0 L ∧ Keep h0 h [] ∧ n0 ≤ r ∧ h0.size ≤ r ∧ Arv Z h r k .char (20 : Int32) ((own_prefix q0 p1).map Value.int) (.int (0 : Int32))
set_option maxRecDepth 65536 in
set_option maxHeartbeats 40000000 in
theorem rm1 (l : Launch) (Z : State) (ag : Array Value) (hw : ∀ d ∈ tables_1, d.before ag Z = true) (ws : List Jvm.Cond) (q0 : Int64) (p1 : Int32) (h0 : Heap) (n0 : Nat) (Z0 : n0 ≤ h0.size) :
    MetFree l (⟨"com/example/needle_in_json/needleinjson/MaskedDigitsResumeAfterStringPinLaw", "prefix", "(JI)[C"⟩ : MethodName) (head1 (Jvm.Cond.code (⟨"com/example/needle_in_json/needleinjson/MaskedDigitsResumeAfterStringPinLaw", "prefix", "(JI)[C"⟩ : MethodName) method_4_code 4 (some (.array .char)) :: ws) ({ frames := 1, cells := 1, slots := 20, locals := 17 } : Room)) (fun a U => a = #[(.long q0), (.int p1)] ∧ Z.Warmed39 U.vm ∧ U.heap = h0) (fun _ _ _ _ _ => True) (fun _ U o U' => ∃ v L, o = .returned v ∧ Q1 Z q0 p1 h0 n0 v U'.heap L ∧ FrameEnd U o U' L ({ frames := 1, cells := 1, slots := 20, locals := 17 } : Room).cells ({ frames := 1, cells := 1, slots := 20, locals := 17 } : Room).slots) := by
  refine MetFree.of_bodySF (plainFor_of_name pn_1) hisR ?_
  intro p e s m args below meth c s₁ Bd hml0 hP hK
  obtain ⟨rfl, hZ, hh⟩ := hP
  have hx := Bd.exec
  have hby := Bd.bytes
  have hml : c.maxLocals = 4 := hml0
  have hown : s.vm.findClass "com/example/needle_in_json/needleinjson/MaskedDigitsResumeAfterStringPinLaw" = some m.cls := findClass_of_methodNamed Bd.named
  have hnm := (name_of_methodNamed Bd.named Bd.method).1
  have X0 : Stand p l e ({ frames := 1, cells := 1, slots := 20, locals := 17 } : Room) s m #[(.long q0), (.int p1)] below meth c s₁ [] 0 0 := Stand.of_body Bd
  have e0 : s₁.heap = h0 := by rw [← hh, Bd.state]; rfl
  have N0 := Fr.nil n0
  have pre0 : ∀ t, Steps p.tables e below (s₁.setTop (mkF m 0 #[.val (.long q0), .second, .val (.int p1), .unset] [])) t → Steps p.tables e below (s₁.setTop (entryFrame m #[(.long q0), (.int p1)] 4)) t := fun t k => castTop (ef_1 m q0 p1) k
  obtain ⟨T1280, h1280, k1280, X1280, e1280, E1280, A1280, st1280⟩ := newP X0 hx hZ (own_wk hw 4 rfl) e0 (g := (mkF m 2 #[.val (.long q0), .second, .val (.int p1), .unset] [.int 20])) rfl (hb hby d1_2) rfl (by decide) (cap := 20) (by decide) (by decide) (by decide) (by decide)
  obtain ⟨b1280, g1280⟩ : ∃ z, z = h0.size := ⟨_, rfl⟩
  have ge_b1280 : n0 ≤ b1280 := Nat.le_trans Z0 (Nat.le_of_eq g1280.symm)
  have gs_b1280 : h0.size ≤ b1280 := Nat.le_trans (Keep.refl h0 []).1 (Nat.le_of_eq g1280.symm)
  rw [← g1280] at A1280 st1280
  have sz1281 : n0 ≤ h1280.size := Nat.le_trans Z0 E1280.1
  have kp1282 : Keep h0 h1280 [] := (Keep.refl h0 []).ext E1280
  have V1280 : Arv Z h1280 b1280 k1280 .char (20 : Int32) (own_pl 20 (own_pf q0) 0) (.int (0 : Int32)) := (Arv.new A1280 (by decide)).pad (own_pad0 20)
  have HF0 : own_FS p l e ({ frames := 1, cells := 1, slots := 20, locals := 17 } : Room) s m #[(.long q0), (.int p1)] below meth c Z h0 n0 (20 : Int32) b1280 k1280 20 T1280 (own_pl 20 (own_pf q0) 0) := ⟨_, _, X1280, e1280, sz1281, N0, kp1282, V1280⟩
  obtain ⟨T1283, HF1283, st1283⟩ := own_fill20 l Z ag hw hx hZ hown hml ge_b1280 gs_b1280 HF0 (j := 0) (pc0 := 8) (i := (0 : Int32)) (Ls := #[.val (.long q0), .second, .val (.int p1), .unset]) (by rw [hml]; rfl) (hb hby d1_8) (hb hby d1_11) rfl ⟨by decide, by decide⟩ rfl (by decide)
  obtain ⟨h1283, L1283, X1283, e1283, sz1283, N1283, kp1283, V1283⟩ := id HF1283
  obtain ⟨T1284, HF1284, st1284⟩ := own_fill20 l Z ag hw hx hZ hown hml ge_b1280 gs_b1280 HF1283 (j := 1) (pc0 := 16) (i := (1 : Int32)) (Ls := #[.val (.long q0), .second, .val (.int p1), .unset]) (by rw [hml]; rfl) (hb hby d1_16) (hb hby d1_19) rfl ⟨by decide, by decide⟩ rfl (by decide)
  obtain ⟨h1284, L1284, X1284, e1284, sz1284, N1284, kp1284, V1284⟩ := id HF1284
  obtain ⟨T1285, HF1285, st1285⟩ := own_fill20 l Z ag hw hx hZ hown hml ge_b1280 gs_b1280 HF1284 (j := 2) (pc0 := 24) (i := (2 : Int32)) (Ls := #[.val (.long q0), .second, .val (.int p1), .unset]) (by rw [hml]; rfl) (hb hby d1_24) (hb hby d1_27) rfl ⟨by decide, by decide⟩ rfl (by decide)
  obtain ⟨h1285, L1285, X1285, e1285, sz1285, N1285, kp1285, V1285⟩ := id HF1285
  have cp1286 : ∀ target, own_S p e below T1285 (mkF m 32 #[.val (.long q0), .second, .val (.int p1), .unset] [.int 3, (.long q0), .int 3, (.ref b1280), (.ref b1280)]) target → own_S p e below s₁ (mkF m 0 #[.val (.long q0), .second, .val (.int p1), .unset] []) target := by
    intro target kt
    show own_S p e below s₁ (mkF m 0 #[.val (.long q0), .second, .val (.int p1), .unset] []) _
    refine XS.bipush X0.here hx rfl (hb hby d1_0) (st1280 _ (XS.dup X1280.here hx rfl (hb hby d1_4) rfl rfl (XS.iconst X1280.here hx rfl (hb hby d1_5) (XS.lloadN X1280.here hx rfl (hb hby d1_6) rfl (XS.iconst X1280.here hx rfl (hb hby d1_7) (st1283 _ (XS.dup X1283.here hx rfl (hb hby d1_12) rfl rfl (XS.iconst X1283.here hx rfl (hb hby d1_13) (XS.lloadN X1283.here hx rfl (hb hby d1_14) rfl ?_)))))))))
    refine XS.iconst X1283.here hx rfl (hb hby d1_15) (st1284 _ (XS.dup X1284.here hx rfl (hb hby d1_20) rfl rfl (XS.iconst X1284.here hx rfl (hb hby d1_21) (XS.lloadN X1284.here hx rfl (hb hby d1_22) rfl (XS.iconst X1284.here hx rfl (hb hby d1_23) ?_)))))
    show own_S p e below T1284 (mkF m 24 #[.val (.long q0), .second, .val (.int p1), .unset] [.int 2, (.long q0), .int 2, (.ref b1280), (.ref b1280)]) _
    refine st1285 _ (XS.dup X1285.here hx rfl (hb hby d1_28) rfl rfl (XS.iconst X1285.here hx rfl (hb hby d1_29) (XS.lloadN X1285.here hx rfl (hb hby d1_30) rfl (XS.iconst X1285.here hx rfl (hb hby d1_31) ?_))))
    exact kt
  obtain ⟨T1287, HF1287, st1287⟩ := own_fill20 l Z ag hw hx hZ hown hml ge_b1280 gs_b1280 HF1285 (j := 3) (pc0 := 32) (i := (3 : Int32)) (Ls := #[.val (.long q0), .second, .val (.int p1), .unset]) (by rw [hml]; rfl) (hb hby d1_32) (hb hby d1_35) rfl ⟨by decide, by decide⟩ rfl (by decide)
  obtain ⟨h1287, L1287, X1287, e1287, sz1287, N1287, kp1287, V1287⟩ := id HF1287
  obtain ⟨T1288, HF1288, st1288⟩ := own_fill20 l Z ag hw hx hZ hown hml ge_b1280 gs_b1280 HF1287 (j := 4) (pc0 := 40) (i := (4 : Int32)) (Ls := #[.val (.long q0), .second, .val (.int p1), .unset]) (by rw [hml]; rfl) (hb hby d1_40) (hb hby d1_43) rfl ⟨by decide, by decide⟩ rfl (by decide)
  obtain ⟨h1288, L1288, X1288, e1288, sz1288, N1288, kp1288, V1288⟩ := id HF1288
  obtain ⟨T1289, HF1289, st1289⟩ := own_fill20 l Z ag hw hx hZ hown hml ge_b1280 gs_b1280 HF1288 (j := 5) (pc0 := 48) (i := (5 : Int32)) (Ls := #[.val (.long q0), .second, .val (.int p1), .unset]) (by rw [hml]; rfl) (hb hby d1_48) (hb hby d1_51) rfl ⟨by decide, by decide⟩ rfl (by decide)
  obtain ⟨h1289, L1289, X1289, e1289, sz1289, N1289, kp1289, V1289⟩ := id HF1289
  obtain ⟨T1290, HF1290, st1290⟩ := own_fill20 l Z ag hw hx hZ hown hml ge_b1280 gs_b1280 HF1289 (j := 6) (pc0 := 58) (i := (6 : Int32)) (Ls := #[.val (.long q0), .second, .val (.int p1), .unset]) (by rw [hml]; rfl) (hb hby d1_58) (hb hby d1_61) rfl ⟨by decide, by decide⟩ rfl (by decide)
  obtain ⟨h1290, L1290, X1290, e1290, sz1290, N1290, kp1290, V1290⟩ := id HF1290
  have cp1291 : ∀ target, own_S p e below T1290 (mkF m 68 #[.val (.long q0), .second, .val (.int p1), .unset] [.int 7, (.long q0), .int 7, (.ref b1280), (.ref b1280)]) target → own_S p e below s₁ (mkF m 0 #[.val (.long q0), .second, .val (.int p1), .unset] []) target := by
    intro target kt
    show own_S p e below s₁ (mkF m 0 #[.val (.long q0), .second, .val (.int p1), .unset] []) _
    refine cp1286 _ (st1287 _ (XS.dup X1287.here hx rfl (hb hby d1_36) rfl rfl (XS.iconst X1287.here hx rfl (hb hby d1_37) (XS.lloadN X1287.here hx rfl (hb hby d1_38) rfl (XS.iconst X1287.here hx rfl (hb hby d1_39) (st1288 _ (XS.dup X1288.here hx rfl (hb hby d1_44) rfl rfl (XS.iconst X1288.here hx rfl (hb hby d1_45) (XS.lloadN X1288.here hx rfl (hb hby d1_46) rfl ?_)))))))))
    refine XS.iconst X1288.here hx rfl (hb hby d1_47) (st1289 _ (XS.dup X1289.here hx rfl (hb hby d1_52) rfl rfl (XS.bipush X1289.here hx rfl (hb hby d1_53) (XS.lloadN X1289.here hx rfl (hb hby d1_55) rfl (XS.bipush X1289.here hx rfl (hb hby d1_56) ?_)))))
    show own_S p e below T1289 (mkF m 58 #[.val (.long q0), .second, .val (.int p1), .unset] [.int 6, (.long q0), .int 6, (.ref b1280), (.ref b1280)]) _
    refine st1290 _ (XS.dup X1290.here hx rfl (hb hby d1_62) rfl rfl (XS.bipush X1290.here hx rfl (hb hby d1_63) (XS.lloadN X1290.here hx rfl (hb hby d1_65) rfl (XS.bipush X1290.here hx rfl (hb hby d1_66) ?_))))
    exact kt
  obtain ⟨T1292, HF1292, st1292⟩ := own_fill20 l Z ag hw hx hZ hown hml ge_b1280 gs_b1280 HF1290 (j := 7) (pc0 := 68) (i := (7 : Int32)) (Ls := #[.val (.long q0), .second, .val (.int p1), .unset]) (by rw [hml]; rfl) (hb hby d1_68) (hb hby d1_71) rfl ⟨by decide, by decide⟩ rfl (by decide)
  obtain ⟨h1292, L1292, X1292, e1292, sz1292, N1292, kp1292, V1292⟩ := id HF1292
  obtain ⟨T1293, HF1293, st1293⟩ := own_fill20 l Z ag hw hx hZ hown hml ge_b1280 gs_b1280 HF1292 (j := 8) (pc0 := 78) (i := (8 : Int32)) (Ls := #[.val (.long q0), .second, .val (.int p1), .unset]) (by rw [hml]; rfl) (hb hby d1_78) (hb hby d1_81) rfl ⟨by decide, by decide⟩ rfl (by decide)
  obtain ⟨h1293, L1293, X1293, e1293, sz1293, N1293, kp1293, V1293⟩ := id HF1293
  obtain ⟨T1294, HF1294, st1294⟩ := own_fill20 l Z ag hw hx hZ hown hml ge_b1280 gs_b1280 HF1293 (j := 9) (pc0 := 88) (i := (9 : Int32)) (Ls := #[.val (.long q0), .second, .val (.int p1), .unset]) (by rw [hml]; rfl) (hb hby d1_88) (hb hby d1_91) rfl ⟨by decide, by decide⟩ rfl (by decide)
  obtain ⟨h1294, L1294, X1294, e1294, sz1294, N1294, kp1294, V1294⟩ := id HF1294
  obtain ⟨T1295, HF1295, st1295⟩ := own_fill20 l Z ag hw hx hZ hown hml ge_b1280 gs_b1280 HF1294 (j := 10) (pc0 := 98) (i := (10 : Int32)) (Ls := #[.val (.long q0), .second, .val (.int p1), .unset]) (by rw [hml]; rfl) (hb hby d1_98) (hb hby d1_101) rfl ⟨by decide, by decide⟩ rfl (by decide)
  obtain ⟨h1295, L1295, X1295, e1295, sz1295, N1295, kp1295, V1295⟩ := id HF1295
  have cp1296 : ∀ target, own_S p e below T1295 (mkF m 108 #[.val (.long q0), .second, .val (.int p1), .unset] [.int 11, (.long q0), .int 11, (.ref b1280), (.ref b1280)]) target → own_S p e below s₁ (mkF m 0 #[.val (.long q0), .second, .val (.int p1), .unset] []) target := by
    intro target kt
    show own_S p e below s₁ (mkF m 0 #[.val (.long q0), .second, .val (.int p1), .unset] []) _
    refine cp1291 _ (st1292 _ (XS.dup X1292.here hx rfl (hb hby d1_72) rfl rfl (XS.bipush X1292.here hx rfl (hb hby d1_73) (XS.lloadN X1292.here hx rfl (hb hby d1_75) rfl (XS.bipush X1292.here hx rfl (hb hby d1_76) (st1293 _ (XS.dup X1293.here hx rfl (hb hby d1_82) rfl rfl (XS.bipush X1293.here hx rfl (hb hby d1_83) (XS.lloadN X1293.here hx rfl (hb hby d1_85) rfl ?_)))))))))
    refine XS.bipush X1293.here hx rfl (hb hby d1_86) (st1294 _ (XS.dup X1294.here hx rfl (hb hby d1_92) rfl rfl (XS.bipush X1294.here hx rfl (hb hby d1_93) (XS.lloadN X1294.here hx rfl (hb hby d1_95) rfl (XS.bipush X1294.here hx rfl (hb hby d1_96) ?_)))))
    show own_S p e below T1294 (mkF m 98 #[.val (.long q0), .second, .val (.int p1), .unset] [.int 10, (.long q0), .int 10, (.ref b1280), (.ref b1280)]) _
    refine st1295 _ (XS.dup X1295.here hx rfl (hb hby d1_102) rfl rfl (XS.bipush X1295.here hx rfl (hb hby d1_103) (XS.lloadN X1295.here hx rfl (hb hby d1_105) rfl (XS.bipush X1295.here hx rfl (hb hby d1_106) ?_))))
    exact kt
  obtain ⟨T1297, HF1297, st1297⟩ := own_fill20 l Z ag hw hx hZ hown hml ge_b1280 gs_b1280 HF1295 (j := 11) (pc0 := 108) (i := (11 : Int32)) (Ls := #[.val (.long q0), .second, .val (.int p1), .unset]) (by rw [hml]; rfl) (hb hby d1_108) (hb hby d1_111) rfl ⟨by decide, by decide⟩ rfl (by decide)
  obtain ⟨h1297, L1297, X1297, e1297, sz1297, N1297, kp1297, V1297⟩ := id HF1297
  obtain ⟨T1298, HF1298, st1298⟩ := own_fill20 l Z ag hw hx hZ hown hml ge_b1280 gs_b1280 HF1297 (j := 12) (pc0 := 118) (i := (12 : Int32)) (Ls := #[.val (.long q0), .second, .val (.int p1), .unset]) (by rw [hml]; rfl) (hb hby d1_118) (hb hby d1_121) rfl ⟨by decide, by decide⟩ rfl (by decide)
  obtain ⟨h1298, L1298, X1298, e1298, sz1298, N1298, kp1298, V1298⟩ := id HF1298
  obtain ⟨T1299, HF1299, st1299⟩ := own_fill20 l Z ag hw hx hZ hown hml ge_b1280 gs_b1280 HF1298 (j := 13) (pc0 := 128) (i := (13 : Int32)) (Ls := #[.val (.long q0), .second, .val (.int p1), .unset]) (by rw [hml]; rfl) (hb hby d1_128) (hb hby d1_131) rfl ⟨by decide, by decide⟩ rfl (by decide)
  obtain ⟨h1299, L1299, X1299, e1299, sz1299, N1299, kp1299, V1299⟩ := id HF1299
  obtain ⟨T1300, HF1300, st1300⟩ := own_fill20 l Z ag hw hx hZ hown hml ge_b1280 gs_b1280 HF1299 (j := 14) (pc0 := 138) (i := (14 : Int32)) (Ls := #[.val (.long q0), .second, .val (.int p1), .unset]) (by rw [hml]; rfl) (hb hby d1_138) (hb hby d1_141) rfl ⟨by decide, by decide⟩ rfl (by decide)
  obtain ⟨h1300, L1300, X1300, e1300, sz1300, N1300, kp1300, V1300⟩ := id HF1300
  have cp1301 : ∀ target, own_S p e below T1300 (mkF m 148 #[.val (.long q0), .second, .val (.int p1), .unset] [.int 15, (.long q0), .int 15, (.ref b1280), (.ref b1280)]) target → own_S p e below s₁ (mkF m 0 #[.val (.long q0), .second, .val (.int p1), .unset] []) target := by
    intro target kt
    show own_S p e below s₁ (mkF m 0 #[.val (.long q0), .second, .val (.int p1), .unset] []) _
    refine cp1296 _ (st1297 _ (XS.dup X1297.here hx rfl (hb hby d1_112) rfl rfl (XS.bipush X1297.here hx rfl (hb hby d1_113) (XS.lloadN X1297.here hx rfl (hb hby d1_115) rfl (XS.bipush X1297.here hx rfl (hb hby d1_116) (st1298 _ (XS.dup X1298.here hx rfl (hb hby d1_122) rfl rfl (XS.bipush X1298.here hx rfl (hb hby d1_123) (XS.lloadN X1298.here hx rfl (hb hby d1_125) rfl ?_)))))))))
    refine XS.bipush X1298.here hx rfl (hb hby d1_126) (st1299 _ (XS.dup X1299.here hx rfl (hb hby d1_132) rfl rfl (XS.bipush X1299.here hx rfl (hb hby d1_133) (XS.lloadN X1299.here hx rfl (hb hby d1_135) rfl (XS.bipush X1299.here hx rfl (hb hby d1_136) ?_)))))
    show own_S p e below T1299 (mkF m 138 #[.val (.long q0), .second, .val (.int p1), .unset] [.int 14, (.long q0), .int 14, (.ref b1280), (.ref b1280)]) _
    refine st1300 _ (XS.dup X1300.here hx rfl (hb hby d1_142) rfl rfl (XS.bipush X1300.here hx rfl (hb hby d1_143) (XS.lloadN X1300.here hx rfl (hb hby d1_145) rfl (XS.bipush X1300.here hx rfl (hb hby d1_146) ?_))))
    exact kt
  obtain ⟨T1302, HF1302, st1302⟩ := own_fill20 l Z ag hw hx hZ hown hml ge_b1280 gs_b1280 HF1300 (j := 15) (pc0 := 148) (i := (15 : Int32)) (Ls := #[.val (.long q0), .second, .val (.int p1), .unset]) (by rw [hml]; rfl) (hb hby d1_148) (hb hby d1_151) rfl ⟨by decide, by decide⟩ rfl (by decide)
  obtain ⟨h1302, L1302, X1302, e1302, sz1302, N1302, kp1302, V1302⟩ := id HF1302
  obtain ⟨T1303, HF1303, st1303⟩ := own_fill20 l Z ag hw hx hZ hown hml ge_b1280 gs_b1280 HF1302 (j := 16) (pc0 := 158) (i := (16 : Int32)) (Ls := #[.val (.long q0), .second, .val (.int p1), .unset]) (by rw [hml]; rfl) (hb hby d1_158) (hb hby d1_161) rfl ⟨by decide, by decide⟩ rfl (by decide)
  obtain ⟨h1303, L1303, X1303, e1303, sz1303, N1303, kp1303, V1303⟩ := id HF1303
  obtain ⟨T1304, HF1304, st1304⟩ := own_fill20 l Z ag hw hx hZ hown hml ge_b1280 gs_b1280 HF1303 (j := 17) (pc0 := 168) (i := (17 : Int32)) (Ls := #[.val (.long q0), .second, .val (.int p1), .unset]) (by rw [hml]; rfl) (hb hby d1_168) (hb hby d1_171) rfl ⟨by decide, by decide⟩ rfl (by decide)
  obtain ⟨h1304, L1304, X1304, e1304, sz1304, N1304, kp1304, V1304⟩ := id HF1304
  obtain ⟨T1305, HF1305, st1305⟩ := own_fill20 l Z ag hw hx hZ hown hml ge_b1280 gs_b1280 HF1304 (j := 18) (pc0 := 178) (i := (18 : Int32)) (Ls := #[.val (.long q0), .second, .val (.int p1), .unset]) (by rw [hml]; rfl) (hb hby d1_178) (hb hby d1_181) rfl ⟨by decide, by decide⟩ rfl (by decide)
  obtain ⟨h1305, L1305, X1305, e1305, sz1305, N1305, kp1305, V1305⟩ := id HF1305
  have cp1306 : ∀ target, own_S p e below T1305 (mkF m 188 #[.val (.long q0), .second, .val (.int p1), .unset] [.int 19, (.long q0), .int 19, (.ref b1280), (.ref b1280)]) target → own_S p e below s₁ (mkF m 0 #[.val (.long q0), .second, .val (.int p1), .unset] []) target := by
    intro target kt
    show own_S p e below s₁ (mkF m 0 #[.val (.long q0), .second, .val (.int p1), .unset] []) _
    refine cp1301 _ (st1302 _ (XS.dup X1302.here hx rfl (hb hby d1_152) rfl rfl (XS.bipush X1302.here hx rfl (hb hby d1_153) (XS.lloadN X1302.here hx rfl (hb hby d1_155) rfl (XS.bipush X1302.here hx rfl (hb hby d1_156) (st1303 _ (XS.dup X1303.here hx rfl (hb hby d1_162) rfl rfl (XS.bipush X1303.here hx rfl (hb hby d1_163) (XS.lloadN X1303.here hx rfl (hb hby d1_165) rfl ?_)))))))))
    refine XS.bipush X1303.here hx rfl (hb hby d1_166) (st1304 _ (XS.dup X1304.here hx rfl (hb hby d1_172) rfl rfl (XS.bipush X1304.here hx rfl (hb hby d1_173) (XS.lloadN X1304.here hx rfl (hb hby d1_175) rfl (XS.bipush X1304.here hx rfl (hb hby d1_176) ?_)))))
    show own_S p e below T1304 (mkF m 178 #[.val (.long q0), .second, .val (.int p1), .unset] [.int 18, (.long q0), .int 18, (.ref b1280), (.ref b1280)]) _
    refine st1305 _ (XS.dup X1305.here hx rfl (hb hby d1_182) rfl rfl (XS.bipush X1305.here hx rfl (hb hby d1_183) (XS.lloadN X1305.here hx rfl (hb hby d1_185) rfl (XS.bipush X1305.here hx rfl (hb hby d1_186) ?_))))
    exact kt
  obtain ⟨T1307, HF1307, st1307⟩ := own_fill20 l Z ag hw hx hZ hown hml ge_b1280 gs_b1280 HF1305 (j := 19) (pc0 := 188) (i := (19 : Int32)) (Ls := #[.val (.long q0), .second, .val (.int p1), .unset]) (by rw [hml]; rfl) (hb hby d1_188) (hb hby d1_191) rfl ⟨by decide, by decide⟩ rfl (by decide)
  obtain ⟨h1307, L1307, X1307, e1307, sz1307, N1307, kp1307, V1307⟩ := id HF1307
  obtain ⟨_, _, ⟨T1308, L1308, k1308, n1308⟩, -, X1308, ⟨Lc1308, hQ1308, l1308, y1308, z1308⟩, st1308⟩ := Jvm.LawKit.callS X1307 hx (y := (⟨"com/example/needle_in_json/needleinjson/MaskedDigitsResumeAfterStringPinLaw", "special", "(I)C"⟩ : MethodName)) hown (mvT hZ (own_wk hw 10 rfl)) (mvT hZ (own_wk hw 11 rfl)) (mvT hZ (own_wk hw 2 rfl)) (mvT hZ (own_wk hw 12 rfl)) (by decide) (backOf (W := 2) (rm3 l Z ag hw [] (own_ushr p1 (5 : Int32))  h1307 n0 sz1307 ) hZ (own_wk hw 12 rfl) (own_wk hw 2 rfl) (by decide) (by decide)) (g := (mkF m 204 #[.val (.long q0), .second, .val (.int p1), .val (.ref b1280)] [(.int (own_ushr p1 (5 : Int32))), (.int ((p1 &&& (31 : Int32)) % (20 : Int32))), (.ref b1280)])) rfl (by rw [hml]; rfl) (argsL := [(.int (own_ushr p1 (5 : Int32)))]) (rest := [(.int ((p1 &&& (31 : Int32)) % (20 : Int32))), (.ref b1280)]) (lenOf pd_7 rfl) rfl (by show 2 * 0 + _ ≤ _; exact Nat.le_of_eq rfl) (hb hby d1_204) (fun _ _ => ⟨rfl, e1307, (by decide : 1 + 0 ≤ _), (by decide : 20 + 0 ≤ _)⟩)
  dsimp only [Pt.U, Pt.locs, Pt.cells, Pt.slots] at X1308 l1308 y1308 z1308 st1308 hQ1308
  subst l1308 y1308 z1308
  obtain ⟨rfl, N1308q, e1308⟩ := hQ1308
  have N1308 := Fr.app N1307 N1308q
  obtain ⟨cl1309, Ar1309, q1309, S1309, M1309, H1309, G1309⟩ := id V1307
  have hin1309 : ¬ (((p1 &&& (31 : Int32)) % (20 : Int32)) < 0 ∨ cl1309.slots.size ≤ (((p1 &&& (31 : Int32)) % (20 : Int32))).toNatClampNeg) := inb_of S1309 (own_mi (own_and31 _).1 (by decide))
  obtain ⟨T1309, h1309, X1309, e1309, W1309, st1309⟩ := stC X1308 hx hZ e1308 Ar1309 (j := ((p1 &&& (31 : Int32)) % (20 : Int32))) hin1309 (g := (mkF m 207 #[.val (.long q0), .second, .val (.int p1), .val (.ref b1280)] [(.int (own_special (own_ushr p1 (5 : Int32)))), (.int ((p1 &&& (31 : Int32)) % (20 : Int32))), (.ref b1280)])) rfl rfl (hb hby d1_207)
  have V1309 : Arv Z h1309 b1280 k1280 .char (20 : Int32) ((own_pl 20 (own_pf q0) 20).set (((p1 &&& (31 : Int32)) % (20 : Int32))).toNatClampNeg (.int (nar .char (own_special (own_ushr p1 (5 : Int32)))))) (.int (0 : Int32)) := Arv.set Ar1309 q1309 S1309 M1309 H1309 G1309 (fits_nar_char _) W1309 (((p1 &&& (31 : Int32)) % (20 : Int32))).toNatClampNeg rfl (by rw [own_pl_len]; exact own_mk (own_and31 _).1 (by decide))
  have sz1310 : n0 ≤ h1309.size := Nat.le_trans sz1307 (Keep.of_wr W1309).1
  have kp1311 : Keep h0 h1309 [] := kp1307.wr W1309 (Or.inr gs_b1280)
  have N1309 := Fr.snoc X1309 N1308 ge_b1280
  have cp1312 : ∀ target, own_S p e below T1309 (mkF m 223 #[.val (.long q0), .second, .val (.int p1), .val (.ref b1280)] [(.int (own_ushr p1 (21 : Int32))), (.int (((own_ushr p1 (16 : Int32)) &&& (31 : Int32)) % (20 : Int32))), (.ref b1280)]) target → own_S p e below s₁ (mkF m 0 #[.val (.long q0), .second, .val (.int p1), .unset] []) target := by
    intro target kt
    show own_S p e below s₁ (mkF m 0 #[.val (.long q0), .second, .val (.int p1), .unset] []) _
    refine cp1306 _ (st1307 _ (XS.astoreN X1307.here hx rfl (hb hby d1_192) rfl rfl (l' := #[.val (.long q0), .second, .val (.int p1), .val (.ref b1280)]) rfl (XS.aloadN X1307.here hx rfl (hb hby d1_193) rfl rfl (XS.iloadN X1307.here hx rfl (hb hby d1_194) rfl (XS.bipush X1307.here hx rfl (hb hby d1_195) (XS.iand X1307.here hx rfl (hb hby d1_197) rfl (XS.bipush X1307.here hx rfl (hb hby d1_198) (iremM X1307 hx rfl (hb hby d1_200) rfl (by decide) (XS.iloadN X1307.here hx rfl (hb hby d1_201) rfl ?_)))))))))
    refine XS.iconst X1307.here hx rfl (hb hby d1_202) (XS.iushr X1307.here hx rfl (hb hby d1_203) rfl (st1308 _ (st1309 _ ?_)))
    show own_S p e below T1309 (mkF m 208 #[.val (.long q0), .second, .val (.int p1), .val (.ref b1280)] []) _
    refine XS.aloadN X1309.here hx rfl (hb hby d1_208) rfl rfl (XS.iloadN X1309.here hx rfl (hb hby d1_209) rfl (XS.bipush X1309.here hx rfl (hb hby d1_210) (XS.iushr X1309.here hx rfl (hb hby d1_212) rfl (XS.bipush X1309.here hx rfl (hb hby d1_213) (XS.iand X1309.here hx rfl (hb hby d1_215) rfl (XS.bipush X1309.here hx rfl (hb hby d1_216) (iremM X1309 hx rfl (hb hby d1_218) rfl (by decide) (XS.iloadN X1309.here hx rfl (hb hby d1_219) rfl (XS.bipush X1309.here hx rfl (hb hby d1_220) ?_)))))))))
    refine XS.iushr X1309.here hx rfl (hb hby d1_222) rfl ?_
    exact kt
  obtain ⟨_, _, ⟨T1313, L1313, k1313, n1313⟩, -, X1313, ⟨Lc1313, hQ1313, l1313, y1313, z1313⟩, st1313⟩ := Jvm.LawKit.callS X1309 hx (y := (⟨"com/example/needle_in_json/needleinjson/MaskedDigitsResumeAfterStringPinLaw", "special", "(I)C"⟩ : MethodName)) hown (mvT hZ (own_wk hw 10 rfl)) (mvT hZ (own_wk hw 11 rfl)) (mvT hZ (own_wk hw 2 rfl)) (mvT hZ (own_wk hw 12 rfl)) (by decide) (backOf (W := 2) (rm3 l Z ag hw [] (own_ushr p1 (21 : Int32))  h1309 n0 sz1310 ) hZ (own_wk hw 12 rfl) (own_wk hw 2 rfl) (by decide) (by decide)) (g := (mkF m 223 #[.val (.long q0), .second, .val (.int p1), .val (.ref b1280)] [(.int (own_ushr p1 (21 : Int32))), (.int (((own_ushr p1 (16 : Int32)) &&& (31 : Int32)) % (20 : Int32))), (.ref b1280)])) rfl (by rw [hml]; rfl) (argsL := [(.int (own_ushr p1 (21 : Int32)))]) (rest := [(.int (((own_ushr p1 (16 : Int32)) &&& (31 : Int32)) % (20 : Int32))), (.ref b1280)]) (lenOf pd_7 rfl) rfl (by show 2 * 0 + _ ≤ _; exact Nat.le_of_eq rfl) (hb hby d1_223) (fun _ _ => ⟨rfl, e1309, (by decide : 1 + 0 ≤ _), (by decide : 20 + 0 ≤ _)⟩)
  dsimp only [Pt.U, Pt.locs, Pt.cells, Pt.slots] at X1313 l1313 y1313 z1313 st1313 hQ1313
  subst l1313 y1313 z1313
  obtain ⟨rfl, N1313q, e1313⟩ := hQ1313
  have N1313 := Fr.app N1309 N1313q
  obtain ⟨cl1314, Ar1314, q1314, S1314, M1314, H1314, G1314⟩ := id V1309
  have hin1314 : ¬ ((((own_ushr p1 (16 : Int32)) &&& (31 : Int32)) % (20 : Int32)) < 0 ∨ cl1314.slots.size ≤ ((((own_ushr p1 (16 : Int32)) &&& (31 : Int32)) % (20 : Int32))).toNatClampNeg) := inb_of S1314 (own_mi (own_and31 _).1 (by decide))
  obtain ⟨T1314, h1314, X1314, e1314, W1314, st1314⟩ := stC X1313 hx hZ e1313 Ar1314 (j := (((own_ushr p1 (16 : Int32)) &&& (31 : Int32)) % (20 : Int32))) hin1314 (g := (mkF m 226 #[.val (.long q0), .second, .val (.int p1), .val (.ref b1280)] [(.int (own_special (own_ushr p1 (21 : Int32)))), (.int (((own_ushr p1 (16 : Int32)) &&& (31 : Int32)) % (20 : Int32))), (.ref b1280)])) rfl rfl (hb hby d1_226)
  have V1314 : Arv Z h1314 b1280 k1280 .char (20 : Int32) (((own_pl 20 (own_pf q0) 20).set (((p1 &&& (31 : Int32)) % (20 : Int32))).toNatClampNeg (.int (nar .char (own_special (own_ushr p1 (5 : Int32)))))).set ((((own_ushr p1 (16 : Int32)) &&& (31 : Int32)) % (20 : Int32))).toNatClampNeg (.int (nar .char (own_special (own_ushr p1 (21 : Int32)))))) (.int (0 : Int32)) := Arv.set Ar1314 q1314 S1314 M1314 H1314 G1314 (fits_nar_char _) W1314 ((((own_ushr p1 (16 : Int32)) &&& (31 : Int32)) % (20 : Int32))).toNatClampNeg rfl (by rw [List.length_set]; rw [own_pl_len]; exact own_mk (own_and31 _).1 (by decide))
  have sz1315 : n0 ≤ h1314.size := Nat.le_trans sz1310 (Keep.of_wr W1314).1
  have kp1316 : Keep h0 h1314 [] := kp1311.wr W1314 (Or.inr gs_b1280)
  have N1314 := Fr.snoc X1314 N1313 ge_b1280
  obtain ⟨fs, hr, hrun, hended, hW, hsame⟩ := X1314.leave (v := some (.ref b1280)) (fun h => by rw [Bd.returns] at h; cases h)
  refine ⟨_, _, pre0 _ ?_, hrun, hended, _, _, rfl, ?_, ⟨_, rfl⟩, hW, hsame.mono (by decide) (by decide)⟩
  · show own_S p e below s₁ (mkF m 0 #[.val (.long q0), .second, .val (.int p1), .unset] []) _
    refine cp1312 _ (st1313 _ (st1314 _ (XS.aloadN X1314.here hx rfl (hb hby d1_227) rfl rfl ?_)))
    show own_S p e below T1314 (mkF m 228 #[.val (.long q0), .second, .val (.int p1), .val (.ref b1280)] [(.ref b1280)]) _
    exact Jvm.RoadKit.retOut X1314 hx Bd.returns rfl (Or.inr (Or.inr (Or.inr (Or.inr ⟨rfl, rfl, rfl⟩)))) (hb hby d1_228) hr
  · show Q1 Z q0 p1 h0 n0 _ T1314.heap _
    rw [e1314]
    refine ⟨b1280, k1280, rfl, N1314, kp1316, ge_b1280, gs_b1280, ?_⟩
    rw [own_prefixm]
    exact V1314
def own_suffix (q0 : Int64) (p1 : Int32) : List Int32 := (((List.range 24).map (own_pg q0)).set (((p1 &&& (31 : Int32)) % (24 : Int32))).toNatClampNeg (nar .char (own_special (own_ushr p1 (5 : Int32))))).set ((((own_ushr p1 (16 : Int32)) &&& (31 : Int32)) % (24 : Int32))).toNatClampNeg (nar .char (own_special (own_ushr p1 (21 : Int32))))
theorem own_suffixm (q0 : Int64) (p1 : Int32) : (own_suffix q0 p1).map Value.int = ((own_pl 24 (own_pf q0) 24).set (((p1 &&& (31 : Int32)) % (24 : Int32))).toNatClampNeg (.int (nar .char (own_special (own_ushr p1 (5 : Int32)))))).set ((((own_ushr p1 (16 : Int32)) &&& (31 : Int32)) % (24 : Int32))).toNatClampNeg (.int (nar .char (own_special (own_ushr p1 (21 : Int32))))) := by unfold own_suffix; rw [List.map_set, List.map_set, ← own_pl_eq]
set_option maxHeartbeats 4000000 in
theorem own_fill24 (l : Launch) (Z : State) (ag : Array Value) (hw : ∀ d ∈ tables_1, d.before ag Z = true) {p : Program} {e : Env} {s : State} {m : MethodId} {args : Array Value} {below : List Frame} {meth : Method} {c : Code} {h0 : Heap} {n0 : Nat} {r : Addr} {k : ClassId} {T : State} {j : Nat} {q0 : Int64} {i : Int32} {pc0 : Nat} {Ls : Array Slot} (hx : p.tables.exec = Jvm.exec) (hZ : Z.Warmed39 s.vm) (hown : s.vm.findClass "com/example/needle_in_json/needleinjson/MaskedDigitsResumeAfterStringPinLaw" = some m.cls) (hml : c.maxLocals = 4) (hge : n0 ≤ r) (hgs : h0.size ≤ r) (HF : own_FS p l e ({ frames := 1, cells := 1, slots := 24, locals := 17 } : Room) s m args below meth c Z h0 n0 (24 : Int32) r k 24 T (own_pl 24 (own_pf q0) j)) (hsz : Ls.size = c.maxLocals) (hd1 : decode c.code pc0 = .ok (.invokestatic 11, 3)) (hd2 : decode c.code (pc0 + 3) = .ok (.castore, 1)) (hij : i = Int32.ofNat j) (hi : ¬ i < 0 ∧ i < (24 : Int32)) (hk : i.toNatClampNeg = j) (hj : j < 24) :
    ∃ T', own_FS p l e ({ frames := 1, cells := 1, slots := 24, locals := 17 } : Room) s m args below meth c Z h0 n0 (24 : Int32) r k 24 T' (own_pl 24 (own_pf q0) (j + 1)) ∧ ∀ target, own_S p e below T' (mkF m (pc0 + 4) Ls [.ref r]) target → own_S p e below T (mkF m pc0 Ls [.int i, .long q0, .int i, .ref r, .ref r]) target := by
  obtain ⟨h, L, X, e0, sz, NF0, kp, V⟩ := HF
  obtain ⟨_, _, ⟨T1317, L1317, k1317, n1317⟩, -, X1317, ⟨Lc1317, hQ1317, l1317, y1317, z1317⟩, st1317⟩ := Jvm.LawKit.callS X hx (y := (⟨"com/example/needle_in_json/needleinjson/MaskedDigitsResumeAfterStringPinLaw", "d", "(JI)C"⟩ : MethodName)) hown (mvT hZ (own_wk hw 5 rfl)) (mvT hZ (own_wk hw 6 rfl)) (mvT hZ (own_wk hw 2 rfl)) (mvT hZ (own_wk hw 7 rfl)) (by decide) (backOf (W := 3) (rm2 l Z ag hw [] q0 i  h n0 sz ) hZ (own_wk hw 7 rfl) (own_wk hw 2 rfl) (by decide) (by decide)) (g := (mkF m pc0 Ls [(.int i), (.long q0), (.int i), (.ref r), (.ref r)])) rfl hsz (argsL := [(.long q0), (.int i)]) (rest := [(.int i), (.ref r), (.ref r)]) (lenOf pd_12 rfl) rfl (by show 2 * 0 + _ ≤ _; exact Nat.le_of_eq rfl) hd1 (fun _ _ => ⟨rfl, e0, (by decide : 1 + 0 ≤ _), (by decide : 24 + 0 ≤ _)⟩)
  dsimp only [Pt.U, Pt.locs, Pt.cells, Pt.slots] at X1317 l1317 y1317 z1317 st1317 hQ1317
  subst l1317 y1317 z1317
  obtain ⟨rfl, N1317q, e1317⟩ := hQ1317
  have N1317 := Fr.app NF0 N1317q
  obtain ⟨cl, Ar, q, S, M, H, G⟩ := id V
  have hin : ¬ (i < 0 ∨ cl.slots.size ≤ i.toNatClampNeg) := inb_of S hi
  obtain ⟨T2, h2, X2, e2, W2, st2⟩ := stC X1317 hx hZ e1317 Ar (j := i) hin (g := (mkF m (pc0 + 3) Ls [(.int (own_d q0 i)), (.int i), (.ref r), (.ref r)])) rfl rfl hd2
  have V2 : Arv Z h2 r k .char (24 : Int32) (own_pl 24 (own_pf q0) (j + 1)) (.int (0 : Int32)) := by
    rw [own_pl_succ, show own_pf q0 j = .int (nar .char (own_d q0 i)) from by subst hij; rfl]
    exact Arv.set Ar q S M H G (fits_nar_char _) W2 j hk (by rw [own_pl_len]; exact hj)
  exact ⟨T2, ⟨_, _, X2, e2, Nat.le_trans sz (Keep.of_wr W2).1, Fr.snoc X2 N1317 hge, kp.wr W2 (Or.inr hgs), V2⟩, fun target kt => st1317 _ (st2 _ kt)⟩
theorem ef_4 (m : MethodId) (q0 : Int64) (p1 : Int32) : entryFrame m #[(.long q0), (.int p1)] 4 = mkF m 0 #[.val (.long q0), .second, .val (.int p1), .unset] [] := by first | (simp [entryFrame, mkF, argsToLocals, Value.category]; done) | rfl
abbrev own_d4 (p : Nat) (i : Instr) (n : Nat) : Prop := decode method_5_code p = .ok (i, n)
theorem d4_0 : own_d4 0 (.bipush 24) 2 := by decide +kernel
theorem d4_2 : own_d4 2 (.newarray .char) 2 := by decide +kernel
theorem d4_4 : own_d4 4 .dup 1 := by decide +kernel
theorem d4_5 : own_d4 5 (.iconst 0) 1 := by decide +kernel
theorem d4_6 : own_d4 6 (.lload_n 0) 1 := by decide +kernel
theorem d4_7 : own_d4 7 (.iconst 0) 1 := by decide +kernel
theorem d4_8 : own_d4 8 (.invokestatic 11) 3 := by decide +kernel
theorem d4_11 : own_d4 11 .castore 1 := by decide +kernel
theorem d4_12 : own_d4 12 .dup 1 := by decide +kernel
theorem d4_13 : own_d4 13 (.iconst 1) 1 := by decide +kernel
theorem d4_14 : own_d4 14 (.lload_n 0) 1 := by decide +kernel
theorem d4_15 : own_d4 15 (.iconst 1) 1 := by decide +kernel
theorem d4_16 : own_d4 16 (.invokestatic 11) 3 := by decide +kernel
theorem d4_19 : own_d4 19 .castore 1 := by decide +kernel
theorem d4_20 : own_d4 20 .dup 1 := by decide +kernel
theorem d4_21 : own_d4 21 (.iconst 2) 1 := by decide +kernel
theorem d4_22 : own_d4 22 (.lload_n 0) 1 := by decide +kernel
theorem d4_23 : own_d4 23 (.iconst 2) 1 := by decide +kernel
theorem d4_24 : own_d4 24 (.invokestatic 11) 3 := by decide +kernel
theorem d4_27 : own_d4 27 .castore 1 := by decide +kernel
theorem d4_28 : own_d4 28 .dup 1 := by decide +kernel
theorem d4_29 : own_d4 29 (.iconst 3) 1 := by decide +kernel
theorem d4_30 : own_d4 30 (.lload_n 0) 1 := by decide +kernel
theorem d4_31 : own_d4 31 (.iconst 3) 1 := by decide +kernel
theorem d4_32 : own_d4 32 (.invokestatic 11) 3 := by decide +kernel
theorem d4_35 : own_d4 35 .castore 1 := by decide +kernel
theorem d4_36 : own_d4 36 .dup 1 := by decide +kernel
theorem d4_37 : own_d4 37 (.iconst 4) 1 := by decide +kernel
theorem d4_38 : own_d4 38 (.lload_n 0) 1 := by decide +kernel
theorem d4_39 : own_d4 39 (.iconst 4) 1 := by decide +kernel
theorem d4_40 : own_d4 40 (.invokestatic 11) 3 := by decide +kernel
theorem d4_43 : own_d4 43 .castore 1 := by decide +kernel
theorem d4_44 : own_d4 44 .dup 1 := by decide +kernel
theorem d4_45 : own_d4 45 (.iconst 5) 1 := by decide +kernel
theorem d4_46 : own_d4 46 (.lload_n 0) 1 := by decide +kernel
theorem d4_47 : own_d4 47 (.iconst 5) 1 := by decide +kernel
theorem d4_48 : own_d4 48 (.invokestatic 11) 3 := by decide +kernel
theorem d4_51 : own_d4 51 .castore 1 := by decide +kernel
theorem d4_52 : own_d4 52 .dup 1 := by decide +kernel
theorem d4_53 : own_d4 53 (.bipush 6) 2 := by decide +kernel
theorem d4_55 : own_d4 55 (.lload_n 0) 1 := by decide +kernel
theorem d4_56 : own_d4 56 (.bipush 6) 2 := by decide +kernel
theorem d4_58 : own_d4 58 (.invokestatic 11) 3 := by decide +kernel
theorem d4_61 : own_d4 61 .castore 1 := by decide +kernel
theorem d4_62 : own_d4 62 .dup 1 := by decide +kernel
theorem d4_63 : own_d4 63 (.bipush 7) 2 := by decide +kernel
theorem d4_65 : own_d4 65 (.lload_n 0) 1 := by decide +kernel
theorem d4_66 : own_d4 66 (.bipush 7) 2 := by decide +kernel
theorem d4_68 : own_d4 68 (.invokestatic 11) 3 := by decide +kernel
theorem d4_71 : own_d4 71 .castore 1 := by decide +kernel
theorem d4_72 : own_d4 72 .dup 1 := by decide +kernel
theorem d4_73 : own_d4 73 (.bipush 8) 2 := by decide +kernel
theorem d4_75 : own_d4 75 (.lload_n 0) 1 := by decide +kernel
theorem d4_76 : own_d4 76 (.bipush 8) 2 := by decide +kernel
theorem d4_78 : own_d4 78 (.invokestatic 11) 3 := by decide +kernel
theorem d4_81 : own_d4 81 .castore 1 := by decide +kernel
theorem d4_82 : own_d4 82 .dup 1 := by decide +kernel
theorem d4_83 : own_d4 83 (.bipush 9) 2 := by decide +kernel
theorem d4_85 : own_d4 85 (.lload_n 0) 1 := by decide +kernel
theorem d4_86 : own_d4 86 (.bipush 9) 2 := by decide +kernel
theorem d4_88 : own_d4 88 (.invokestatic 11) 3 := by decide +kernel
theorem d4_91 : own_d4 91 .castore 1 := by decide +kernel
theorem d4_92 : own_d4 92 .dup 1 := by decide +kernel
theorem d4_93 : own_d4 93 (.bipush 10) 2 := by decide +kernel
theorem d4_95 : own_d4 95 (.lload_n 0) 1 := by decide +kernel
theorem d4_96 : own_d4 96 (.bipush 10) 2 := by decide +kernel
theorem d4_98 : own_d4 98 (.invokestatic 11) 3 := by decide +kernel
theorem d4_101 : own_d4 101 .castore 1 := by decide +kernel
theorem d4_102 : own_d4 102 .dup 1 := by decide +kernel
theorem d4_103 : own_d4 103 (.bipush 11) 2 := by decide +kernel
theorem d4_105 : own_d4 105 (.lload_n 0) 1 := by decide +kernel
theorem d4_106 : own_d4 106 (.bipush 11) 2 := by decide +kernel
theorem d4_108 : own_d4 108 (.invokestatic 11) 3 := by decide +kernel
theorem d4_111 : own_d4 111 .castore 1 := by decide +kernel
theorem d4_112 : own_d4 112 .dup 1 := by decide +kernel
theorem d4_113 : own_d4 113 (.bipush 12) 2 := by decide +kernel
theorem d4_115 : own_d4 115 (.lload_n 0) 1 := by decide +kernel
theorem d4_116 : own_d4 116 (.bipush 12) 2 := by decide +kernel
theorem d4_118 : own_d4 118 (.invokestatic 11) 3 := by decide +kernel
theorem d4_121 : own_d4 121 .castore 1 := by decide +kernel
theorem d4_122 : own_d4 122 .dup 1 := by decide +kernel
theorem d4_123 : own_d4 123 (.bipush 13) 2 := by decide +kernel
theorem d4_125 : own_d4 125 (.lload_n 0) 1 := by decide +kernel
theorem d4_126 : own_d4 126 (.bipush 13) 2 := by decide +kernel
theorem d4_128 : own_d4 128 (.invokestatic 11) 3 := by decide +kernel
theorem d4_131 : own_d4 131 .castore 1 := by decide +kernel
theorem d4_132 : own_d4 132 .dup 1 := by decide +kernel
theorem d4_133 : own_d4 133 (.bipush 14) 2 := by decide +kernel
theorem d4_135 : own_d4 135 (.lload_n 0) 1 := by decide +kernel
theorem d4_136 : own_d4 136 (.bipush 14) 2 := by decide +kernel
theorem d4_138 : own_d4 138 (.invokestatic 11) 3 := by decide +kernel
theorem d4_141 : own_d4 141 .castore 1 := by decide +kernel
theorem d4_142 : own_d4 142 .dup 1 := by decide +kernel
theorem d4_143 : own_d4 143 (.bipush 15) 2 := by decide +kernel
theorem d4_145 : own_d4 145 (.lload_n 0) 1 := by decide +kernel
theorem d4_146 : own_d4 146 (.bipush 15) 2 := by decide +kernel
theorem d4_148 : own_d4 148 (.invokestatic 11) 3 := by decide +kernel
theorem d4_151 : own_d4 151 .castore 1 := by decide +kernel
theorem d4_152 : own_d4 152 .dup 1 := by decide +kernel
theorem d4_153 : own_d4 153 (.bipush 16) 2 := by decide +kernel
theorem d4_155 : own_d4 155 (.lload_n 0) 1 := by decide +kernel
theorem d4_156 : own_d4 156 (.bipush 16) 2 := by decide +kernel
theorem d4_158 : own_d4 158 (.invokestatic 11) 3 := by decide +kernel
theorem d4_161 : own_d4 161 .castore 1 := by decide +kernel
theorem d4_162 : own_d4 162 .dup 1 := by decide +kernel
theorem d4_163 : own_d4 163 (.bipush 17) 2 := by decide +kernel
theorem d4_165 : own_d4 165 (.lload_n 0) 1 := by decide +kernel
theorem d4_166 : own_d4 166 (.bipush 17) 2 := by decide +kernel
theorem d4_168 : own_d4 168 (.invokestatic 11) 3 := by decide +kernel
theorem d4_171 : own_d4 171 .castore 1 := by decide +kernel
theorem d4_172 : own_d4 172 .dup 1 := by decide +kernel
theorem d4_173 : own_d4 173 (.bipush 18) 2 := by decide +kernel
theorem d4_175 : own_d4 175 (.lload_n 0) 1 := by decide +kernel
theorem d4_176 : own_d4 176 (.bipush 18) 2 := by decide +kernel
theorem d4_178 : own_d4 178 (.invokestatic 11) 3 := by decide +kernel
theorem d4_181 : own_d4 181 .castore 1 := by decide +kernel
theorem d4_182 : own_d4 182 .dup 1 := by decide +kernel
theorem d4_183 : own_d4 183 (.bipush 19) 2 := by decide +kernel
theorem d4_185 : own_d4 185 (.lload_n 0) 1 := by decide +kernel
theorem d4_186 : own_d4 186 (.bipush 19) 2 := by decide +kernel
theorem d4_188 : own_d4 188 (.invokestatic 11) 3 := by decide +kernel
theorem d4_191 : own_d4 191 .castore 1 := by decide +kernel
theorem d4_192 : own_d4 192 .dup 1 := by decide +kernel
theorem d4_193 : own_d4 193 (.bipush 20) 2 := by decide +kernel
theorem d4_195 : own_d4 195 (.lload_n 0) 1 := by decide +kernel
theorem d4_196 : own_d4 196 (.bipush 20) 2 := by decide +kernel
theorem d4_198 : own_d4 198 (.invokestatic 11) 3 := by decide +kernel
theorem d4_201 : own_d4 201 .castore 1 := by decide +kernel
theorem d4_202 : own_d4 202 .dup 1 := by decide +kernel
theorem d4_203 : own_d4 203 (.bipush 21) 2 := by decide +kernel
theorem d4_205 : own_d4 205 (.lload_n 0) 1 := by decide +kernel
theorem d4_206 : own_d4 206 (.bipush 21) 2 := by decide +kernel
theorem d4_208 : own_d4 208 (.invokestatic 11) 3 := by decide +kernel
theorem d4_211 : own_d4 211 .castore 1 := by decide +kernel
theorem d4_212 : own_d4 212 .dup 1 := by decide +kernel
theorem d4_213 : own_d4 213 (.bipush 22) 2 := by decide +kernel
theorem d4_215 : own_d4 215 (.lload_n 0) 1 := by decide +kernel
theorem d4_216 : own_d4 216 (.bipush 22) 2 := by decide +kernel
theorem d4_218 : own_d4 218 (.invokestatic 11) 3 := by decide +kernel
theorem d4_221 : own_d4 221 .castore 1 := by decide +kernel
theorem d4_222 : own_d4 222 .dup 1 := by decide +kernel
theorem d4_223 : own_d4 223 (.bipush 23) 2 := by decide +kernel
theorem d4_225 : own_d4 225 (.lload_n 0) 1 := by decide +kernel
theorem d4_226 : own_d4 226 (.bipush 23) 2 := by decide +kernel
theorem d4_228 : own_d4 228 (.invokestatic 11) 3 := by decide +kernel
theorem d4_231 : own_d4 231 .castore 1 := by decide +kernel
theorem d4_232 : own_d4 232 (.astore_n 3) 1 := by decide +kernel
theorem d4_233 : own_d4 233 (.aload_n 3) 1 := by decide +kernel
theorem d4_234 : own_d4 234 (.iload_n 2) 1 := by decide +kernel
theorem d4_235 : own_d4 235 (.bipush 31) 2 := by decide +kernel
theorem d4_237 : own_d4 237 .iand 1 := by decide +kernel
theorem d4_238 : own_d4 238 (.bipush 24) 2 := by decide +kernel
theorem d4_240 : own_d4 240 .irem 1 := by decide +kernel
theorem d4_241 : own_d4 241 (.iload_n 2) 1 := by decide +kernel
theorem d4_242 : own_d4 242 (.iconst 5) 1 := by decide +kernel
theorem d4_243 : own_d4 243 .iushr 1 := by decide +kernel
theorem d4_244 : own_d4 244 (.invokestatic 17) 3 := by decide +kernel
theorem d4_247 : own_d4 247 .castore 1 := by decide +kernel
theorem d4_248 : own_d4 248 (.aload_n 3) 1 := by decide +kernel
theorem d4_249 : own_d4 249 (.iload_n 2) 1 := by decide +kernel
theorem d4_250 : own_d4 250 (.bipush 16) 2 := by decide +kernel
theorem d4_252 : own_d4 252 .iushr 1 := by decide +kernel
theorem d4_253 : own_d4 253 (.bipush 31) 2 := by decide +kernel
theorem d4_255 : own_d4 255 .iand 1 := by decide +kernel
theorem d4_256 : own_d4 256 (.bipush 24) 2 := by decide +kernel
theorem d4_258 : own_d4 258 .irem 1 := by decide +kernel
theorem d4_259 : own_d4 259 (.iload_n 2) 1 := by decide +kernel
theorem d4_260 : own_d4 260 (.bipush 21) 2 := by decide +kernel
theorem d4_262 : own_d4 262 .iushr 1 := by decide +kernel
theorem d4_263 : own_d4 263 (.invokestatic 17) 3 := by decide +kernel
theorem d4_266 : own_d4 266 .castore 1 := by decide +kernel
theorem d4_267 : own_d4 267 (.aload_n 3) 1 := by decide +kernel
theorem d4_268 : own_d4 268 .areturn 1 := by decide +kernel
def Q4 (Z : State) (q0 : Int64) (p1 : Int32) (h0 : Heap) (n0 : Nat) (v : Option Value) (h : Heap) (L : List Loc) : Prop := ∃ (r : Addr) (k : ClassId), v = some (.ref r) ∧ Fr n0 L ∧ Keep h0 h [] ∧ n0 ≤ r ∧ h0.size ≤ r ∧ Arv Z h r k .char (24 : Int32) ((own_suffix q0 p1).map Value.int) (.int (0 : Int32))
set_option maxRecDepth 65536 in
set_option maxHeartbeats 40000000 in
theorem rm4 (l : Launch) (Z : State) (ag : Array Value) (hw : ∀ d ∈ tables_1, d.before ag Z = true) (ws : List Jvm.Cond) (q0 : Int64) (p1 : Int32) (h0 : Heap) (n0 : Nat) (Z0 : n0 ≤ h0.size) :
    MetFree l (⟨"com/example/needle_in_json/needleinjson/MaskedDigitsResumeAfterStringPinLaw", "suffix", "(JI)[C"⟩ : MethodName) (head1 (Jvm.Cond.code (⟨"com/example/needle_in_json/needleinjson/MaskedDigitsResumeAfterStringPinLaw", "suffix", "(JI)[C"⟩ : MethodName) method_5_code 4 (some (.array .char)) :: ws) ({ frames := 1, cells := 1, slots := 24, locals := 17 } : Room)) (fun a U => a = #[(.long q0), (.int p1)] ∧ Z.Warmed39 U.vm ∧ U.heap = h0) (fun _ _ _ _ _ => True) (fun _ U o U' => ∃ v L, o = .returned v ∧ Q4 Z q0 p1 h0 n0 v U'.heap L ∧ FrameEnd U o U' L ({ frames := 1, cells := 1, slots := 24, locals := 17 } : Room).cells ({ frames := 1, cells := 1, slots := 24, locals := 17 } : Room).slots) := by
  refine MetFree.of_bodySF (plainFor_of_name pn_1) hisR ?_
  intro p e s m args below meth c s₁ Bd hml0 hP hK
  obtain ⟨rfl, hZ, hh⟩ := hP
  have hx := Bd.exec
  have hby := Bd.bytes
  have hml : c.maxLocals = 4 := hml0
  have hown : s.vm.findClass "com/example/needle_in_json/needleinjson/MaskedDigitsResumeAfterStringPinLaw" = some m.cls := findClass_of_methodNamed Bd.named
  have hnm := (name_of_methodNamed Bd.named Bd.method).1
  have X0 : Stand p l e ({ frames := 1, cells := 1, slots := 24, locals := 17 } : Room) s m #[(.long q0), (.int p1)] below meth c s₁ [] 0 0 := Stand.of_body Bd
  have e0 : s₁.heap = h0 := by rw [← hh, Bd.state]; rfl
  have N0 := Fr.nil n0
  have pre0 : ∀ t, Steps p.tables e below (s₁.setTop (mkF m 0 #[.val (.long q0), .second, .val (.int p1), .unset] [])) t → Steps p.tables e below (s₁.setTop (entryFrame m #[(.long q0), (.int p1)] 4)) t := fun t k => castTop (ef_4 m q0 p1) k
  obtain ⟨T1318, h1318, k1318, X1318, e1318, E1318, A1318, st1318⟩ := newP X0 hx hZ (own_wk hw 4 rfl) e0 (g := (mkF m 2 #[.val (.long q0), .second, .val (.int p1), .unset] [.int 24])) rfl (hb hby d4_2) rfl (by decide) (cap := 24) (by decide) (by decide) (by decide) (by decide)
  obtain ⟨b1318, g1318⟩ : ∃ z, z = h0.size := ⟨_, rfl⟩
  have ge_b1318 : n0 ≤ b1318 := Nat.le_trans Z0 (Nat.le_of_eq g1318.symm)
  have gs_b1318 : h0.size ≤ b1318 := Nat.le_trans (Keep.refl h0 []).1 (Nat.le_of_eq g1318.symm)
  rw [← g1318] at A1318 st1318
  have sz1319 : n0 ≤ h1318.size := Nat.le_trans Z0 E1318.1
  have kp1320 : Keep h0 h1318 [] := (Keep.refl h0 []).ext E1318
  have V1318 : Arv Z h1318 b1318 k1318 .char (24 : Int32) (own_pl 24 (own_pf q0) 0) (.int (0 : Int32)) := (Arv.new A1318 (by decide)).pad (own_pad0 24)
  have HF0 : own_FS p l e ({ frames := 1, cells := 1, slots := 24, locals := 17 } : Room) s m #[(.long q0), (.int p1)] below meth c Z h0 n0 (24 : Int32) b1318 k1318 24 T1318 (own_pl 24 (own_pf q0) 0) := ⟨_, _, X1318, e1318, sz1319, N0, kp1320, V1318⟩
  obtain ⟨T1321, HF1321, st1321⟩ := own_fill24 l Z ag hw hx hZ hown hml ge_b1318 gs_b1318 HF0 (j := 0) (pc0 := 8) (i := (0 : Int32)) (Ls := #[.val (.long q0), .second, .val (.int p1), .unset]) (by rw [hml]; rfl) (hb hby d4_8) (hb hby d4_11) rfl ⟨by decide, by decide⟩ rfl (by decide)
  obtain ⟨h1321, L1321, X1321, e1321, sz1321, N1321, kp1321, V1321⟩ := id HF1321
  obtain ⟨T1322, HF1322, st1322⟩ := own_fill24 l Z ag hw hx hZ hown hml ge_b1318 gs_b1318 HF1321 (j := 1) (pc0 := 16) (i := (1 : Int32)) (Ls := #[.val (.long q0), .second, .val (.int p1), .unset]) (by rw [hml]; rfl) (hb hby d4_16) (hb hby d4_19) rfl ⟨by decide, by decide⟩ rfl (by decide)
  obtain ⟨h1322, L1322, X1322, e1322, sz1322, N1322, kp1322, V1322⟩ := id HF1322
  obtain ⟨T1323, HF1323, st1323⟩ := own_fill24 l Z ag hw hx hZ hown hml ge_b1318 gs_b1318 HF1322 (j := 2) (pc0 := 24) (i := (2 : Int32)) (Ls := #[.val (.long q0), .second, .val (.int p1), .unset]) (by rw [hml]; rfl) (hb hby d4_24) (hb hby d4_27) rfl ⟨by decide, by decide⟩ rfl (by decide)
  obtain ⟨h1323, L1323, X1323, e1323, sz1323, N1323, kp1323, V1323⟩ := id HF1323
  have cp1324 : ∀ target, own_S p e below T1323 (mkF m 32 #[.val (.long q0), .second, .val (.int p1), .unset] [.int 3, (.long q0), .int 3, (.ref b1318), (.ref b1318)]) target → own_S p e below s₁ (mkF m 0 #[.val (.long q0), .second, .val (.int p1), .unset] []) target := by
    intro target kt
    show own_S p e below s₁ (mkF m 0 #[.val (.long q0), .second, .val (.int p1), .unset] []) _
    refine XS.bipush X0.here hx rfl (hb hby d4_0) (st1318 _ (XS.dup X1318.here hx rfl (hb hby d4_4) rfl rfl (XS.iconst X1318.here hx rfl (hb hby d4_5) (XS.lloadN X1318.here hx rfl (hb hby d4_6) rfl (XS.iconst X1318.here hx rfl (hb hby d4_7) (st1321 _ (XS.dup X1321.here hx rfl (hb hby d4_12) rfl rfl (XS.iconst X1321.here hx rfl (hb hby d4_13) (XS.lloadN X1321.here hx rfl (hb hby d4_14) rfl ?_)))))))))
    refine XS.iconst X1321.here hx rfl (hb hby d4_15) (st1322 _ (XS.dup X1322.here hx rfl (hb hby d4_20) rfl rfl (XS.iconst X1322.here hx rfl (hb hby d4_21) (XS.lloadN X1322.here hx rfl (hb hby d4_22) rfl (XS.iconst X1322.here hx rfl (hb hby d4_23) ?_)))))
    show own_S p e below T1322 (mkF m 24 #[.val (.long q0), .second, .val (.int p1), .unset] [.int 2, (.long q0), .int 2, (.ref b1318), (.ref b1318)]) _
    refine st1323 _ (XS.dup X1323.here hx rfl (hb hby d4_28) rfl rfl (XS.iconst X1323.here hx rfl (hb hby d4_29) (XS.lloadN X1323.here hx rfl (hb hby d4_30) rfl (XS.iconst X1323.here hx rfl (hb hby d4_31) ?_))))
    exact kt
  obtain ⟨T1325, HF1325, st1325⟩ := own_fill24 l Z ag hw hx hZ hown hml ge_b1318 gs_b1318 HF1323 (j := 3) (pc0 := 32) (i := (3 : Int32)) (Ls := #[.val (.long q0), .second, .val (.int p1), .unset]) (by rw [hml]; rfl) (hb hby d4_32) (hb hby d4_35) rfl ⟨by decide, by decide⟩ rfl (by decide)
  obtain ⟨h1325, L1325, X1325, e1325, sz1325, N1325, kp1325, V1325⟩ := id HF1325
  obtain ⟨T1326, HF1326, st1326⟩ := own_fill24 l Z ag hw hx hZ hown hml ge_b1318 gs_b1318 HF1325 (j := 4) (pc0 := 40) (i := (4 : Int32)) (Ls := #[.val (.long q0), .second, .val (.int p1), .unset]) (by rw [hml]; rfl) (hb hby d4_40) (hb hby d4_43) rfl ⟨by decide, by decide⟩ rfl (by decide)
  obtain ⟨h1326, L1326, X1326, e1326, sz1326, N1326, kp1326, V1326⟩ := id HF1326
  obtain ⟨T1327, HF1327, st1327⟩ := own_fill24 l Z ag hw hx hZ hown hml ge_b1318 gs_b1318 HF1326 (j := 5) (pc0 := 48) (i := (5 : Int32)) (Ls := #[.val (.long q0), .second, .val (.int p1), .unset]) (by rw [hml]; rfl) (hb hby d4_48) (hb hby d4_51) rfl ⟨by decide, by decide⟩ rfl (by decide)
  obtain ⟨h1327, L1327, X1327, e1327, sz1327, N1327, kp1327, V1327⟩ := id HF1327
  obtain ⟨T1328, HF1328, st1328⟩ := own_fill24 l Z ag hw hx hZ hown hml ge_b1318 gs_b1318 HF1327 (j := 6) (pc0 := 58) (i := (6 : Int32)) (Ls := #[.val (.long q0), .second, .val (.int p1), .unset]) (by rw [hml]; rfl) (hb hby d4_58) (hb hby d4_61) rfl ⟨by decide, by decide⟩ rfl (by decide)
  obtain ⟨h1328, L1328, X1328, e1328, sz1328, N1328, kp1328, V1328⟩ := id HF1328
  have cp1329 : ∀ target, own_S p e below T1328 (mkF m 68 #[.val (.long q0), .second, .val (.int p1), .unset] [.int 7, (.long q0), .int 7, (.ref b1318), (.ref b1318)]) target → own_S p e below s₁ (mkF m 0 #[.val (.long q0), .second, .val (.int p1), .unset] []) target := by
    intro target kt
    show own_S p e below s₁ (mkF m 0 #[.val (.long q0), .second, .val (.int p1), .unset] []) _
    refine cp1324 _ (st1325 _ (XS.dup X1325.here hx rfl (hb hby d4_36) rfl rfl (XS.iconst X1325.here hx rfl (hb hby d4_37) (XS.lloadN X1325.here hx rfl (hb hby d4_38) rfl (XS.iconst X1325.here hx rfl (hb hby d4_39) (st1326 _ (XS.dup X1326.here hx rfl (hb hby d4_44) rfl rfl (XS.iconst X1326.here hx rfl (hb hby d4_45) (XS.lloadN X1326.here hx rfl (hb hby d4_46) rfl ?_)))))))))
    refine XS.iconst X1326.here hx rfl (hb hby d4_47) (st1327 _ (XS.dup X1327.here hx rfl (hb hby d4_52) rfl rfl (XS.bipush X1327.here hx rfl (hb hby d4_53) (XS.lloadN X1327.here hx rfl (hb hby d4_55) rfl (XS.bipush X1327.here hx rfl (hb hby d4_56) ?_)))))
    show own_S p e below T1327 (mkF m 58 #[.val (.long q0), .second, .val (.int p1), .unset] [.int 6, (.long q0), .int 6, (.ref b1318), (.ref b1318)]) _
    refine st1328 _ (XS.dup X1328.here hx rfl (hb hby d4_62) rfl rfl (XS.bipush X1328.here hx rfl (hb hby d4_63) (XS.lloadN X1328.here hx rfl (hb hby d4_65) rfl (XS.bipush X1328.here hx rfl (hb hby d4_66) ?_))))
    exact kt
  obtain ⟨T1330, HF1330, st1330⟩ := own_fill24 l Z ag hw hx hZ hown hml ge_b1318 gs_b1318 HF1328 (j := 7) (pc0 := 68) (i := (7 : Int32)) (Ls := #[.val (.long q0), .second, .val (.int p1), .unset]) (by rw [hml]; rfl) (hb hby d4_68) (hb hby d4_71) rfl ⟨by decide, by decide⟩ rfl (by decide)
  obtain ⟨h1330, L1330, X1330, e1330, sz1330, N1330, kp1330, V1330⟩ := id HF1330
  obtain ⟨T1331, HF1331, st1331⟩ := own_fill24 l Z ag hw hx hZ hown hml ge_b1318 gs_b1318 HF1330 (j := 8) (pc0 := 78) (i := (8 : Int32)) (Ls := #[.val (.long q0), .second, .val (.int p1), .unset]) (by rw [hml]; rfl) (hb hby d4_78) (hb hby d4_81) rfl ⟨by decide, by decide⟩ rfl (by decide)
  obtain ⟨h1331, L1331, X1331, e1331, sz1331, N1331, kp1331, V1331⟩ := id HF1331
  obtain ⟨T1332, HF1332, st1332⟩ := own_fill24 l Z ag hw hx hZ hown hml ge_b1318 gs_b1318 HF1331 (j := 9) (pc0 := 88) (i := (9 : Int32)) (Ls := #[.val (.long q0), .second, .val (.int p1), .unset]) (by rw [hml]; rfl) (hb hby d4_88) (hb hby d4_91) rfl ⟨by decide, by decide⟩ rfl (by decide)
  obtain ⟨h1332, L1332, X1332, e1332, sz1332, N1332, kp1332, V1332⟩ := id HF1332
  obtain ⟨T1333, HF1333, st1333⟩ := own_fill24 l Z ag hw hx hZ hown hml ge_b1318 gs_b1318 HF1332 (j := 10) (pc0 := 98) (i := (10 : Int32)) (Ls := #[.val (.long q0), .second, .val (.int p1), .unset]) (by rw [hml]; rfl) (hb hby d4_98) (hb hby d4_101) rfl ⟨by decide, by decide⟩ rfl (by decide)
  obtain ⟨h1333, L1333, X1333, e1333, sz1333, N1333, kp1333, V1333⟩ := id HF1333
  have cp1334 : ∀ target, own_S p e below T1333 (mkF m 108 #[.val (.long q0), .second, .val (.int p1), .unset] [.int 11, (.long q0), .int 11, (.ref b1318), (.ref b1318)]) target → own_S p e below s₁ (mkF m 0 #[.val (.long q0), .second, .val (.int p1), .unset] []) target := by
    intro target kt
    show own_S p e below s₁ (mkF m 0 #[.val (.long q0), .second, .val (.int p1), .unset] []) _
    refine cp1329 _ (st1330 _ (XS.dup X1330.here hx rfl (hb hby d4_72) rfl rfl (XS.bipush X1330.here hx rfl (hb hby d4_73) (XS.lloadN X1330.here hx rfl (hb hby d4_75) rfl (XS.bipush X1330.here hx rfl (hb hby d4_76) (st1331 _ (XS.dup X1331.here hx rfl (hb hby d4_82) rfl rfl (XS.bipush X1331.here hx rfl (hb hby d4_83) (XS.lloadN X1331.here hx rfl (hb hby d4_85) rfl ?_)))))))))
    refine XS.bipush X1331.here hx rfl (hb hby d4_86) (st1332 _ (XS.dup X1332.here hx rfl (hb hby d4_92) rfl rfl (XS.bipush X1332.here hx rfl (hb hby d4_93) (XS.lloadN X1332.here hx rfl (hb hby d4_95) rfl (XS.bipush X1332.here hx rfl (hb hby d4_96) ?_)))))
    show own_S p e below T1332 (mkF m 98 #[.val (.long q0), .second, .val (.int p1), .unset] [.int 10, (.long q0), .int 10, (.ref b1318), (.ref b1318)]) _
    refine st1333 _ (XS.dup X1333.here hx rfl (hb hby d4_102) rfl rfl (XS.bipush X1333.here hx rfl (hb hby d4_103) (XS.lloadN X1333.here hx rfl (hb hby d4_105) rfl (XS.bipush X1333.here hx rfl (hb hby d4_106) ?_))))
    exact kt
  obtain ⟨T1335, HF1335, st1335⟩ := own_fill24 l Z ag hw hx hZ hown hml ge_b1318 gs_b1318 HF1333 (j := 11) (pc0 := 108) (i := (11 : Int32)) (Ls := #[.val (.long q0), .second, .val (.int p1), .unset]) (by rw [hml]; rfl) (hb hby d4_108) (hb hby d4_111) rfl ⟨by decide, by decide⟩ rfl (by decide)
  obtain ⟨h1335, L1335, X1335, e1335, sz1335, N1335, kp1335, V1335⟩ := id HF1335
  obtain ⟨T1336, HF1336, st1336⟩ := own_fill24 l Z ag hw hx hZ hown hml ge_b1318 gs_b1318 HF1335 (j := 12) (pc0 := 118) (i := (12 : Int32)) (Ls := #[.val (.long q0), .second, .val (.int p1), .unset]) (by rw [hml]; rfl) (hb hby d4_118) (hb hby d4_121) rfl ⟨by decide, by decide⟩ rfl (by decide)
  obtain ⟨h1336, L1336, X1336, e1336, sz1336, N1336, kp1336, V1336⟩ := id HF1336
  obtain ⟨T1337, HF1337, st1337⟩ := own_fill24 l Z ag hw hx hZ hown hml ge_b1318 gs_b1318 HF1336 (j := 13) (pc0 := 128) (i := (13 : Int32)) (Ls := #[.val (.long q0), .second, .val (.int p1), .unset]) (by rw [hml]; rfl) (hb hby d4_128) (hb hby d4_131) rfl ⟨by decide, by decide⟩ rfl (by decide)
  obtain ⟨h1337, L1337, X1337, e1337, sz1337, N1337, kp1337, V1337⟩ := id HF1337
  obtain ⟨T1338, HF1338, st1338⟩ := own_fill24 l Z ag hw hx hZ hown hml ge_b1318 gs_b1318 HF1337 (j := 14) (pc0 := 138) (i := (14 : Int32)) (Ls := #[.val (.long q0), .second, .val (.int p1), .unset]) (by rw [hml]; rfl) (hb hby d4_138) (hb hby d4_141) rfl ⟨by decide, by decide⟩ rfl (by decide)
  obtain ⟨h1338, L1338, X1338, e1338, sz1338, N1338, kp1338, V1338⟩ := id HF1338
  have cp1339 : ∀ target, own_S p e below T1338 (mkF m 148 #[.val (.long q0), .second, .val (.int p1), .unset] [.int 15, (.long q0), .int 15, (.ref b1318), (.ref b1318)]) target → own_S p e below s₁ (mkF m 0 #[.val (.long q0), .second, .val (.int p1), .unset] []) target := by
    intro target kt
    show own_S p e below s₁ (mkF m 0 #[.val (.long q0), .second, .val (.int p1), .unset] []) _
    refine cp1334 _ (st1335 _ (XS.dup X1335.here hx rfl (hb hby d4_112) rfl rfl (XS.bipush X1335.here hx rfl (hb hby d4_113) (XS.lloadN X1335.here hx rfl (hb hby d4_115) rfl (XS.bipush X1335.here hx rfl (hb hby d4_116) (st1336 _ (XS.dup X1336.here hx rfl (hb hby d4_122) rfl rfl (XS.bipush X1336.here hx rfl (hb hby d4_123) (XS.lloadN X1336.here hx rfl (hb hby d4_125) rfl ?_)))))))))
    refine XS.bipush X1336.here hx rfl (hb hby d4_126) (st1337 _ (XS.dup X1337.here hx rfl (hb hby d4_132) rfl rfl (XS.bipush X1337.here hx rfl (hb hby d4_133) (XS.lloadN X1337.here hx rfl (hb hby d4_135) rfl (XS.bipush X1337.here hx rfl (hb hby d4_136) ?_)))))
    show own_S p e below T1337 (mkF m 138 #[.val (.long q0), .second, .val (.int p1), .unset] [.int 14, (.long q0), .int 14, (.ref b1318), (.ref b1318)]) _
    refine st1338 _ (XS.dup X1338.here hx rfl (hb hby d4_142) rfl rfl (XS.bipush X1338.here hx rfl (hb hby d4_143) (XS.lloadN X1338.here hx rfl (hb hby d4_145) rfl (XS.bipush X1338.here hx rfl (hb hby d4_146) ?_))))
    exact kt
  obtain ⟨T1340, HF1340, st1340⟩ := own_fill24 l Z ag hw hx hZ hown hml ge_b1318 gs_b1318 HF1338 (j := 15) (pc0 := 148) (i := (15 : Int32)) (Ls := #[.val (.long q0), .second, .val (.int p1), .unset]) (by rw [hml]; rfl) (hb hby d4_148) (hb hby d4_151) rfl ⟨by decide, by decide⟩ rfl (by decide)
  obtain ⟨h1340, L1340, X1340, e1340, sz1340, N1340, kp1340, V1340⟩ := id HF1340
  obtain ⟨T1341, HF1341, st1341⟩ := own_fill24 l Z ag hw hx hZ hown hml ge_b1318 gs_b1318 HF1340 (j := 16) (pc0 := 158) (i := (16 : Int32)) (Ls := #[.val (.long q0), .second, .val (.int p1), .unset]) (by rw [hml]; rfl) (hb hby d4_158) (hb hby d4_161) rfl ⟨by decide, by decide⟩ rfl (by decide)
  obtain ⟨h1341, L1341, X1341, e1341, sz1341, N1341, kp1341, V1341⟩ := id HF1341
  obtain ⟨T1342, HF1342, st1342⟩ := own_fill24 l Z ag hw hx hZ hown hml ge_b1318 gs_b1318 HF1341 (j := 17) (pc0 := 168) (i := (17 : Int32)) (Ls := #[.val (.long q0), .second, .val (.int p1), .unset]) (by rw [hml]; rfl) (hb hby d4_168) (hb hby d4_171) rfl ⟨by decide, by decide⟩ rfl (by decide)
  obtain ⟨h1342, L1342, X1342, e1342, sz1342, N1342, kp1342, V1342⟩ := id HF1342
  obtain ⟨T1343, HF1343, st1343⟩ := own_fill24 l Z ag hw hx hZ hown hml ge_b1318 gs_b1318 HF1342 (j := 18) (pc0 := 178) (i := (18 : Int32)) (Ls := #[.val (.long q0), .second, .val (.int p1), .unset]) (by rw [hml]; rfl) (hb hby d4_178) (hb hby d4_181) rfl ⟨by decide, by decide⟩ rfl (by decide)
  obtain ⟨h1343, L1343, X1343, e1343, sz1343, N1343, kp1343, V1343⟩ := id HF1343
  have cp1344 : ∀ target, own_S p e below T1343 (mkF m 188 #[.val (.long q0), .second, .val (.int p1), .unset] [.int 19, (.long q0), .int 19, (.ref b1318), (.ref b1318)]) target → own_S p e below s₁ (mkF m 0 #[.val (.long q0), .second, .val (.int p1), .unset] []) target := by
    intro target kt
    show own_S p e below s₁ (mkF m 0 #[.val (.long q0), .second, .val (.int p1), .unset] []) _
    refine cp1339 _ (st1340 _ (XS.dup X1340.here hx rfl (hb hby d4_152) rfl rfl (XS.bipush X1340.here hx rfl (hb hby d4_153) (XS.lloadN X1340.here hx rfl (hb hby d4_155) rfl (XS.bipush X1340.here hx rfl (hb hby d4_156) (st1341 _ (XS.dup X1341.here hx rfl (hb hby d4_162) rfl rfl (XS.bipush X1341.here hx rfl (hb hby d4_163) (XS.lloadN X1341.here hx rfl (hb hby d4_165) rfl ?_)))))))))
    refine XS.bipush X1341.here hx rfl (hb hby d4_166) (st1342 _ (XS.dup X1342.here hx rfl (hb hby d4_172) rfl rfl (XS.bipush X1342.here hx rfl (hb hby d4_173) (XS.lloadN X1342.here hx rfl (hb hby d4_175) rfl (XS.bipush X1342.here hx rfl (hb hby d4_176) ?_)))))
    show own_S p e below T1342 (mkF m 178 #[.val (.long q0), .second, .val (.int p1), .unset] [.int 18, (.long q0), .int 18, (.ref b1318), (.ref b1318)]) _
    refine st1343 _ (XS.dup X1343.here hx rfl (hb hby d4_182) rfl rfl (XS.bipush X1343.here hx rfl (hb hby d4_183) (XS.lloadN X1343.here hx rfl (hb hby d4_185) rfl (XS.bipush X1343.here hx rfl (hb hby d4_186) ?_))))
    exact kt
  obtain ⟨T1345, HF1345, st1345⟩ := own_fill24 l Z ag hw hx hZ hown hml ge_b1318 gs_b1318 HF1343 (j := 19) (pc0 := 188) (i := (19 : Int32)) (Ls := #[.val (.long q0), .second, .val (.int p1), .unset]) (by rw [hml]; rfl) (hb hby d4_188) (hb hby d4_191) rfl ⟨by decide, by decide⟩ rfl (by decide)
  obtain ⟨h1345, L1345, X1345, e1345, sz1345, N1345, kp1345, V1345⟩ := id HF1345
  obtain ⟨T1346, HF1346, st1346⟩ := own_fill24 l Z ag hw hx hZ hown hml ge_b1318 gs_b1318 HF1345 (j := 20) (pc0 := 198) (i := (20 : Int32)) (Ls := #[.val (.long q0), .second, .val (.int p1), .unset]) (by rw [hml]; rfl) (hb hby d4_198) (hb hby d4_201) rfl ⟨by decide, by decide⟩ rfl (by decide)
  obtain ⟨h1346, L1346, X1346, e1346, sz1346, N1346, kp1346, V1346⟩ := id HF1346
  obtain ⟨T1347, HF1347, st1347⟩ := own_fill24 l Z ag hw hx hZ hown hml ge_b1318 gs_b1318 HF1346 (j := 21) (pc0 := 208) (i := (21 : Int32)) (Ls := #[.val (.long q0), .second, .val (.int p1), .unset]) (by rw [hml]; rfl) (hb hby d4_208) (hb hby d4_211) rfl ⟨by decide, by decide⟩ rfl (by decide)
  obtain ⟨h1347, L1347, X1347, e1347, sz1347, N1347, kp1347, V1347⟩ := id HF1347
  obtain ⟨T1348, HF1348, st1348⟩ := own_fill24 l Z ag hw hx hZ hown hml ge_b1318 gs_b1318 HF1347 (j := 22) (pc0 := 218) (i := (22 : Int32)) (Ls := #[.val (.long q0), .second, .val (.int p1), .unset]) (by rw [hml]; rfl) (hb hby d4_218) (hb hby d4_221) rfl ⟨by decide, by decide⟩ rfl (by decide)
  obtain ⟨h1348, L1348, X1348, e1348, sz1348, N1348, kp1348, V1348⟩ := id HF1348
  have cp1349 : ∀ target, own_S p e below T1348 (mkF m 228 #[.val (.long q0), .second, .val (.int p1), .unset] [.int 23, (.long q0), .int 23, (.ref b1318), (.ref b1318)]) target → own_S p e below s₁ (mkF m 0 #[.val (.long q0), .second, .val (.int p1), .unset] []) target := by
    intro target kt
    show own_S p e below s₁ (mkF m 0 #[.val (.long q0), .second, .val (.int p1), .unset] []) _
    refine cp1344 _ (st1345 _ (XS.dup X1345.here hx rfl (hb hby d4_192) rfl rfl (XS.bipush X1345.here hx rfl (hb hby d4_193) (XS.lloadN X1345.here hx rfl (hb hby d4_195) rfl (XS.bipush X1345.here hx rfl (hb hby d4_196) (st1346 _ (XS.dup X1346.here hx rfl (hb hby d4_202) rfl rfl (XS.bipush X1346.here hx rfl (hb hby d4_203) (XS.lloadN X1346.here hx rfl (hb hby d4_205) rfl ?_)))))))))
    refine XS.bipush X1346.here hx rfl (hb hby d4_206) (st1347 _ (XS.dup X1347.here hx rfl (hb hby d4_212) rfl rfl (XS.bipush X1347.here hx rfl (hb hby d4_213) (XS.lloadN X1347.here hx rfl (hb hby d4_215) rfl (XS.bipush X1347.here hx rfl (hb hby d4_216) ?_)))))
    show own_S p e below T1347 (mkF m 218 #[.val (.long q0), .second, .val (.int p1), .unset] [.int 22, (.long q0), .int 22, (.ref b1318), (.ref b1318)]) _
    refine st1348 _ (XS.dup X1348.here hx rfl (hb hby d4_222) rfl rfl (XS.bipush X1348.here hx rfl (hb hby d4_223) (XS.lloadN X1348.here hx rfl (hb hby d4_225) rfl (XS.bipush X1348.here hx rfl (hb hby d4_226) ?_))))
    exact kt
  obtain ⟨T1350, HF1350, st1350⟩ := own_fill24 l Z ag hw hx hZ hown hml ge_b1318 gs_b1318 HF1348 (j := 23) (pc0 := 228) (i := (23 : Int32)) (Ls := #[.val (.long q0), .second, .val (.int p1), .unset]) (by rw [hml]; rfl) (hb hby d4_228) (hb hby d4_231) rfl ⟨by decide, by decide⟩ rfl (by decide)
  obtain ⟨h1350, L1350, X1350, e1350, sz1350, N1350, kp1350, V1350⟩ := id HF1350
  obtain ⟨_, _, ⟨T1351, L1351, k1351, n1351⟩, -, X1351, ⟨Lc1351, hQ1351, l1351, y1351, z1351⟩, st1351⟩ := Jvm.LawKit.callS X1350 hx (y := (⟨"com/example/needle_in_json/needleinjson/MaskedDigitsResumeAfterStringPinLaw", "special", "(I)C"⟩ : MethodName)) hown (mvT hZ (own_wk hw 10 rfl)) (mvT hZ (own_wk hw 11 rfl)) (mvT hZ (own_wk hw 2 rfl)) (mvT hZ (own_wk hw 12 rfl)) (by decide) (backOf (W := 2) (rm3 l Z ag hw [] (own_ushr p1 (5 : Int32))  h1350 n0 sz1350 ) hZ (own_wk hw 12 rfl) (own_wk hw 2 rfl) (by decide) (by decide)) (g := (mkF m 244 #[.val (.long q0), .second, .val (.int p1), .val (.ref b1318)] [(.int (own_ushr p1 (5 : Int32))), (.int ((p1 &&& (31 : Int32)) % (24 : Int32))), (.ref b1318)])) rfl (by rw [hml]; rfl) (argsL := [(.int (own_ushr p1 (5 : Int32)))]) (rest := [(.int ((p1 &&& (31 : Int32)) % (24 : Int32))), (.ref b1318)]) (lenOf pd_7 rfl) rfl (by show 2 * 0 + _ ≤ _; exact Nat.le_of_eq rfl) (hb hby d4_244) (fun _ _ => ⟨rfl, e1350, (by decide : 1 + 0 ≤ _), (by decide : 24 + 0 ≤ _)⟩)
  dsimp only [Pt.U, Pt.locs, Pt.cells, Pt.slots] at X1351 l1351 y1351 z1351 st1351 hQ1351
  subst l1351 y1351 z1351
  obtain ⟨rfl, N1351q, e1351⟩ := hQ1351
  have N1351 := Fr.app N1350 N1351q
  obtain ⟨cl1352, Ar1352, q1352, S1352, M1352, H1352, G1352⟩ := id V1350
  have hin1352 : ¬ (((p1 &&& (31 : Int32)) % (24 : Int32)) < 0 ∨ cl1352.slots.size ≤ (((p1 &&& (31 : Int32)) % (24 : Int32))).toNatClampNeg) := inb_of S1352 (own_mi (own_and31 _).1 (by decide))
  obtain ⟨T1352, h1352, X1352, e1352, W1352, st1352⟩ := stC X1351 hx hZ e1351 Ar1352 (j := ((p1 &&& (31 : Int32)) % (24 : Int32))) hin1352 (g := (mkF m 247 #[.val (.long q0), .second, .val (.int p1), .val (.ref b1318)] [(.int (own_special (own_ushr p1 (5 : Int32)))), (.int ((p1 &&& (31 : Int32)) % (24 : Int32))), (.ref b1318)])) rfl rfl (hb hby d4_247)
  have V1352 : Arv Z h1352 b1318 k1318 .char (24 : Int32) ((own_pl 24 (own_pf q0) 24).set (((p1 &&& (31 : Int32)) % (24 : Int32))).toNatClampNeg (.int (nar .char (own_special (own_ushr p1 (5 : Int32)))))) (.int (0 : Int32)) := Arv.set Ar1352 q1352 S1352 M1352 H1352 G1352 (fits_nar_char _) W1352 (((p1 &&& (31 : Int32)) % (24 : Int32))).toNatClampNeg rfl (by rw [own_pl_len]; exact own_mk (own_and31 _).1 (by decide))
  have sz1353 : n0 ≤ h1352.size := Nat.le_trans sz1350 (Keep.of_wr W1352).1
  have kp1354 : Keep h0 h1352 [] := kp1350.wr W1352 (Or.inr gs_b1318)
  have N1352 := Fr.snoc X1352 N1351 ge_b1318
  have cp1355 : ∀ target, own_S p e below T1352 (mkF m 263 #[.val (.long q0), .second, .val (.int p1), .val (.ref b1318)] [(.int (own_ushr p1 (21 : Int32))), (.int (((own_ushr p1 (16 : Int32)) &&& (31 : Int32)) % (24 : Int32))), (.ref b1318)]) target → own_S p e below s₁ (mkF m 0 #[.val (.long q0), .second, .val (.int p1), .unset] []) target := by
    intro target kt
    show own_S p e below s₁ (mkF m 0 #[.val (.long q0), .second, .val (.int p1), .unset] []) _
    refine cp1349 _ (st1350 _ (XS.astoreN X1350.here hx rfl (hb hby d4_232) rfl rfl (l' := #[.val (.long q0), .second, .val (.int p1), .val (.ref b1318)]) rfl (XS.aloadN X1350.here hx rfl (hb hby d4_233) rfl rfl (XS.iloadN X1350.here hx rfl (hb hby d4_234) rfl (XS.bipush X1350.here hx rfl (hb hby d4_235) (XS.iand X1350.here hx rfl (hb hby d4_237) rfl (XS.bipush X1350.here hx rfl (hb hby d4_238) (iremM X1350 hx rfl (hb hby d4_240) rfl (by decide) (XS.iloadN X1350.here hx rfl (hb hby d4_241) rfl ?_)))))))))
    refine XS.iconst X1350.here hx rfl (hb hby d4_242) (XS.iushr X1350.here hx rfl (hb hby d4_243) rfl (st1351 _ (st1352 _ ?_)))
    show own_S p e below T1352 (mkF m 248 #[.val (.long q0), .second, .val (.int p1), .val (.ref b1318)] []) _
    refine XS.aloadN X1352.here hx rfl (hb hby d4_248) rfl rfl (XS.iloadN X1352.here hx rfl (hb hby d4_249) rfl (XS.bipush X1352.here hx rfl (hb hby d4_250) (XS.iushr X1352.here hx rfl (hb hby d4_252) rfl (XS.bipush X1352.here hx rfl (hb hby d4_253) (XS.iand X1352.here hx rfl (hb hby d4_255) rfl (XS.bipush X1352.here hx rfl (hb hby d4_256) (iremM X1352 hx rfl (hb hby d4_258) rfl (by decide) (XS.iloadN X1352.here hx rfl (hb hby d4_259) rfl (XS.bipush X1352.here hx rfl (hb hby d4_260) ?_)))))))))
    refine XS.iushr X1352.here hx rfl (hb hby d4_262) rfl ?_
    exact kt
  obtain ⟨_, _, ⟨T1356, L1356, k1356, n1356⟩, -, X1356, ⟨Lc1356, hQ1356, l1356, y1356, z1356⟩, st1356⟩ := Jvm.LawKit.callS X1352 hx (y := (⟨"com/example/needle_in_json/needleinjson/MaskedDigitsResumeAfterStringPinLaw", "special", "(I)C"⟩ : MethodName)) hown (mvT hZ (own_wk hw 10 rfl)) (mvT hZ (own_wk hw 11 rfl)) (mvT hZ (own_wk hw 2 rfl)) (mvT hZ (own_wk hw 12 rfl)) (by decide) (backOf (W := 2) (rm3 l Z ag hw [] (own_ushr p1 (21 : Int32))  h1352 n0 sz1353 ) hZ (own_wk hw 12 rfl) (own_wk hw 2 rfl) (by decide) (by decide)) (g := (mkF m 263 #[.val (.long q0), .second, .val (.int p1), .val (.ref b1318)] [(.int (own_ushr p1 (21 : Int32))), (.int (((own_ushr p1 (16 : Int32)) &&& (31 : Int32)) % (24 : Int32))), (.ref b1318)])) rfl (by rw [hml]; rfl) (argsL := [(.int (own_ushr p1 (21 : Int32)))]) (rest := [(.int (((own_ushr p1 (16 : Int32)) &&& (31 : Int32)) % (24 : Int32))), (.ref b1318)]) (lenOf pd_7 rfl) rfl (by show 2 * 0 + _ ≤ _; exact Nat.le_of_eq rfl) (hb hby d4_263) (fun _ _ => ⟨rfl, e1352, (by decide : 1 + 0 ≤ _), (by decide : 24 + 0 ≤ _)⟩)
  dsimp only [Pt.U, Pt.locs, Pt.cells, Pt.slots] at X1356 l1356 y1356 z1356 st1356 hQ1356
  subst l1356 y1356 z1356
  obtain ⟨rfl, N1356q, e1356⟩ := hQ1356
  have N1356 := Fr.app N1352 N1356q
  obtain ⟨cl1357, Ar1357, q1357, S1357, M1357, H1357, G1357⟩ := id V1352
  have hin1357 : ¬ ((((own_ushr p1 (16 : Int32)) &&& (31 : Int32)) % (24 : Int32)) < 0 ∨ cl1357.slots.size ≤ ((((own_ushr p1 (16 : Int32)) &&& (31 : Int32)) % (24 : Int32))).toNatClampNeg) := inb_of S1357 (own_mi (own_and31 _).1 (by decide))
  obtain ⟨T1357, h1357, X1357, e1357, W1357, st1357⟩ := stC X1356 hx hZ e1356 Ar1357 (j := (((own_ushr p1 (16 : Int32)) &&& (31 : Int32)) % (24 : Int32))) hin1357 (g := (mkF m 266 #[.val (.long q0), .second, .val (.int p1), .val (.ref b1318)] [(.int (own_special (own_ushr p1 (21 : Int32)))), (.int (((own_ushr p1 (16 : Int32)) &&& (31 : Int32)) % (24 : Int32))), (.ref b1318)])) rfl rfl (hb hby d4_266)
  have V1357 : Arv Z h1357 b1318 k1318 .char (24 : Int32) (((own_pl 24 (own_pf q0) 24).set (((p1 &&& (31 : Int32)) % (24 : Int32))).toNatClampNeg (.int (nar .char (own_special (own_ushr p1 (5 : Int32)))))).set ((((own_ushr p1 (16 : Int32)) &&& (31 : Int32)) % (24 : Int32))).toNatClampNeg (.int (nar .char (own_special (own_ushr p1 (21 : Int32)))))) (.int (0 : Int32)) := Arv.set Ar1357 q1357 S1357 M1357 H1357 G1357 (fits_nar_char _) W1357 ((((own_ushr p1 (16 : Int32)) &&& (31 : Int32)) % (24 : Int32))).toNatClampNeg rfl (by rw [List.length_set]; rw [own_pl_len]; exact own_mk (own_and31 _).1 (by decide))
  have sz1358 : n0 ≤ h1357.size := Nat.le_trans sz1353 (Keep.of_wr W1357).1
  have kp1359 : Keep h0 h1357 [] := kp1354.wr W1357 (Or.inr gs_b1318)
  have N1357 := Fr.snoc X1357 N1356 ge_b1318
  obtain ⟨fs, hr, hrun, hended, hW, hsame⟩ := X1357.leave (v := some (.ref b1318)) (fun h => by rw [Bd.returns] at h; cases h)
  refine ⟨_, _, pre0 _ ?_, hrun, hended, _, _, rfl, ?_, ⟨_, rfl⟩, hW, hsame.mono (by decide) (by decide)⟩
  · show own_S p e below s₁ (mkF m 0 #[.val (.long q0), .second, .val (.int p1), .unset] []) _
    refine cp1355 _ (st1356 _ (st1357 _ (XS.aloadN X1357.here hx rfl (hb hby d4_267) rfl rfl ?_)))
    show own_S p e below T1357 (mkF m 268 #[.val (.long q0), .second, .val (.int p1), .val (.ref b1318)] [(.ref b1318)]) _
    exact Jvm.RoadKit.retOut X1357 hx Bd.returns rfl (Or.inr (Or.inr (Or.inr (Or.inr ⟨rfl, rfl, rfl⟩)))) (hb hby d4_268) hr
  · show Q4 Z q0 p1 h0 n0 _ T1357.heap _
    rw [e1357]
    refine ⟨b1318, k1318, rfl, N1357, kp1359, ge_b1318, gs_b1318, ?_⟩
    rw [own_suffixm]
    exact V1357
theorem own_sim.body {d tt st : Int32} {σ τ : own_Sg} (h : own_sim d σ τ) : own_sim d (own_body tt st σ) (own_body tt st τ) := by
  unfold own_body
  rw [← h.2.2.2.2]
  exact own_sim.for 24 _ h
theorem own_sim.mask {d tt : Int32} : ∀ (f : Nat) (st : Int32) {σ τ : own_Sg}, own_sim d σ τ → own_sim d (own_mask tt f st σ) (own_mask tt f st τ)
  | 0, _, _, _, h => h
  | f + 1, st, σ, τ, h => by
    unfold own_mask
    rw [← h.1, ← h.2.1, ← h.2.2.2.2]
    by_cases a : st < tt
    · rw [if_pos a, if_pos a]
      by_cases b : (0 : Int32) < σ.1
      · rw [if_pos b, if_pos b]; exact own_sim.mask f _ h.take
      · rw [if_neg b, if_neg b]
        by_cases c : σ.2.1 < (0 : Int32)
        · rw [if_pos c, if_pos c]
          by_cases e : (st + (19 : Int32)) < tt
          · rw [if_pos e, if_pos e]
            by_cases g : own_ends σ.2.2.2.2.1 st (st + (19 : Int32)) = (0 : Int32)
            · rw [if_pos g, if_pos g]; exact own_sim.mask f _ h.body
            · rw [if_neg g, if_neg g]; exact own_sim.mask f _ h
          · rw [if_neg e, if_neg e]; exact own_sim.mask f _ h.body
        · rw [if_neg c, if_neg c]; exact own_sim.mask f _ h.take
    · rw [if_neg a, if_neg a]; exact h
/-- the chars are of 0 to 255 -/
def own_R (σ : own_Sg) : Prop := ∀ c ∈ σ.2.2.2.2.1, ¬ c < 0 ∧ ¬ (255 : Int32) < c
theorem own_R.count {i p3 : Int32} {σ : own_Sg} (h : own_R σ) : own_R (own_count i p3 σ) := by
  unfold own_count
  by_cases a : p3 = (0 : Int32)
  · rw [if_pos a]; exact h
  · rw [if_neg a]
    by_cases b : (19 : Int32) < σ.1 + (1 : Int32)
    · rw [if_pos b]
      intro c hc
      rcases List.mem_or_eq_of_mem_set (show c ∈ σ.2.2.2.2.1.set i.toNatClampNeg 57 from hc) with q | q
      · exact h c q
      · subst q; decide
    · rw [if_neg b]; exact h
theorem own_R.esc2 {i : Int32} {σ : own_Sg} (h : own_R σ) : own_R (own_esc2 i σ) := by
  unfold own_esc2
  by_cases a : σ.2.1 < (4 : Int32)
  · rw [if_pos a]; exact h
  · rw [if_neg a]; exact own_R.count (p3 := own_fl σ.2.2.1 (own_at σ.2.2.2.2.1 i)) h
theorem own_R.take {i : Int32} {σ : own_Sg} (h : own_R σ) : own_R (own_take i σ) := by
  have e2 := own_R.esc2 (i := i) h
  unfold own_take
  by_cases a : σ.2.1 < (0 : Int32)
  · rw [if_pos a]
    by_cases b : own_at σ.2.2.2.2.1 i = (92 : Int32)
    · rw [if_pos b]; exact h
    · rw [if_neg b]; exact h.count
  · rw [if_neg a]
    unfold own_esc
    by_cases b : σ.2.1 = (0 : Int32)
    · rw [if_pos b]
      by_cases c : own_at σ.2.2.2.2.1 i = (117 : Int32)
      · rw [if_pos c]; exact e2
      · rw [if_neg c]; exact h
    · rw [if_neg b]; exact e2
theorem own_R.for {lim : Int32} : ∀ (f : Nat) (i : Int32) {σ : own_Sg}, own_R σ → own_R (own_for lim f i σ)
  | 0, _, _, h => h
  | f + 1, i, σ, h => by
    unfold own_for
    by_cases a : i < lim
    · rw [if_pos a]; exact own_R.for f _ h.take
    · rw [if_neg a]; exact h
theorem own_R.mask {tt : Int32} : ∀ (f : Nat) (st : Int32) {σ : own_Sg}, own_R σ → own_R (own_mask tt f st σ)
  | 0, _, _, h => h
  | f + 1, st, σ, h => by
    have hb : own_R (own_body tt st σ) := own_R.for 24 _ h
    unfold own_mask
    by_cases a : st < tt
    · rw [if_pos a]
      by_cases b : (0 : Int32) < σ.1
      · rw [if_pos b]; exact own_R.mask f _ h.take
      · rw [if_neg b]
        by_cases c : σ.2.1 < (0 : Int32)
        · rw [if_pos c]
          by_cases e : (st + (19 : Int32)) < tt
          · rw [if_pos e]
            by_cases g : own_ends σ.2.2.2.2.1 st (st + (19 : Int32)) = (0 : Int32)
            · rw [if_pos g]; exact own_R.mask f _ hb
            · rw [if_neg g]; exact own_R.mask f _ h
          · rw [if_neg e]; exact own_R.mask f _ hb
        · rw [if_neg c]; exact own_R.mask f _ h.take
    · rw [if_neg a]; exact h
theorem own_d_rng (q0 : Int64) (p1 : Int32) : ¬ nar .char (own_d q0 p1) < 0 ∧ ¬ (255 : Int32) < nar .char (own_d q0 p1) := by
  have t : ∀ k : Fin 16, ¬ nar .char (nar .char (((48 : Int32) + (((Int64.ofNat k.val) - ((Int64.ofNat k.val) / (10 : Int64)) * (10 : Int64)).toInt32)).toUInt32.toUInt16.toUInt32.toInt32)) < 0 ∧ ¬ (255 : Int32) < nar .char (nar .char (((48 : Int32) + (((Int64.ofNat k.val) - ((Int64.ofNat k.val) / (10 : Int64)) * (10 : Int64)).toInt32)).toUInt32.toUInt16.toUInt32.toInt32)) := by decide +kernel
  unfold own_d
  generalize own_ushrL q0 p1 = x
  have h : (x &&& (15 : Int64)).toBitVec.toNat < 16 := by
    rw [Int64.toBitVec_and, BitVec.toNat_and]
    exact Nat.lt_succ_of_le Nat.and_le_right
  have e : (x &&& (15 : Int64)) = Int64.ofNat (x &&& (15 : Int64)).toBitVec.toNat := by
    apply Int64.toBitVec_inj.mp
    show _ = BitVec.ofNat 64 _
    rw [BitVec.ofNat_toNat]; simp
  rw [e]
  exact t ⟨_, h⟩
theorem own_special_rng (p0 : Int32) : ¬ nar .char (own_special p0) < 0 ∧ ¬ (255 : Int32) < nar .char (own_special p0) := by
  have t1 : ∀ k : Fin 256, ¬ nar .char (nar .char (((48 : Int32) + ((Int32.ofNat k.val) % (10 : Int32))).toUInt32.toUInt16.toUInt32.toInt32)) < 0 ∧ ¬ (255 : Int32) < nar .char (nar .char (((48 : Int32) + ((Int32.ofNat k.val) % (10 : Int32))).toUInt32.toUInt16.toUInt32.toInt32)) := by decide +kernel
  have t2 : ∀ k : Fin 256, ¬ nar .char (nar .char ((Int32.ofNat k.val).toUInt32.toUInt16.toUInt32.toInt32)) < 0 ∧ ¬ (255 : Int32) < nar .char (nar .char ((Int32.ofNat k.val).toUInt32.toUInt16.toUInt32.toInt32)) := by decide +kernel
  unfold own_special
  generalize own_ushr p0 (3 : Int32) = x
  have h : (x &&& (255 : Int32)).toBitVec.toNat < 256 := by
    rw [Int32.toBitVec_and, BitVec.toNat_and]
    exact Nat.lt_succ_of_le Nat.and_le_right
  have e : (x &&& (255 : Int32)) = Int32.ofNat (x &&& (255 : Int32)).toBitVec.toNat := by
    apply Int32.toBitVec_inj.mp
    show _ = BitVec.ofNat 32 _
    rw [BitVec.ofNat_toNat]; simp
  rw [e]
  generalize p0 &&& (7 : Int32) = y
  by_cases a0 : y = (0 : Int32)
  · rw [if_pos a0]; decide
  · rw [if_neg a0]
    by_cases a1 : y = (1 : Int32)
    · rw [if_pos a1]; decide
    · rw [if_neg a1]
      by_cases a2 : y = (2 : Int32)
      · rw [if_pos a2]; exact t1 ⟨_, h⟩
      · rw [if_neg a2]
        by_cases a3 : y = (3 : Int32)
        · rw [if_pos a3]; decide
        · rw [if_neg a3]
          by_cases a4 : y = (4 : Int32)
          · rw [if_pos a4]; decide
          · rw [if_neg a4]
            by_cases a5 : y = (5 : Int32)
            · rw [if_pos a5]; decide
            · rw [if_neg a5]
              by_cases a6 : y = (6 : Int32)
              · rw [if_pos a6]; decide
              · rw [if_neg a6]; exact t2 ⟨_, h⟩
theorem own_suffix_rng (q0 : Int64) (p1 : Int32) : ∀ c ∈ own_suffix q0 p1, ¬ c < 0 ∧ ¬ (255 : Int32) < c := by
  intro c hc
  unfold own_suffix at hc
  rcases List.mem_or_eq_of_mem_set hc with q | q
  · rcases List.mem_or_eq_of_mem_set q with q | q
    · obtain ⟨i, -, rfl⟩ := List.mem_map.mp q; exact own_d_rng q0 _
    · subst q; exact own_special_rng _
  · subst q; exact own_special_rng _
theorem own_prefix_len (q0 : Int64) (p1 : Int32) : (own_prefix q0 p1).length = 20 := by
  unfold own_prefix; rw [List.length_set, List.length_set, List.length_map, List.length_range]
theorem own_suffix_len (q0 : Int64) (p1 : Int32) : (own_suffix q0 p1).length = 24 := by
  unfold own_suffix; rw [List.length_set, List.length_set, List.length_map, List.length_range]
/-- a masker's state as it is at a string's start -/
abbrev own_g (c : Int32) (cs : List Int32) (lb : List Value) : own_Sg := ((0 : Int32), (-1 : Int32), (0 : Int32), c, cs, lb)
theorem own_J0 {N c : Int32} {c0 : Nat} {cs : List Int32} {lb : List Value} (hc : c.toInt = (c0 : Int)) (hl : cs.length = N.toNatClampNeg) (hb : lb.length = 16) : own_J N.toNatClampNeg c0 0 (own_g c cs lb) :=
  ⟨(by decide : 0 ≤ (0 : Int32).toInt), (by decide : (0 : Int32).toInt ≤ ((0 : Nat) : Int)), Int.le_of_eq hc.symm, Int.le_of_eq hc, hl, hb⟩
theorem own_J.b {n : Nat} {σ : own_Sg} (h : own_J n 0 24 σ) : 0 ≤ σ.2.2.2.1.toInt ∧ σ.2.2.2.1.toInt ≤ 5 := ⟨h.2.2.1, h.2.2.2.1⟩
theorem own_J.c8 {n : Nat} {σ : own_Sg} (h : own_J n 0 24 σ) : σ.2.2.2.1.toInt.toNat < 8 := by have := own_J.b h; omega
theorem own_sim0 {c : Int32} {cs : List Int32} {lb lb' : List Value} : own_sim c (own_g c cs lb) (own_g 0 cs lb') := ⟨rfl, rfl, rfl, (Int32.zero_add c).symm, rfl⟩
theorem own_fin {c1 c2 c3 : Int32} (h1 : 0 ≤ c1.toInt ∧ c1.toInt ≤ 5) (h3 : 0 ≤ c3.toInt ∧ c3.toInt ≤ 5) (e : c2 = c3 + c1) : (¬ own_holds c1 = (0 : Int32) → own_holds c2 = (1 : Int32)) ∧ (own_holds c1 = (0 : Int32) → ¬ own_holds c3 = (0 : Int32) → own_holds c2 = (1 : Int32)) ∧ (own_holds c1 = (0 : Int32) → own_holds c3 = (0 : Int32) → own_holds c2 = (0 : Int32)) := by
  have e2 : c2.toInt = c3.toInt + c1.toInt := by rw [e, Int32.toInt_add]; exact Int.bmod_eq_of_le (by omega) (by omega)
  clear e
  have k : ∀ c : Int32, (0 < c.toInt → own_holds c = 1) ∧ (¬ 0 < c.toInt → own_holds c = 0) := fun c => ⟨fun q => if_pos (by rw [Int32.lt_iff_toInt_lt]; exact q), fun q => if_neg (by rw [Int32.lt_iff_toInt_lt]; exact q)⟩
  refine ⟨fun q => (k c2).1 ?_, fun q r => (k c2).1 ?_, fun q r => (k c2).2 ?_⟩
  · have a : 0 < c1.toInt := Classical.byContradiction fun z => q ((k c1).2 z)
    omega
  · have a : 0 < c3.toInt := Classical.byContradiction fun z => r ((k c3).2 z)
    omega
  · have a : ¬ 0 < c1.toInt := fun z => by rw [(k c1).1 z] at q; exact absurd q (by decide)
    have b : ¬ 0 < c3.toInt := fun z => by rw [(k c3).1 z] at r; exact absurd r (by decide)
    omega
theorem own_andM (x : Int32) : 0 ≤ (x &&& (2147483647 : Int32)).toInt := by
  have h : (x &&& (2147483647 : Int32)).toBitVec.toNat ≤ 2147483647 := by
    rw [Int32.toBitVec_and, BitVec.toNat_and]; exact Nat.and_le_right
  have e : (x &&& (2147483647 : Int32)).toInt = ((x &&& (2147483647 : Int32)).toBitVec.toNat : Int) := by
    show (x &&& (2147483647 : Int32)).toBitVec.toInt = _
    exact BitVec.toInt_eq_toNat_of_lt (by omega)
  rw [e]; exact Int.natCast_nonneg _
theorem own_to_rg (t : Int32) : own_rg (0 : Int32) ((t &&& (2147483647 : Int32)) % (21 : Int32)) (20 : Int32) := by
  have h := own_andM t
  have z0 : (0 : Int32).toInt = 0 := rfl
  have z20 : (20 : Int32).toInt = 20 := rfl
  have z21 : (21 : Int32).toInt = 21 := rfl
  have e : ((t &&& (2147483647 : Int32)) % (21 : Int32)).toInt = (t &&& (2147483647 : Int32)).toInt % 21 := by rw [Int32.toInt_mod, Int.tmod_eq_emod_of_nonneg h, z21]
  unfold own_rg
  rw [e, z0, z20]
  clear e
  generalize (t &&& (2147483647 : Int32)).toInt = x at *
  omega
def own_G1 (q0 : Int64) (p1 p2 : Int32) : own_Sg := own_mask ((p2 &&& (2147483647 : Int32)) % (21 : Int32)) 24 (0 : Int32) (own_g (0 : Int32) (own_prefix q0 p1) (List.replicate 16 (.int (0 : Int32))))
def own_G2 (q0 : Int64) (p1 p2 : Int32) (q3 : Int64) (p4 : Int32) : own_Sg := own_mask (24 : Int32) 24 (0 : Int32) (own_g (own_G1 q0 p1 p2).2.2.2.1 (own_suffix q3 p4) (own_G1 q0 p1 p2).2.2.2.2.2)
def own_G3 (q3 : Int64) (p4 : Int32) : own_Sg := own_mask (24 : Int32) 24 (0 : Int32) (own_g (0 : Int32) (own_suffix q3 p4) (List.replicate 16 (.int (0 : Int32))))
theorem own_simG (q0 : Int64) (p1 p2 : Int32) (q3 : Int64) (p4 : Int32) : own_sim (own_G1 q0 p1 p2).2.2.2.1 (own_G2 q0 p1 p2 q3 p4) (own_G3 q3 p4) := by
  unfold own_G2 own_G3
  generalize own_G1 q0 p1 p2 = g
  exact own_sim.mask 24 (0 : Int32) (own_sim0 (c := g.2.2.2.1))
theorem own_R3 (q3 : Int64) (p4 : Int32) : own_R (own_G3 q3 p4) := by
  unfold own_G3
  exact own_R.mask 24 (0 : Int32) (show own_R (own_g (0 : Int32) (own_suffix q3 p4) (List.replicate 16 (.int (0 : Int32)))) from own_suffix_rng q3 p4)
theorem own_R.mem {σ : own_Sg} (h : own_R σ) {cs : List Int32} (e : cs = σ.2.2.2.2.1) : ∀ c ∈ cs, ¬ c < 0 ∧ ¬ (255 : Int32) < c := by subst e; exact h
theorem own_sim.chars {d : Int32} {σ τ : own_Sg} (h : own_sim d σ τ) : σ.2.2.2.2.1 = τ.2.2.2.2.1 := h.2.2.2.2
theorem own_J.len {n : Int32} {c0 k : Nat} {σ : own_Sg} (h : own_J n.toNatClampNeg c0 k σ) (hn : n.toNatClampNeg = 24) : σ.2.2.2.2.1.length = 24 := h.2.2.2.2.1.trans hn
theorem own_fin3 {n1 n3 : Nat} {σ1 σ2 σ3 : own_Sg} (h1 : own_J n1 0 24 σ1) (h3 : own_J n3 0 24 σ3) (h : own_sim σ1.2.2.2.1 σ2 σ3) : (¬ own_holds σ1.2.2.2.1 = (0 : Int32) → own_holds σ2.2.2.2.1 = (1 : Int32)) ∧ (own_holds σ1.2.2.2.1 = (0 : Int32) → ¬ own_holds σ3.2.2.2.1 = (0 : Int32) → own_holds σ2.2.2.2.1 = (1 : Int32)) ∧ (own_holds σ1.2.2.2.1 = (0 : Int32) → own_holds σ3.2.2.2.1 = (0 : Int32) → own_holds σ2.2.2.2.1 = (0 : Int32)) := own_fin (own_J.b h1) (own_J.b h3) h.2.2.2.1
theorem own_up (cs : List Int32) (h : ∀ c ∈ cs, ¬ c < 0 ∧ ¬ (255 : Int32) < c) : ∀ c ∈ cs, ¬ c < 0 ∧ ¬ (65535 : Int32) < c := fun c hc => ⟨(h c hc).1, fun q => (h c hc).2 (by rw [Int32.lt_iff_toInt_lt] at q ⊢; have e1 : (65535 : Int32).toInt = 65535 := rfl; have e2 : (255 : Int32).toInt = 255 := rfl; omega)⟩
theorem ef_0 (m : MethodId) (q0 : Int64) (p1 : Int32) (p2 : Int32) (q3 : Int64) (p4 : Int32) : entryFrame m #[(.long q0), (.int p1), (.int p2), (.long q3), (.int p4)] maxLocals = mkF m 0 #[.val (.long q0), .second, .val (.int p1), .val (.int p2), .val (.long q3), .second, .val (.int p4), .unset, .unset, .unset, .unset, .unset, .unset, .unset, .unset] [] := by first | (simp [entryFrame, mkF, argsToLocals, Value.category, maxLocals]; done) | rfl
abbrev own_loc4 (q0 : Int64) (p1 p2 : Int32) (q3 : Int64) (p4 : Int32) : Array Slot := #[.val (.long q0), .second, .val (.int p1), .val (.int p2), .val (.long q3), .second, .val (.int p4), .unset, .unset, .unset, .unset, .unset, .unset, .unset, .unset]
theorem pd_13 : parseMethodDescriptor "(JI)[C" = some ⟨[.long, .int], some (.array .char)⟩ := by decide +kernel
abbrev own_loc5 (q0 : Int64) (p1 p2 : Int32) (q3 : Int64) (p4 : Int32) (r1360 : Addr) : Array Slot := #[.val (.long q0), .second, .val (.int p1), .val (.int p2), .val (.long q3), .second, .val (.int p4), .val (.ref r1360), .unset, .unset, .unset, .unset, .unset, .unset, .unset]
abbrev own_loc6 (q0 : Int64) (p1 p2 : Int32) (q3 : Int64) (p4 : Int32) (r1360 r1363 : Addr) : Array Slot := #[.val (.long q0), .second, .val (.int p1), .val (.int p2), .val (.long q3), .second, .val (.int p4), .val (.ref r1360), .val (.ref r1363), .unset, .unset, .unset, .unset, .unset, .unset]
abbrev own_loc7 (q0 : Int64) (p1 p2 : Int32) (q3 : Int64) (p4 : Int32) (r1360 r1363 r1368 : Addr) : Array Slot := #[.val (.long q0), .second, .val (.int p1), .val (.int p2), .val (.long q3), .second, .val (.int p4), .val (.ref r1360), .val (.ref r1363), .val (.ref r1368), .unset, .unset, .unset, .unset, .unset]
abbrev own_loc8 (q0 : Int64) (p1 p2 : Int32) (q3 : Int64) (p4 : Int32) (r1360 r1363 r1368 : Addr) : Array Slot := #[.val (.long q0), .second, .val (.int p1), .val (.int p2), .val (.long q3), .second, .val (.int p4), .val (.ref r1360), .val (.ref r1363), .val (.ref r1368), .val (.int ((p2 &&& (2147483647 : Int32)) % (21 : Int32))), .unset, .unset, .unset, .unset]
abbrev own_loc9 (q0 : Int64) (p1 p2 : Int32) (q3 : Int64) (p4 : Int32) (r1360 r1363 r1368 b1376 : Addr) : Array Slot := #[.val (.long q0), .second, .val (.int p1), .val (.int p2), .val (.long q3), .second, .val (.int p4), .val (.ref r1360), .val (.ref r1363), .val (.ref r1368), .val (.int ((p2 &&& (2147483647 : Int32)) % (21 : Int32))), .val (.ref b1376), .unset, .unset, .unset]
theorem pd_20 : parseMethodDescriptor "([CII)V" = some ⟨[(.array .char), .int, .int], none⟩ := by decide +kernel
abbrev own_loc10 (q0 : Int64) (p1 p2 : Int32) (q3 : Int64) (p4 : Int32) (r1360 r1363 r1368 b1376 : Addr) : Array Slot := #[.val (.long q0), .second, .val (.int p1), .val (.int p2), .val (.long q3), .second, .val (.int p4), .val (.ref r1360), .val (.ref r1363), .val (.ref r1368), .val (.int ((p2 &&& (2147483647 : Int32)) % (21 : Int32))), .val (.ref b1376), .val (.int (own_holds (own_G1 q0 p1 p2).2.2.2.1)), .unset, .unset]
abbrev own_loc11 (q0 : Int64) (p1 p2 : Int32) (q3 : Int64) (p4 : Int32) (r1360 r1363 r1368 b1376 : Addr) : Array Slot := #[.val (.long q0), .second, .val (.int p1), .val (.int p2), .val (.long q3), .second, .val (.int p4), .val (.ref r1360), .val (.ref r1363), .val (.ref r1368), .val (.int ((p2 &&& (2147483647 : Int32)) % (21 : Int32))), .val (.ref b1376), .val (.int (own_holds (own_G1 q0 p1 p2).2.2.2.1)), .val (.int (own_holds (own_G1 q0 p1 p2).2.2.2.1)), .unset]
abbrev own_loc12 (q0 : Int64) (p1 p2 : Int32) (q3 : Int64) (p4 : Int32) (r1360 r1363 r1368 b1376 b1443 : Addr) : Array Slot := #[.val (.long q0), .second, .val (.int p1), .val (.int p2), .val (.long q3), .second, .val (.int p4), .val (.ref r1360), .val (.ref r1363), .val (.ref r1368), .val (.int ((p2 &&& (2147483647 : Int32)) % (21 : Int32))), .val (.ref b1376), .val (.int (own_holds (own_G1 q0 p1 p2).2.2.2.1)), .val (.int (own_holds (own_G1 q0 p1 p2).2.2.2.1)), .val (.ref b1443)]
theorem pd_18 : parseMethodDescriptor "([C)V" = some ⟨[(.array .char)], none⟩ := by decide +kernel
theorem pd_14 : parseMethodDescriptor "(Ljava/lang/Object;)Z" = some ⟨[(.object "java/lang/Object")], some .boolean⟩ := by decide +kernel
def Q0 (n0 : Nat) (v : Option Value) (h : Heap) (L : List Loc) : Prop := v = some (.int 1) ∧ Fr n0 L
set_option maxRecDepth 65536 in
set_option maxHeartbeats 40000000 in
theorem rm0 (l : Launch) (Z : State) (ag : Array Value) (hw : ∀ d ∈ tables_1, d.before ag Z = true) (ws : List Jvm.Cond) (q0 : Int64) (p1 p2 : Int32) (q3 : Int64) (p4 cs : Int32) (gf : Value) (h0 : Heap) (n0 : Nat) (Z0 : n0 ≤ h0.size) (O_ : Old Z n0 h0) (S_cs : Sta Z Z.heap "java/lang/String" "COMPACT_STRINGS" "Z" (.int cs)) (hcs : ¬ cs = (0 : Int32)) (S_gf : Sta Z Z.heap "jdk/internal/util/Preconditions" "SIOOBE_FORMATTER" "Ljava/util/function/BiFunction;" gf) (rv_gf : gf.isRef = true) :
    MetFree l x (head1 (Jvm.Cond.code x code maxLocals ret :: ws) room_1) (fun a U => a = #[(.long q0), (.int p1), (.int p2), (.long q3), (.int p4)] ∧ Z.Warmed39 U.vm ∧ U.heap = h0 ∧ CHv Z own_EL U.vm h0) (fun _ _ _ _ _ => True) (fun _ U o U' => ∃ v L, o = .returned v ∧ Q0 n0 v U'.heap L ∧ CHr Z own_EL U.vm U.heap U'.vm U'.heap ∧ ReturnedEndW U o U' L 19 232) := by
  refine MetFree.of_bodySF (plainFor_of_name pn_1) hisR ?_
  intro p e s m args below meth c s₁ Bd hml0 hP hK
  obtain ⟨rfl, hZ, hh, hI⟩ := hP
  have hx := Bd.exec
  have hby := Bd.bytes
  have hml : c.maxLocals = 15 := hml0
  have hown : s.vm.findClass "com/example/needle_in_json/needleinjson/MaskedDigitsResumeAfterStringPinLaw" = some m.cls := findClass_of_methodNamed Bd.named
  have hnm := (name_of_methodNamed Bd.named Bd.method).1
  have X0 : Stand p l e room_1 s m #[(.long q0), (.int p1), (.int p2), (.long q3), (.int p4)] below meth c s₁ [] 0 0 := Stand.of_body Bd
  have e0 : s₁.heap = h0 := by rw [← hh, Bd.state]; rfl
  have N0 := Fr.nil n0
  have pre0 : ∀ t, Steps p.tables e below (s₁.setTop (mkF m 0 #[.val (.long q0), .second, .val (.int p1), .val (.int p2), .val (.long q3), .second, .val (.int p4), .unset, .unset, .unset, .unset, .unset, .unset, .unset, .unset] [])) t → Steps p.tables e below (s₁.setTop (entryFrame m #[(.long q0), (.int p1), (.int p2), (.long q3), (.int p4)] maxLocals)) t := fun t k => castTop (ef_0 m q0 p1 p2 q3 p4) k
  have X0 : Stand p l e room_1 (s.setVm s.vm) m #[(.long q0), (.int p1), (.int p2), (.long q3), (.int p4)] below meth c s₁ [] 0 0 := X0
  have hS : s.Since s.vm 0 := (State.WarmedH.refl s).since 0
  have hkS : 0 ≤ h0.size := Nat.zero_le _
  have hC : CHr Z own_EL s.vm h0 s.vm h0 := CHr.refl hI
  have hEL : EW Z ag own_EL := own_ew hw
  have hwS : ∀ d ∈ Bundle.stringAtoms, d.before ag Z = true := fun d hd => hw d ((by decide +kernel : ∀ d ∈ Bundle.stringAtoms, d ∈ tables_1) d hd)
  obtain ⟨_, _, ⟨T1360, L1360, k1360, n1360⟩, -, X1360, ⟨Lc1360, hQ1360, l1360, y1360, z1360⟩, st1360⟩ := Jvm.LawKit.callS X0 hx (y := (⟨"com/example/needle_in_json/needleinjson/MaskedDigitsResumeAfterStringPinLaw", "prefix", "(JI)[C"⟩ : MethodName)) hown (mvT hZ (own_wk hw 0 rfl)) (mvT hZ (own_wk hw 1 rfl)) (mvT hZ (own_wk hw 2 rfl)) (mvT hZ (own_wk hw 3 rfl)) (by decide) (backOf (W := 0) (rm1 l Z ag hw [] q0 p1  h0 n0 Z0 ) hZ (own_wk hw 3 rfl) (own_wk hw 2 rfl) (by decide) (by decide)) (g := (mkF m 2 (own_loc4 q0 p1 p2 q3 p4) [(.int p1), (.long q0)])) rfl (by rw [hml]; rfl) (argsL := [(.long q0), (.int p1)]) (rest := []) (lenOf pd_13 rfl) rfl (by show 2 * 0 + _ ≤ _; exact Nat.le_of_eq rfl) (hb hby at_2) (fun _ _ => ⟨rfl, e0, (by decide : 0 + 1 ≤ _), (by decide : 0 + 20 ≤ _)⟩)
  dsimp only [Pt.U, Pt.locs, Pt.cells, Pt.slots] at X1360 l1360 y1360 z1360 st1360 hQ1360
  subst l1360 y1360 z1360
  obtain ⟨r1360, kr1360, rfl, N1360q, K1360, ge_r1360, gqq_r1360, Vr1360⟩ := hQ1360
  have N1360 := Fr.app N0 N1360q
  have x1361 := O_.keep K1360 all0
  have sz1362 : n0 ≤ T1360.heap.size := Nat.le_trans Z0 K1360.1
  have hkS := Nat.le_trans hkS K1360.1
  have hC := hC.trans (CHr.keep K1360 sf0 hC.1)
  obtain ⟨_, _, ⟨T1363, L1363, k1363, n1363⟩, -, X1363, ⟨Lc1363, hQ1363, l1363, y1363, z1363⟩, st1363⟩ := Jvm.LawKit.callS X1360 hx (y := (⟨"com/example/needle_in_json/needleinjson/MaskedDigitsResumeAfterStringPinLaw", "suffix", "(JI)[C"⟩ : MethodName)) hown (mvT hZ (own_wk hw 13 rfl)) (mvT hZ (own_wk hw 14 rfl)) (mvT hZ (own_wk hw 2 rfl)) (mvT hZ (own_wk hw 15 rfl)) (by decide) (backOf (W := 0) (rm4 l Z ag hw [] q3 p4  T1360.heap n0 sz1362 ) hZ (own_wk hw 15 rfl) (own_wk hw 2 rfl) (by decide) (by decide)) (g := (mkF m 11 (own_loc5 q0 p1 p2 q3 p4 r1360) [(.int p4), (.long q3)])) rfl (by rw [hml]; rfl) (argsL := [(.long q3), (.int p4)]) (rest := []) (lenOf pd_13 rfl) rfl (by show 2 * 0 + _ ≤ _; exact Nat.le_of_eq rfl) (hb hby at_11) (fun _ _ => ⟨rfl, rfl, (by decide : 1 + 1 ≤ _), (by decide : 20 + 24 ≤ _)⟩)
  dsimp only [Pt.U, Pt.locs, Pt.cells, Pt.slots] at X1363 l1363 y1363 z1363 st1363 hQ1363
  subst l1363 y1363 z1363
  obtain ⟨r1363, kr1363, rfl, N1363q, K1363, ge_r1363, gqq_r1363, Vr1363⟩ := hQ1363
  have N1363 := Fr.app N1360 N1363q
  have ne1364 : r1360 ≠ r1363 := Nat.ne_of_lt (Nat.lt_of_lt_of_le Vr1360.lt gqq_r1363)
  have x1365 := x1361.keep K1363 all0
  have x1366 := Vr1360.keep K1363 nin0
  have sz1367 : n0 ≤ T1363.heap.size := Nat.le_trans sz1362 K1363.1
  have hkS := Nat.le_trans hkS K1363.1
  have hC := hC.trans (CHr.keep K1363 sf0 hC.1)
  obtain ⟨_, _, ⟨T1368, L1368, k1368, n1368⟩, -, X1368, ⟨Lc1368, hQ1368, l1368, y1368, z1368⟩, st1368⟩ := Jvm.LawKit.callS X1363 hx (y := (⟨"com/example/needle_in_json/needleinjson/MaskedDigitsResumeAfterStringPinLaw", "suffix", "(JI)[C"⟩ : MethodName)) hown (mvT hZ (own_wk hw 13 rfl)) (mvT hZ (own_wk hw 14 rfl)) (mvT hZ (own_wk hw 2 rfl)) (mvT hZ (own_wk hw 15 rfl)) (by decide) (backOf (W := 0) (rm4 l Z ag hw [] q3 p4  T1363.heap n0 sz1367 ) hZ (own_wk hw 15 rfl) (own_wk hw 2 rfl) (by decide) (by decide)) (g := (mkF m 20 (own_loc6 q0 p1 p2 q3 p4 r1360 r1363) [(.int p4), (.long q3)])) rfl (by rw [hml]; rfl) (argsL := [(.long q3), (.int p4)]) (rest := []) (lenOf pd_13 rfl) rfl (by show 2 * 0 + _ ≤ _; exact Nat.le_of_eq rfl) (hb hby at_20) (fun _ _ => ⟨rfl, rfl, (by decide : 2 + 1 ≤ _), (by decide : 44 + 24 ≤ _)⟩)
  dsimp only [Pt.U, Pt.locs, Pt.cells, Pt.slots] at X1368 l1368 y1368 z1368 st1368 hQ1368
  subst l1368 y1368 z1368
  obtain ⟨r1368, kr1368, rfl, N1368q, K1368, ge_r1368, gqq_r1368, Vr1368⟩ := hQ1368
  have N1368 := Fr.app N1363 N1368q
  have ne1369 : r1360 ≠ r1368 := Nat.ne_of_lt (Nat.lt_of_lt_of_le x1366.lt gqq_r1368)
  have ne1370 : r1363 ≠ r1368 := Nat.ne_of_lt (Nat.lt_of_lt_of_le Vr1363.lt gqq_r1368)
  have x1371 := x1365.keep K1368 all0
  have x1372 := x1366.keep K1368 nin0
  have x1373 := Vr1363.keep K1368 nin0
  have sz1374 : n0 ≤ T1368.heap.size := Nat.le_trans sz1367 K1368.1
  have hkS := Nat.le_trans hkS K1368.1
  have hC := hC.trans (CHr.keep K1368 sf0 hC.1)
  have ld1375 := X1368.ldcInt hx hown (mvT hZ (own_wk hw 16 rfl)) (g := (mkF m 26 (own_loc7 q0 p1 p2 q3 p4 r1360 r1363 r1368) [(.int p2)])) rfl (hb hby at_26)
  obtain ⟨T1376, h1376, X1376, e1376, E1376, A1376, D1376, -, st1376⟩ := newO X1368 hx hZ hown (own_wk hw 17 rfl) (own_wk hw 18 rfl) (own_wk hw 19 rfl) rfl (g := (mkF m 34 (own_loc8 q0 p1 p2 q3 p4 r1360 r1363 r1368) [])) rfl (hb hby at_34) (by decide) (by decide)
  obtain ⟨b1376, g1376⟩ : ∃ z, z = T1368.heap.size := ⟨_, rfl⟩
  have ne1377 : r1360 ≠ b1376 := Nat.ne_of_lt (Nat.lt_of_lt_of_le x1372.lt (Nat.le_of_eq g1376.symm))
  have ne1378 : r1363 ≠ b1376 := Nat.ne_of_lt (Nat.lt_of_lt_of_le x1373.lt (Nat.le_of_eq g1376.symm))
  have ne1379 : r1368 ≠ b1376 := Nat.ne_of_lt (Nat.lt_of_lt_of_le Vr1368.lt (Nat.le_of_eq g1376.symm))
  have ge_b1376 : n0 ≤ b1376 := Nat.le_trans sz1374 (Nat.le_of_eq g1376.symm)
  have sf_b1376 := own_safe_at hC (Nat.le_of_eq g1376.symm)
  rw [← g1376] at A1376 D1376 st1376
  have x1380 := x1371.ext E1376
  have x1381 := x1372.ext E1376
  have x1382 := x1373.ext E1376
  have x1383 := Vr1368.ext E1376
  have x1384 := Safe.ext E1376 hC.1 sf_b1376
  have sz1385 : n0 ≤ h1376.size := Nat.le_trans sz1374 E1376.1
  have hkS := Nat.le_trans hkS E1376.1
  have hC := hC.trans (CHr.ext E1376 hC.1)
  have F1376_held : Fld Z h1376 b1376 "com/example/needle_in_json/needleinjson/MaskedDigits" "held" "Ljava/lang/StringBuilder;" .null := D1376 (Or.inr (own_wk hw 47 rfl)) (ty := (.object "java/lang/StringBuilder")) (by decide)
  have F1376_escapeRead : Fld Z h1376 b1376 "com/example/needle_in_json/needleinjson/MaskedDigits" "escapeRead" "I" (.int (0 : Int32)) := D1376 (Or.inl (own_wk hw 49 rfl)) (ty := .int) (by decide)
  have F1376_row : Fld Z h1376 b1376 "com/example/needle_in_json/needleinjson/MaskedDigits" "row" "I" (.int (0 : Int32)) := D1376 (Or.inl (own_wk hw 56 rfl)) (ty := .int) (by decide)
  have F1376_digitEscape : Fld Z h1376 b1376 "com/example/needle_in_json/needleinjson/MaskedDigits" "digitEscape" "Z" (.int (0 : Int32)) := D1376 (Or.inl (own_wk hw 97 rfl)) (ty := .boolean) (by decide)
  have cp1386 : ∀ target, own_S p e below T1376 (mkF m 38 (own_loc8 q0 p1 p2 q3 p4 r1360 r1363 r1368) [(.ref b1376), (.ref b1376)]) target → own_S p e below s₁ (mkF m 0 (own_loc4 q0 p1 p2 q3 p4) []) target := by
    intro target kt
    show own_S p e below s₁ (mkF m 0 (own_loc4 q0 p1 p2 q3 p4) []) _
    refine XS.lloadN X0.here hx rfl (hb hby at_0) rfl (XS.iloadN X0.here hx rfl (hb hby at_1) rfl (st1360 _ (XS.astore X1360.here hx rfl (hb hby at_5) rfl rfl (l' := (own_loc5 q0 p1 p2 q3 p4 r1360)) rfl (XS.lload X1360.here hx rfl (hb hby at_7) rfl (XS.iload X1360.here hx rfl (hb hby at_9) rfl (st1363 _ (XS.astore X1363.here hx rfl (hb hby at_14) rfl rfl (l' := (own_loc6 q0 p1 p2 q3 p4 r1360 r1363)) rfl (XS.lload X1363.here hx rfl (hb hby at_16) rfl (XS.iload X1363.here hx rfl (hb hby at_18) rfl ?_)))))))))
    refine st1368 _ (XS.astore X1368.here hx rfl (hb hby at_23) rfl rfl (l' := (own_loc7 q0 p1 p2 q3 p4 r1360 r1363 r1368)) rfl (XS.iloadN X1368.here hx rfl (hb hby at_25) rfl (ld1375 _ ?_)))
    show own_S p e below T1368 (mkF m 28 (own_loc7 q0 p1 p2 q3 p4 r1360 r1363 r1368) [.int 2147483647, (.int p2)]) _
    refine XS.iand X1368.here hx rfl (hb hby at_28) rfl (XS.bipush X1368.here hx rfl (hb hby at_29) (iremM X1368 hx rfl (hb hby at_31) rfl (by decide) (XS.istore X1368.here hx rfl (hb hby at_32) rfl (l' := (own_loc8 q0 p1 p2 q3 p4 r1360 r1363 r1368)) rfl (st1376 _ (XS.dup X1376.here hx rfl (hb hby at_37) rfl rfl ?_)))))
    exact kt
  obtain ⟨_, _, ⟨T1387, L1387, k1387, n1387⟩, -, X1387, ⟨Lc1387, hQ1387, l1387, y1387, z1387⟩, st1387⟩ := X1376.specialBack hx (y := (⟨"com/example/needle_in_json/needleinjson/MaskedDigits", "<init>", "()V"⟩ : MethodName)) rfl hown (mvT hZ (own_wk hw 20 rfl)) (mvT hZ (own_wk hw 21 rfl)) (mvT hZ (own_wk hw 22 rfl)) (by decide) (backOf (W := 1) (rm5 l Z ag hw [] b1376 cs h1376 n0 sz1385 A1376 F1376_row F1376_escapeRead F1376_digitEscape F1376_held ge_b1376 x1380 S_cs hcs) hZ (own_wk hw 22 rfl) (own_wk hw 19 rfl) (by decide) (by decide)) (g := (mkF m 38 (own_loc8 q0 p1 p2 q3 p4 r1360 r1363 r1368) [(.ref b1376), (.ref b1376)])) rfl (by rw [hml]; rfl) (Steps.refl _) (a := b1376) (argsL := []) (rest := [(.ref b1376)]) (lenOf pd_2 rfl) rfl (by show 2 * 0 + _ ≤ _; exact Nat.le_of_eq rfl) (hb hby at_38) (fun _ _ => ⟨rfl, e1376, (by decide : 4 + 2 ≤ _), (by decide : 72 + 20 ≤ _)⟩)
  dsimp only [Pt.U, Pt.locs, Pt.cells, Pt.slots] at X1387 l1387 y1387 z1387 st1387 hQ1387
  subst l1387 y1387 z1387
  obtain ⟨bd1387, vb1387, kb1387, rfl, N1387q, K1387, ⟨ge_bd1387, gqq_bd1387⟩, ⟨ge_vb1387, gqq_vb1387⟩, o1387_0, o1387_1, o1387_2, o1387_3, o1387_4, o1387_5, o1387_6, o1387_7, o1387_8, o1387_9⟩ := hQ1387
  have N1387 := Fr.app N1368 N1387q
  have ne1388 : r1360 ≠ bd1387 := Nat.ne_of_lt (Nat.lt_of_lt_of_le x1381.lt gqq_bd1387)
  have ne1389 : r1363 ≠ bd1387 := Nat.ne_of_lt (Nat.lt_of_lt_of_le x1382.lt gqq_bd1387)
  have ne1390 : r1368 ≠ bd1387 := Nat.ne_of_lt (Nat.lt_of_lt_of_le x1383.lt gqq_bd1387)
  have ne1391 : b1376 ≠ bd1387 := Nat.ne_of_lt (Nat.lt_of_lt_of_le A1376.lt gqq_bd1387)
  have sf_bd1387 := own_safe_at hC gqq_bd1387
  have ne1392 : r1360 ≠ vb1387 := Nat.ne_of_lt (Nat.lt_of_lt_of_le x1381.lt gqq_vb1387)
  have ne1393 : r1363 ≠ vb1387 := Nat.ne_of_lt (Nat.lt_of_lt_of_le x1382.lt gqq_vb1387)
  have ne1394 : r1368 ≠ vb1387 := Nat.ne_of_lt (Nat.lt_of_lt_of_le x1383.lt gqq_vb1387)
  have ne1395 : b1376 ≠ vb1387 := Nat.ne_of_lt (Nat.lt_of_lt_of_le A1376.lt gqq_vb1387)
  have sf_vb1387 := own_safe_at hC gqq_vb1387
  have x1396 := x1380.keep K1387 (allS ge_b1376 all0)
  have x1397 := x1381.keep K1387 (ninS ne1377 nin0)
  have x1398 := x1382.keep K1387 (ninS ne1378 nin0)
  have x1399 := x1383.keep K1387 (ninS ne1379 nin0)
  have x1400 := Safe.keep K1387 (sfS x1384 sf0) hC.1 x1384
  have x1401 := A1376.keep K1387
  have x1402 := Safe.keep K1387 (sfS x1384 sf0) hC.1 sf_bd1387
  have x1403 := Safe.keep K1387 (sfS x1384 sf0) hC.1 sf_vb1387
  have sz1404 : n0 ≤ T1387.heap.size := Nat.le_trans sz1385 K1387.1
  have hkS := Nat.le_trans hkS K1387.1
  have hC := hC.trans (CHr.keep K1387 (sfS x1384 sf0) hC.1)
  obtain ⟨cq1405, kq1405, q1405a, q1405b, q1405c⟩ := isOf hZ rfl x1401
  obtain ⟨_, _, ⟨T1405, L1405, k1405, n1405⟩, -, X1405, hS2_1405, hg2_1405, ⟨Lc1405, hQ1405, l1405, y1405, z1405, hCs1405⟩, st1405⟩ := X1387.virtualBackS hx (y := (⟨"com/example/needle_in_json/needleinjson/MaskedDigits", "mask", "([CII)V"⟩ : MethodName)) (z := (⟨"com/example/needle_in_json/needleinjson/MaskedDigits", "mask", "([CII)V"⟩ : MethodName)) hown (mvT hZ (own_wk hw 50 rfl)) (mvT hZ (own_wk hw 51 rfl)) (notFace_of_selects (args := #[]) (mvT hZ (own_wk hw 53 rfl))) (mvT hZ (own_wk hw 53 rfl)) (mvT hZ (own_wk hw 52 rfl)) (by decide) (own_backSL (W := 0) (rm9 l Z ag hw [] b1376 r1360 ((p2 &&& (2147483647 : Int32)) % (21 : Int32)) bd1387 vb1387 kr1360 kb1387 (20 : Int32) (own_g (0 : Int32) (own_prefix q0 p1) (List.replicate 16 (.int (0 : Int32)))) cs gf (0) T1387.heap n0 sz1404 (show own_F Z T1387.heap b1376 r1360 bd1387 vb1387 kr1360 kb1387 (20 : Int32) (own_g (0 : Int32) (own_prefix q0 p1) (List.replicate 16 (.int (0 : Int32)))) from ⟨x1401, o1387_0, o1387_1, o1387_2, o1387_3, o1387_4, o1387_5, o1387_6, o1387_7, o1387_8, x1397⟩) ⟨(Ne.symm ne1377), ne1391, ne1395, ne1388, ne1392, o1387_9⟩ ⟨ge_b1376, ge_r1360, ge_bd1387, ge_vb1387⟩ x1396 S_cs hcs S_gf rv_gf (own_to_rg p2) (own_J0 rfl (own_prefix_len _ _) (List.length_replicate ..)) (by decide)) hZ (own_wk hw 54 rfl) (own_wk hw 19 rfl) (by decide) (by decide) hEL hC.1 o1387_8.lt x1403) q1405a q1405c (g := (mkF m 50 (own_loc9 q0 p1 p2 q3 p4 r1360 r1363 r1368 b1376) [(.int ((p2 &&& (2147483647 : Int32)) % (21 : Int32))), .int 0, (.ref r1360), (.ref b1376)])) rfl (by rw [hml]; rfl) (Steps.refl _) (argsL := [(.ref r1360), (.int (0 : Int32)), (.int ((p2 &&& (2147483647 : Int32)) % (21 : Int32)))]) (rest := []) (lenOf pd_20 rfl) rfl (by show 2 * 0 + _ ≤ _; exact Nat.le_of_eq rfl) (hb hby at_50) (fun _ _ => ⟨rfl, rfl, (by decide : 6 + 2 ≤ _), (by decide : 92 + 20 ≤ _)⟩)
  dsimp only [Pt.U, Pt.locs, Pt.cells, Pt.slots] at X1405 l1405 y1405 z1405 st1405 hQ1405 hS2_1405 hg2_1405 hCs1405
  subst l1405 y1405 z1405
  obtain ⟨X1405, hS, hZ, hown⟩ := rebS hS hkS X1405 hS2_1405 hg2_1405 hZ hown
  obtain ⟨rfl, N1405q, K1405, F1405, J1⟩ := hQ1405.1
  have N1405 := Fr.app N1387 N1405q
  have F1405 : own_F Z T1405.heap b1376 r1360 bd1387 vb1387 kr1360 kb1387 (20 : Int32) (own_G1 q0 p1 p2) := F1405
  have J1 : own_J ((20 : Int32)).toNatClampNeg (0) 24 (own_G1 q0 p1 p2) := J1
  have x1406 := x1396.keep K1405 (allS ge_b1376 (allS ge_r1360 (allS ge_bd1387 (allS ge_vb1387 all0))))
  have x1407 := x1398.keep K1405 (ninS ne1378 (ninS (Ne.symm ne1364) (ninS ne1389 (ninS ne1393 nin0))))
  have x1408 := x1399.keep K1405 (ninS ne1379 (ninS (Ne.symm ne1369) (ninS ne1390 (ninS ne1394 nin0))))
  have x1409 := hCs1405.safe x1401.lt x1400
  have x1410 := x1401.keep K1405
  have x1411 := hCs1405.safe o1387_4.lt x1402
  have x1412 := hCs1405.safe o1387_8.lt x1403
  have x1413 := o1387_4.keep K1405
  have sz1414 : n0 ≤ T1405.heap.size := Nat.le_trans sz1404 K1405.1
  have hkS := Nat.le_trans hkS K1405.1
  have hC := hC.trans hCs1405
  obtain ⟨m1405_0, m1405_1, m1405_2, m1405_3, m1405_4, m1405_5, m1405_6, m1405_7, m1405_8, m1405_9, m1405_10⟩ := id F1405
  have hkS : T1405.heap.size ≤ T1405.heap.size := Nat.le_refl _
  obtain ⟨cq1415, kq1415, q1415a, q1415b, q1415c⟩ := isOf hZ rfl m1405_0
  obtain ⟨_, _, ⟨T1415, L1415, k1415, n1415⟩, -, X1415, ⟨Lc1415, hQ1415, l1415, y1415, z1415⟩, st1415⟩ := X1405.virtualBack hx (y := (⟨"com/example/needle_in_json/needleinjson/MaskedDigits", "holdsDigits", "()Z"⟩ : MethodName)) (z := (⟨"com/example/needle_in_json/needleinjson/MaskedDigits", "holdsDigits", "()Z"⟩ : MethodName)) hown (mvT hZ (own_wk hw 74 rfl)) (mvT hZ (own_wk hw 75 rfl)) (notFace_of_selects (args := #[]) (mvT hZ (own_wk hw 77 rfl))) (mvT hZ (own_wk hw 77 rfl)) (mvT hZ (own_wk hw 76 rfl)) (by decide) (backOf (W := 0) (rm15 l Z ag hw [] b1376 bd1387 (own_G1 q0 p1 p2).2.2.2.1 T1405.heap n0 sz1414 m1405_4 m1405_5 m1405_8) hZ (own_wk hw 78 rfl) (own_wk hw 19 rfl) (by decide) (by decide)) q1415a q1415c (g := (mkF m 55 (own_loc9 q0 p1 p2 q3 p4 r1360 r1363 r1368 b1376) [(.ref b1376)])) rfl (by rw [hml]; rfl) (Steps.refl _) (argsL := []) (rest := []) (lenOf pd_3 rfl) rfl (by show 2 * 0 + _ ≤ _; exact Nat.le_of_eq rfl) (hb hby at_55) (fun _ _ => ⟨rfl, rfl, (by decide : 8 + 0 ≤ _), (by decide : 112 + 0 ≤ _)⟩)
  dsimp only [Pt.U, Pt.locs, Pt.cells, Pt.slots] at X1415 l1415 y1415 z1415 st1415 hQ1415
  subst l1415 y1415 z1415
  obtain ⟨rfl, N1415q, e1415⟩ := hQ1415
  have N1415 := Fr.app N1405 N1415q
  obtain ⟨cq1416, kq1416, q1416a, q1416b, q1416c⟩ := isOf hZ e1415 m1405_0
  obtain ⟨_, _, ⟨T1416, L1416, k1416, n1416⟩, -, X1416, ⟨Lc1416, hQ1416, l1416, y1416, z1416⟩, st1416⟩ := X1415.virtualBack hx (y := (⟨"com/example/needle_in_json/needleinjson/MaskedDigits", "resumeAfterString", "()V"⟩ : MethodName)) (z := (⟨"com/example/needle_in_json/needleinjson/MaskedDigits", "resumeAfterString", "()V"⟩ : MethodName)) hown (mvT hZ (own_wk hw 91 rfl)) (mvT hZ (own_wk hw 92 rfl)) (notFace_of_selects (args := #[]) (mvT hZ (own_wk hw 94 rfl))) (mvT hZ (own_wk hw 94 rfl)) (mvT hZ (own_wk hw 93 rfl)) (by decide) (backOf (W := 0) (rm18 l Z ag hw [] b1376 (own_G1 q0 p1 p2).1 (own_G1 q0 p1 p2).2.1 (own_G1 q0 p1 p2).2.2.1 bd1387 T1405.heap n0 sz1414 m1405_0 m1405_1 m1405_2 m1405_3 m1405_4 ge_b1376) hZ (own_wk hw 95 rfl) (own_wk hw 19 rfl) (by decide) (by decide)) q1416a q1416c (g := (mkF m 62 (own_loc10 q0 p1 p2 q3 p4 r1360 r1363 r1368 b1376) [(.ref b1376)])) rfl (by rw [hml]; rfl) (Steps.refl _) (argsL := []) (rest := []) (lenOf pd_2 rfl) rfl (by show 2 * 0 + _ ≤ _; exact Nat.le_of_eq rfl) (hb hby at_62) (fun _ _ => ⟨rfl, e1415, (by decide : 8 + 0 ≤ _), (by decide : 112 + 0 ≤ _)⟩)
  dsimp only [Pt.U, Pt.locs, Pt.cells, Pt.slots] at X1416 l1416 y1416 z1416 st1416 hQ1416
  subst l1416 y1416 z1416
  obtain ⟨rfl, N1416q, K1416, o1416_0, o1416_1, o1416_2, o1416_3⟩ := hQ1416
  have N1416 := Fr.app N1415 N1416q
  have x1417 := x1406.keep K1416 (allS ge_b1376 all0)
  have x1418 := x1407.keep K1416 (ninS ne1378 nin0)
  have x1419 := x1408.keep K1416 (ninS ne1379 nin0)
  have x1420 := Safe.keep K1416 (sfS x1409 sf0) hC.1 x1409
  have x1421 := m1405_0.keep K1416
  have x1422 := Safe.keep K1416 (sfS x1409 sf0) hC.1 x1411
  have x1423 := Safe.keep K1416 (sfS x1409 sf0) hC.1 x1412
  have x1424 := m1405_5.keep K1416
  have x1425 := m1405_6.keep K1416 (ninS (Ne.symm ne1391) nin0)
  have x1426 := m1405_7.keep K1416 (ninS (Ne.symm ne1391) nin0)
  have x1427 := m1405_8.keep K1416 (ninS (Ne.symm ne1391) nin0)
  have x1428 := m1405_9.keep K1416 (ninS (Ne.symm ne1395) nin0)
  have x1429 := m1405_10.keep K1416 (ninS ne1377 nin0)
  have sz1430 : n0 ≤ T1416.heap.size := Nat.le_trans sz1414 K1416.1
  have hkS := Nat.le_trans hkS K1416.1
  have hC := hC.trans (CHr.keep K1416 (sfS x1409 sf0) hC.1)
  have cp1431 : ∀ target, own_S p e below T1416 (mkF m 67 (own_loc10 q0 p1 p2 q3 p4 r1360 r1363 r1368 b1376) [(.ref b1376)]) target → own_S p e below s₁ (mkF m 0 (own_loc4 q0 p1 p2 q3 p4) []) target := by
    intro target kt
    show own_S p e below s₁ (mkF m 0 (own_loc4 q0 p1 p2 q3 p4) []) _
    refine cp1386 _ (st1387.trans (XS.astore X1387.here hx rfl (hb hby at_41) rfl rfl (l' := (own_loc9 q0 p1 p2 q3 p4 r1360 r1363 r1368 b1376)) rfl (XS.aload X1387.here hx rfl (hb hby at_43) rfl rfl (XS.aload X1387.here hx rfl (hb hby at_45) rfl rfl (XS.iconst X1387.here hx rfl (hb hby at_47) (XS.iload X1387.here hx rfl (hb hby at_48) rfl (st1405.trans (XS.aload X1405.here hx rfl (hb hby at_53) rfl rfl (st1415.trans ?_)))))))))
    refine XS.istore X1415.here hx rfl (hb hby at_58) rfl (l' := (own_loc10 q0 p1 p2 q3 p4 r1360 r1363 r1368 b1376)) rfl (XS.aload X1415.here hx rfl (hb hby at_60) rfl rfl (st1416.trans (XS.aload X1416.here hx rfl (hb hby at_65) rfl rfl ?_)))
    exact kt
  obtain ⟨cq1432, kq1432, q1432a, q1432b, q1432c⟩ := isOf hZ rfl x1421
  obtain ⟨_, _, ⟨T1432, L1432, k1432, n1432⟩, -, X1432, ⟨Lc1432, hQ1432, l1432, y1432, z1432⟩, st1432⟩ := X1416.virtualBack hx (y := (⟨"com/example/needle_in_json/needleinjson/MaskedDigits", "holdsDigits", "()Z"⟩ : MethodName)) (z := (⟨"com/example/needle_in_json/needleinjson/MaskedDigits", "holdsDigits", "()Z"⟩ : MethodName)) hown (mvT hZ (own_wk hw 74 rfl)) (mvT hZ (own_wk hw 75 rfl)) (notFace_of_selects (args := #[]) (mvT hZ (own_wk hw 77 rfl))) (mvT hZ (own_wk hw 77 rfl)) (mvT hZ (own_wk hw 76 rfl)) (by decide) (backOf (W := 0) (rm15 l Z ag hw [] b1376 bd1387 (own_G1 q0 p1 p2).2.2.2.1 T1416.heap n0 sz1430 o1416_3 x1424 x1427) hZ (own_wk hw 78 rfl) (own_wk hw 19 rfl) (by decide) (by decide)) q1432a q1432c (g := (mkF m 67 (own_loc10 q0 p1 p2 q3 p4 r1360 r1363 r1368 b1376) [(.ref b1376)])) rfl (by rw [hml]; rfl) (Steps.refl _) (argsL := []) (rest := []) (lenOf pd_3 rfl) rfl (by show 2 * 0 + _ ≤ _; exact Nat.le_of_eq rfl) (hb hby at_67) (fun _ _ => ⟨rfl, rfl, (by decide : 8 + 0 ≤ _), (by decide : 112 + 0 ≤ _)⟩)
  dsimp only [Pt.U, Pt.locs, Pt.cells, Pt.slots] at X1432 l1432 y1432 z1432 st1432 hQ1432
  subst l1432 y1432 z1432
  obtain ⟨rfl, N1432q, e1432⟩ := hQ1432
  have N1432 := Fr.app N1416 N1432q
  obtain ⟨cq1433, kq1433, q1433a, q1433b, q1433c⟩ := isOf hZ e1432 x1421
  obtain ⟨_, _, ⟨T1433, L1433, k1433, n1433⟩, -, X1433, hS2_1433, hg2_1433, ⟨Lc1433, hQ1433, l1433, y1433, z1433, hCs1433⟩, st1433⟩ := X1432.virtualBackS hx (y := (⟨"com/example/needle_in_json/needleinjson/MaskedDigits", "mask", "([CII)V"⟩ : MethodName)) (z := (⟨"com/example/needle_in_json/needleinjson/MaskedDigits", "mask", "([CII)V"⟩ : MethodName)) hown (mvT hZ (own_wk hw 50 rfl)) (mvT hZ (own_wk hw 51 rfl)) (notFace_of_selects (args := #[]) (mvT hZ (own_wk hw 53 rfl))) (mvT hZ (own_wk hw 53 rfl)) (mvT hZ (own_wk hw 52 rfl)) (by decide) (own_backSL (W := 0) (rm9 l Z ag hw [] b1376 r1363 (24 : Int32) bd1387 vb1387 kr1363 kb1387 (24 : Int32) (own_g (own_G1 q0 p1 p2).2.2.2.1 (own_suffix q3 p4) (own_G1 q0 p1 p2).2.2.2.2.2) cs gf ((own_G1 q0 p1 p2).2.2.2.1.toInt.toNat) T1416.heap n0 sz1430 (show own_F Z T1416.heap b1376 r1363 bd1387 vb1387 kr1363 kb1387 (24 : Int32) (own_g (own_G1 q0 p1 p2).2.2.2.1 (own_suffix q3 p4) (own_G1 q0 p1 p2).2.2.2.2.2) from ⟨x1421, o1416_0, o1416_1, o1416_2, o1416_3, x1424, x1425, x1426, x1427, x1428, x1418⟩) ⟨(Ne.symm ne1378), ne1391, ne1395, ne1389, ne1393, o1387_9⟩ ⟨ge_b1376, ge_r1363, ge_bd1387, ge_vb1387⟩ x1417 S_cs hcs S_gf rv_gf ⟨by decide, by decide, by decide, by decide⟩ (own_J0 (Int.toNat_of_nonneg J1.b.1).symm (own_suffix_len _ _) J1.2.2.2.2.2) J1.c8) hZ (own_wk hw 54 rfl) (own_wk hw 19 rfl) (by decide) (by decide) hEL hC.1 x1428.lt x1423) q1433a q1433c (g := (mkF m 79 (own_loc11 q0 p1 p2 q3 p4 r1360 r1363 r1368 b1376) [.int 24, .int 0, (.ref r1363), (.ref b1376)])) rfl (by rw [hml]; rfl) (Steps.refl _) (argsL := [(.ref r1363), (.int (0 : Int32)), (.int (24 : Int32))]) (rest := []) (lenOf pd_20 rfl) rfl (by show 2 * 0 + _ ≤ _; exact Nat.le_of_eq rfl) (hb hby at_79) (fun _ _ => ⟨rfl, e1432, (by decide : 8 + 2 ≤ _), (by decide : 112 + 20 ≤ _)⟩)
  dsimp only [Pt.U, Pt.locs, Pt.cells, Pt.slots] at X1433 l1433 y1433 z1433 st1433 hQ1433 hS2_1433 hg2_1433 hCs1433
  subst l1433 y1433 z1433
  obtain ⟨X1433, hS, hZ, hown⟩ := rebS hS (by rw [e1432]; exact hkS) X1433 hS2_1433 hg2_1433 hZ hown
  obtain ⟨rfl, N1433q, K1433, F1433, J2⟩ := hQ1433.1
  have N1433 := Fr.app N1432 N1433q
  have F1433 : own_F Z T1433.heap b1376 r1363 bd1387 vb1387 kr1363 kb1387 (24 : Int32) (own_G2 q0 p1 p2 q3 p4) := F1433
  have J2 : own_J ((24 : Int32)).toNatClampNeg ((own_G1 q0 p1 p2).2.2.2.1.toInt.toNat) 24 (own_G2 q0 p1 p2 q3 p4) := J2
  have x1434 := x1417.keep K1433 (allS ge_b1376 (allS ge_r1363 (allS ge_bd1387 (allS ge_vb1387 all0))))
  have x1435 := x1419.keep K1433 (ninS ne1379 (ninS (Ne.symm ne1370) (ninS ne1390 (ninS ne1394 nin0))))
  have x1436 := hCs1433.safe x1421.lt x1420
  have x1437 := x1421.keep K1433
  have x1438 := hCs1433.safe x1424.lt x1422
  have x1439 := hCs1433.safe x1428.lt x1423
  have x1440 := x1424.keep K1433
  have x1441 := x1429.keep K1433 (ninS ne1377 (ninS ne1364 (ninS ne1388 (ninS ne1392 nin0))))
  have sz1442 : n0 ≤ T1433.heap.size := Nat.le_trans sz1430 K1433.1
  have hkS := Nat.le_trans hkS K1433.1
  have hC := hC.trans hCs1433
  obtain ⟨m1433_0, m1433_1, m1433_2, m1433_3, m1433_4, m1433_5, m1433_6, m1433_7, m1433_8, m1433_9, m1433_10⟩ := id F1433
  have hkS : T1433.heap.size ≤ T1433.heap.size := Nat.le_refl _
  obtain ⟨T1443, h1443, X1443, e1443, E1443, A1443, D1443, -, st1443⟩ := newO X1433 hx hZ hown (own_wk hw 17 rfl) (own_wk hw 18 rfl) (own_wk hw 19 rfl) rfl (g := (mkF m 82 (own_loc11 q0 p1 p2 q3 p4 r1360 r1363 r1368 b1376) [])) rfl (hb hby at_82) (by decide) (by decide)
  obtain ⟨b1443, g1443⟩ : ∃ z, z = T1433.heap.size := ⟨_, rfl⟩
  have ne1444 : r1360 ≠ b1443 := Nat.ne_of_lt (Nat.lt_of_lt_of_le x1441.lt (Nat.le_of_eq g1443.symm))
  have ne1445 : r1363 ≠ b1443 := Nat.ne_of_lt (Nat.lt_of_lt_of_le m1433_10.lt (Nat.le_of_eq g1443.symm))
  have ne1446 : r1368 ≠ b1443 := Nat.ne_of_lt (Nat.lt_of_lt_of_le x1435.lt (Nat.le_of_eq g1443.symm))
  have ne1447 : b1376 ≠ b1443 := Nat.ne_of_lt (Nat.lt_of_lt_of_le m1433_0.lt (Nat.le_of_eq g1443.symm))
  have ne1448 : bd1387 ≠ b1443 := Nat.ne_of_lt (Nat.lt_of_lt_of_le m1433_5.lt (Nat.le_of_eq g1443.symm))
  have ne1449 : vb1387 ≠ b1443 := Nat.ne_of_lt (Nat.lt_of_lt_of_le m1433_9.lt (Nat.le_of_eq g1443.symm))
  have ge_b1443 : n0 ≤ b1443 := Nat.le_trans sz1442 (Nat.le_of_eq g1443.symm)
  have sf_b1443 := own_safe_at hC (Nat.le_of_eq g1443.symm)
  rw [← g1443] at A1443 D1443 st1443
  have x1450 := x1434.ext E1443
  have x1451 := x1435.ext E1443
  have x1452 := Safe.ext E1443 hC.1 x1436
  have x1453 := m1433_0.ext E1443
  have x1454 := Safe.ext E1443 hC.1 x1438
  have x1455 := Safe.ext E1443 hC.1 x1439
  have x1456 := m1433_5.ext E1443
  have x1457 := x1441.ext E1443
  have x1458 := m1433_1.ext E1443
  have x1459 := m1433_2.ext E1443
  have x1460 := m1433_3.ext E1443
  have x1461 := m1433_4.ext E1443
  have x1462 := m1433_6.ext E1443
  have x1463 := m1433_7.ext E1443
  have x1464 := m1433_8.ext E1443
  have x1465 := m1433_9.ext E1443
  have x1466 := m1433_10.ext E1443
  have x1467 := Safe.ext E1443 hC.1 sf_b1443
  have sz1468 : n0 ≤ h1443.size := Nat.le_trans sz1442 E1443.1
  have hkS := Nat.le_trans hkS E1443.1
  have hC := hC.trans (CHr.ext E1443 hC.1)
  have F1443_held : Fld Z h1443 b1443 "com/example/needle_in_json/needleinjson/MaskedDigits" "held" "Ljava/lang/StringBuilder;" .null := D1443 (Or.inr (own_wk hw 47 rfl)) (ty := (.object "java/lang/StringBuilder")) (by decide)
  have F1443_escapeRead : Fld Z h1443 b1443 "com/example/needle_in_json/needleinjson/MaskedDigits" "escapeRead" "I" (.int (0 : Int32)) := D1443 (Or.inl (own_wk hw 49 rfl)) (ty := .int) (by decide)
  have F1443_row : Fld Z h1443 b1443 "com/example/needle_in_json/needleinjson/MaskedDigits" "row" "I" (.int (0 : Int32)) := D1443 (Or.inl (own_wk hw 56 rfl)) (ty := .int) (by decide)
  have F1443_digitEscape : Fld Z h1443 b1443 "com/example/needle_in_json/needleinjson/MaskedDigits" "digitEscape" "Z" (.int (0 : Int32)) := D1443 (Or.inl (own_wk hw 97 rfl)) (ty := .boolean) (by decide)
  obtain ⟨_, _, ⟨T1469, L1469, k1469, n1469⟩, -, X1469, ⟨Lc1469, hQ1469, l1469, y1469, z1469⟩, st1469⟩ := X1443.specialBack hx (y := (⟨"com/example/needle_in_json/needleinjson/MaskedDigits", "<init>", "()V"⟩ : MethodName)) rfl hown (mvT hZ (own_wk hw 20 rfl)) (mvT hZ (own_wk hw 21 rfl)) (mvT hZ (own_wk hw 22 rfl)) (by decide) (backOf (W := 1) (rm5 l Z ag hw [] b1443 cs h1443 n0 sz1468 A1443 F1443_row F1443_escapeRead F1443_digitEscape F1443_held ge_b1443 x1450 S_cs hcs) hZ (own_wk hw 22 rfl) (own_wk hw 19 rfl) (by decide) (by decide)) (g := (mkF m 86 (own_loc11 q0 p1 p2 q3 p4 r1360 r1363 r1368 b1376) [(.ref b1443), (.ref b1443)])) rfl (by rw [hml]; rfl) (Steps.refl _) (a := b1443) (argsL := []) (rest := [(.ref b1443)]) (lenOf pd_2 rfl) rfl (by show 2 * 0 + _ ≤ _; exact Nat.le_of_eq rfl) (hb hby at_86) (fun _ _ => ⟨rfl, e1443, (by decide : 11 + 2 ≤ _), (by decide : 136 + 20 ≤ _)⟩)
  dsimp only [Pt.U, Pt.locs, Pt.cells, Pt.slots] at X1469 l1469 y1469 z1469 st1469 hQ1469
  subst l1469 y1469 z1469
  obtain ⟨bd1469, vb1469, kb1469, rfl, N1469q, K1469, ⟨ge_bd1469, gqq_bd1469⟩, ⟨ge_vb1469, gqq_vb1469⟩, o1469_0, o1469_1, o1469_2, o1469_3, o1469_4, o1469_5, o1469_6, o1469_7, o1469_8, o1469_9⟩ := hQ1469
  have N1469 := Fr.app N1433 N1469q
  have ne1470 : r1360 ≠ bd1469 := Nat.ne_of_lt (Nat.lt_of_lt_of_le x1457.lt gqq_bd1469)
  have ne1471 : r1363 ≠ bd1469 := Nat.ne_of_lt (Nat.lt_of_lt_of_le x1466.lt gqq_bd1469)
  have ne1472 : r1368 ≠ bd1469 := Nat.ne_of_lt (Nat.lt_of_lt_of_le x1451.lt gqq_bd1469)
  have ne1473 : b1376 ≠ bd1469 := Nat.ne_of_lt (Nat.lt_of_lt_of_le x1453.lt gqq_bd1469)
  have ne1474 : bd1387 ≠ bd1469 := Nat.ne_of_lt (Nat.lt_of_lt_of_le x1456.lt gqq_bd1469)
  have ne1475 : vb1387 ≠ bd1469 := Nat.ne_of_lt (Nat.lt_of_lt_of_le x1465.lt gqq_bd1469)
  have ne1476 : b1443 ≠ bd1469 := Nat.ne_of_lt (Nat.lt_of_lt_of_le A1443.lt gqq_bd1469)
  have sf_bd1469 := own_safe_at hC gqq_bd1469
  have ne1477 : r1360 ≠ vb1469 := Nat.ne_of_lt (Nat.lt_of_lt_of_le x1457.lt gqq_vb1469)
  have ne1478 : r1363 ≠ vb1469 := Nat.ne_of_lt (Nat.lt_of_lt_of_le x1466.lt gqq_vb1469)
  have ne1479 : r1368 ≠ vb1469 := Nat.ne_of_lt (Nat.lt_of_lt_of_le x1451.lt gqq_vb1469)
  have ne1480 : b1376 ≠ vb1469 := Nat.ne_of_lt (Nat.lt_of_lt_of_le x1453.lt gqq_vb1469)
  have ne1481 : bd1387 ≠ vb1469 := Nat.ne_of_lt (Nat.lt_of_lt_of_le x1456.lt gqq_vb1469)
  have ne1482 : vb1387 ≠ vb1469 := Nat.ne_of_lt (Nat.lt_of_lt_of_le x1465.lt gqq_vb1469)
  have ne1483 : b1443 ≠ vb1469 := Nat.ne_of_lt (Nat.lt_of_lt_of_le A1443.lt gqq_vb1469)
  have sf_vb1469 := own_safe_at hC gqq_vb1469
  have x1484 := x1450.keep K1469 (allS ge_b1443 all0)
  have x1485 := x1451.keep K1469 (ninS ne1446 nin0)
  have x1486 := Safe.keep K1469 (sfS x1467 sf0) hC.1 x1452
  have x1487 := x1453.keep K1469
  have x1488 := Safe.keep K1469 (sfS x1467 sf0) hC.1 x1454
  have x1489 := Safe.keep K1469 (sfS x1467 sf0) hC.1 x1455
  have x1490 := x1456.keep K1469
  have x1491 := x1457.keep K1469 (ninS ne1444 nin0)
  have x1492 := x1458.keep K1469 (ninS ne1447 nin0)
  have x1493 := x1459.keep K1469 (ninS ne1447 nin0)
  have x1494 := x1460.keep K1469 (ninS ne1447 nin0)
  have x1495 := x1461.keep K1469 (ninS ne1447 nin0)
  have x1496 := x1462.keep K1469 (ninS ne1448 nin0)
  have x1497 := x1463.keep K1469 (ninS ne1448 nin0)
  have x1498 := x1464.keep K1469 (ninS ne1448 nin0)
  have x1499 := x1465.keep K1469 (ninS ne1449 nin0)
  have x1500 := x1466.keep K1469 (ninS ne1445 nin0)
  have x1501 := Safe.keep K1469 (sfS x1467 sf0) hC.1 x1467
  have x1502 := A1443.keep K1469
  have x1503 := Safe.keep K1469 (sfS x1467 sf0) hC.1 sf_bd1469
  have x1504 := Safe.keep K1469 (sfS x1467 sf0) hC.1 sf_vb1469
  have sz1505 : n0 ≤ T1469.heap.size := Nat.le_trans sz1468 K1469.1
  have hkS := Nat.le_trans hkS K1469.1
  have hC := hC.trans (CHr.keep K1469 (sfS x1467 sf0) hC.1)
  have cp1506 : ∀ target, own_S p e below T1469 (mkF m 98 (own_loc12 q0 p1 p2 q3 p4 r1360 r1363 r1368 b1376 b1443) [.int 24, .int 0, (.ref r1368), (.ref b1443)]) target → own_S p e below s₁ (mkF m 0 (own_loc4 q0 p1 p2 q3 p4) []) target := by
    intro target kt
    show own_S p e below s₁ (mkF m 0 (own_loc4 q0 p1 p2 q3 p4) []) _
    refine cp1431 _ (st1432.trans (XS.istore X1432.here hx rfl (hb hby at_70) rfl (l' := (own_loc11 q0 p1 p2 q3 p4 r1360 r1363 r1368 b1376)) rfl (XS.aload X1432.here hx rfl (hb hby at_72) rfl rfl (XS.aload X1432.here hx rfl (hb hby at_74) rfl rfl (XS.iconst X1432.here hx rfl (hb hby at_76) (XS.bipush X1432.here hx rfl (hb hby at_77) (st1433.trans (st1443 _ (XS.dup X1443.here hx rfl (hb hby at_85) rfl rfl ?_)))))))))
    refine st1469.trans (XS.astore X1469.here hx rfl (hb hby at_89) rfl rfl (l' := (own_loc12 q0 p1 p2 q3 p4 r1360 r1363 r1368 b1376 b1443)) rfl (XS.aload X1469.here hx rfl (hb hby at_91) rfl rfl (XS.aload X1469.here hx rfl (hb hby at_93) rfl rfl (XS.iconst X1469.here hx rfl (hb hby at_95) (XS.bipush X1469.here hx rfl (hb hby at_96) ?_)))))
    exact kt
  obtain ⟨cq1507, kq1507, q1507a, q1507b, q1507c⟩ := isOf hZ rfl x1502
  obtain ⟨_, _, ⟨T1507, L1507, k1507, n1507⟩, -, X1507, hS2_1507, hg2_1507, ⟨Lc1507, hQ1507, l1507, y1507, z1507, hCs1507⟩, st1507⟩ := X1469.virtualBackS hx (y := (⟨"com/example/needle_in_json/needleinjson/MaskedDigits", "mask", "([CII)V"⟩ : MethodName)) (z := (⟨"com/example/needle_in_json/needleinjson/MaskedDigits", "mask", "([CII)V"⟩ : MethodName)) hown (mvT hZ (own_wk hw 50 rfl)) (mvT hZ (own_wk hw 51 rfl)) (notFace_of_selects (args := #[]) (mvT hZ (own_wk hw 53 rfl))) (mvT hZ (own_wk hw 53 rfl)) (mvT hZ (own_wk hw 52 rfl)) (by decide) (own_backSL (W := 0) (rm9 l Z ag hw [] b1443 r1368 (24 : Int32) bd1469 vb1469 kr1368 kb1469 (24 : Int32) (own_g (0 : Int32) (own_suffix q3 p4) (List.replicate 16 (.int (0 : Int32)))) cs gf (0) T1469.heap n0 sz1505 (show own_F Z T1469.heap b1443 r1368 bd1469 vb1469 kr1368 kb1469 (24 : Int32) (own_g (0 : Int32) (own_suffix q3 p4) (List.replicate 16 (.int (0 : Int32)))) from ⟨x1502, o1469_0, o1469_1, o1469_2, o1469_3, o1469_4, o1469_5, o1469_6, o1469_7, o1469_8, x1485⟩) ⟨(Ne.symm ne1446), ne1476, ne1483, ne1472, ne1479, o1469_9⟩ ⟨ge_b1443, ge_r1368, ge_bd1469, ge_vb1469⟩ x1484 S_cs hcs S_gf rv_gf ⟨by decide, by decide, by decide, by decide⟩ (own_J0 rfl (own_suffix_len _ _) (List.length_replicate ..)) (by decide)) hZ (own_wk hw 54 rfl) (own_wk hw 19 rfl) (by decide) (by decide) hEL hC.1 o1469_8.lt x1504) q1507a q1507c (g := (mkF m 98 (own_loc12 q0 p1 p2 q3 p4 r1360 r1363 r1368 b1376 b1443) [.int 24, .int 0, (.ref r1368), (.ref b1443)])) rfl (by rw [hml]; rfl) (Steps.refl _) (argsL := [(.ref r1368), (.int (0 : Int32)), (.int (24 : Int32))]) (rest := []) (lenOf pd_20 rfl) rfl (by show 2 * 0 + _ ≤ _; exact Nat.le_of_eq rfl) (hb hby at_98) (fun _ _ => ⟨rfl, rfl, (by decide : 13 + 2 ≤ _), (by decide : 156 + 20 ≤ _)⟩)
  dsimp only [Pt.U, Pt.locs, Pt.cells, Pt.slots] at X1507 l1507 y1507 z1507 st1507 hQ1507 hS2_1507 hg2_1507 hCs1507
  subst l1507 y1507 z1507
  obtain ⟨X1507, hS, hZ, hown⟩ := rebS hS hkS X1507 hS2_1507 hg2_1507 hZ hown
  obtain ⟨rfl, N1507q, K1507, F1507, J3⟩ := hQ1507.1
  have N1507 := Fr.app N1469 N1507q
  have F1507 : own_F Z T1507.heap b1443 r1368 bd1469 vb1469 kr1368 kb1469 (24 : Int32) (own_G3 q3 p4) := F1507
  have J3 : own_J ((24 : Int32)).toNatClampNeg (0) 24 (own_G3 q3 p4) := J3
  have x1508 := x1484.keep K1507 (allS ge_b1443 (allS ge_r1368 (allS ge_bd1469 (allS ge_vb1469 all0))))
  have x1509 := hCs1507.safe x1487.lt x1486
  have x1510 := x1487.keep K1507
  have x1511 := hCs1507.safe x1490.lt x1488
  have x1512 := hCs1507.safe x1499.lt x1489
  have x1513 := x1490.keep K1507
  have x1514 := x1491.keep K1507 (ninS ne1444 (ninS ne1369 (ninS ne1470 (ninS ne1477 nin0))))
  have x1515 := x1492.keep K1507 (ninS ne1447 (ninS (Ne.symm ne1379) (ninS ne1473 (ninS ne1480 nin0))))
  have x1516 := x1493.keep K1507 (ninS ne1447 (ninS (Ne.symm ne1379) (ninS ne1473 (ninS ne1480 nin0))))
  have x1517 := x1494.keep K1507 (ninS ne1447 (ninS (Ne.symm ne1379) (ninS ne1473 (ninS ne1480 nin0))))
  have x1518 := x1495.keep K1507 (ninS ne1447 (ninS (Ne.symm ne1379) (ninS ne1473 (ninS ne1480 nin0))))
  have x1519 := x1496.keep K1507 (ninS ne1448 (ninS (Ne.symm ne1390) (ninS ne1474 (ninS ne1481 nin0))))
  have x1520 := x1497.keep K1507 (ninS ne1448 (ninS (Ne.symm ne1390) (ninS ne1474 (ninS ne1481 nin0))))
  have x1521 := x1498.keep K1507 (ninS ne1448 (ninS (Ne.symm ne1390) (ninS ne1474 (ninS ne1481 nin0))))
  have x1522 := x1499.keep K1507 (ninS ne1449 (ninS (Ne.symm ne1394) (ninS ne1475 (ninS ne1482 nin0))))
  have x1523 := x1500.keep K1507 (ninS ne1445 (ninS ne1370 (ninS ne1471 (ninS ne1478 nin0))))
  have x1524 := hCs1507.safe x1502.lt x1501
  have x1525 := x1502.keep K1507
  have x1526 := hCs1507.safe o1469_4.lt x1503
  have x1527 := hCs1507.safe o1469_8.lt x1504
  have x1528 := o1469_4.keep K1507
  have sz1529 : n0 ≤ T1507.heap.size := Nat.le_trans sz1505 K1507.1
  have hkS := Nat.le_trans hkS K1507.1
  have hC := hC.trans hCs1507
  obtain ⟨m1507_0, m1507_1, m1507_2, m1507_3, m1507_4, m1507_5, m1507_6, m1507_7, m1507_8, m1507_9, m1507_10⟩ := id F1507
  have hkS : T1507.heap.size ≤ T1507.heap.size := Nat.le_refl _
  have hsim := own_simG q0 p1 p2 q3 p4
  obtain ⟨f1, f2, f3⟩ := own_fin3 J1 J3 hsim
  obtain ⟨c2, hc2⟩ : ∃ z, z = (own_G2 q0 p1 p2 q3 p4).2.2.2.2.1 := ⟨_, rfl⟩
  have Vc2 : Arv Z T1507.heap r1363 kr1363 .char (24 : Int32) (c2.map Value.int) (.int (0 : Int32)) := by rw [hc2]; exact x1523
  have hlc2 : c2.length = 24 := by rw [hc2]; exact own_J.len J2 (by decide)
  obtain ⟨c3, hc3⟩ : ∃ z, z = (own_G3 q3 p4).2.2.2.2.1 := ⟨_, rfl⟩
  have Vc3 : Arv Z T1507.heap r1368 kr1368 .char (24 : Int32) (c3.map Value.int) (.int (0 : Int32)) := by rw [hc3]; exact m1507_10
  have hlc3 : c3.length = 24 := by rw [hc3]; exact own_J.len J3 (by decide)
  obtain ⟨n2, hn2⟩ : ∃ z, z = (own_G2 q0 p1 p2 q3 p4).2.2.2.1 := ⟨_, rfl⟩
  have Fn2 : Fld Z T1507.heap bd1387 "java/lang/AbstractStringBuilder" "count" "I" (.int n2) := by rw [hn2]; exact x1521
  obtain ⟨n3, hn3⟩ : ∃ z, z = (own_G3 q3 p4).2.2.2.1 := ⟨_, rfl⟩
  have Fn3 : Fld Z T1507.heap bd1469 "java/lang/AbstractStringBuilder" "count" "I" (.int n3) := by rw [hn3]; exact m1507_8
  rw [← hn2] at f1
  rw [← hn2, ← hn3] at f2 f3
  clear hn2 hn3
  have hcq : c2 = c3 := by rw [hc2, hc3]; exact own_sim.chars hsim
  have hpc3 : ∀ c ∈ c3, ¬ c < 0 ∧ ¬ (255 : Int32) < c := own_R.mem (own_R3 q3 p4) hc3
  have hpc2 : ∀ c ∈ c2, ¬ c < 0 ∧ ¬ (255 : Int32) < c := by rw [hcq]; exact hpc3
  clear hc2 hc3
  have hws : ∀ d ∈ StrChars.Road.words, d.before ag Z = true := fun d hd => hw d ((by decide +kernel : ∀ d ∈ StrChars.Road.words, d ∈ tables_1) d hd)
  have heq : ∀ d ∈ StrChars.Road.wordsEq, d.before ag Z = true := fun d hd => hw d ((by decide +kernel : ∀ d ∈ StrChars.Road.wordsEq, d ∈ tables_1) d hd)
  obtain ⟨T1530, h1530, X1530, e1530, E1530, A1530, D1530, -, st1530⟩ := newO X1507 hx hZ hown (own_wk hw 132 rfl) (own_wk hw 133 rfl) (own_wk hw 40 rfl) rfl (g := (mkF m 108 (own_loc12 q0 p1 p2 q3 p4 r1360 r1363 r1368 b1376 b1443) [])) rfl (hb hby at_108) (by decide) (by decide)
  obtain ⟨b1530, g1530⟩ : ∃ z, z = T1507.heap.size := ⟨_, rfl⟩
  have ne1531 : r1363 ≠ b1530 := Nat.ne_of_lt (Nat.lt_of_lt_of_le Vc2.lt (Nat.le_of_eq g1530.symm))
  have ne1532 : r1368 ≠ b1530 := Nat.ne_of_lt (Nat.lt_of_lt_of_le Vc3.lt (Nat.le_of_eq g1530.symm))
  have ne1533 : b1376 ≠ b1530 := Nat.ne_of_lt (Nat.lt_of_lt_of_le x1510.lt (Nat.le_of_eq g1530.symm))
  have ne1534 : bd1387 ≠ b1530 := Nat.ne_of_lt (Nat.lt_of_lt_of_le x1513.lt (Nat.le_of_eq g1530.symm))
  have ne1535 : b1443 ≠ b1530 := Nat.ne_of_lt (Nat.lt_of_lt_of_le m1507_0.lt (Nat.le_of_eq g1530.symm))
  have ne1536 : bd1469 ≠ b1530 := Nat.ne_of_lt (Nat.lt_of_lt_of_le m1507_5.lt (Nat.le_of_eq g1530.symm))
  have ge_b1530 : n0 ≤ b1530 := Nat.le_trans sz1529 (Nat.le_of_eq g1530.symm)
  have sf_b1530 := own_safe_at hC (Nat.le_of_eq g1530.symm)
  rw [← g1530] at A1530 D1530 st1530
  have x1537 := x1508.ext E1530
  have x1538 := x1510.ext E1530
  have x1539 := x1513.ext E1530
  have x1540 := x1518.ext E1530
  have x1541 := Fn2.ext E1530
  have x1542 := Vc2.ext E1530
  have x1543 := m1507_0.ext E1530
  have x1544 := m1507_5.ext E1530
  have x1545 := m1507_4.ext E1530
  have x1546 := Fn3.ext E1530
  have x1547 := Vc3.ext E1530
  have x1548 := Safe.ext E1530 hC.1 sf_b1530
  have sz1549 : n0 ≤ h1530.size := Nat.le_trans sz1529 E1530.1
  have hkS := Nat.le_trans hkS E1530.1
  have hC := hC.trans (CHr.ext E1530 hC.1)
  have F1530_coder : Fld Z h1530 b1530 "java/lang/String" "coder" "B" (.int (0 : Int32)) := D1530 (Or.inr (own_wk hw 154 rfl)) (ty := .byte) (by decide)
  have F1530_value : Fld Z h1530 b1530 "java/lang/String" "value" "[B" .null := D1530 (Or.inr (own_wk hw 156 rfl)) (ty := (.array .byte)) (by decide)
  obtain ⟨_, _, ⟨T1550, L1550, k1550, n1550⟩, -, X1550, ⟨Lc1550, hQ1550, l1550, y1550, z1550⟩, st1550⟩ := X1530.specialBack hx (y := (⟨"java/lang/String", "<init>", "([C)V"⟩ : MethodName)) rfl hown (mvT hZ (own_wk hw 134 rfl)) (mvT hZ (own_wk hw 135 rfl)) (mvT hZ (own_wk hw 136 rfl)) (by decide) (StrChars.Road.backV (W := 1) hZ hws (kI := 4) (own_wk hw 133 rfl) (cs := c2) (bs := (c2.map (fun c => c.toInt8.toInt32))) (n := 24) ge_b1530 sz1549 A1530 F1530_value F1530_coder x1542 (Sta.ext x1537.2 S_cs) hcs hlc2 rfl (by decide) (by decide) hpc2 rfl (by decide) (by decide)) (g := (mkF m 114 (own_loc12 q0 p1 p2 q3 p4 r1360 r1363 r1368 b1376 b1443) [(.ref r1363), (.ref b1530), (.ref b1530)])) rfl (by rw [hml]; rfl) (Steps.refl _) (a := b1530) (argsL := [(.ref r1363)]) (rest := [(.ref b1530)]) (lenOf pd_18 rfl) rfl (by show 2 * 0 + _ ≤ _; exact Nat.le_of_eq rfl) (hb hby at_114) (fun _ _ => ⟨rfl, e1530, (by decide : 16 + 1 ≤ _), (by decide : 180 + 24 ≤ _)⟩)
  dsimp only [Pt.U, Pt.locs, Pt.cells, Pt.slots] at X1550 l1550 y1550 z1550 st1550 hQ1550
  subst l1550 y1550 z1550
  obtain ⟨rfl, N1550q, K1550, Ex1550, Fc1550, t1550, kt1550, ge_t1550, gqq_t1550, nt1550, Fv1550, Vt1550⟩ := hQ1550
  have N1550 := Fr.app N1507 N1550q
  have ne1551 : r1363 ≠ t1550 := Nat.ne_of_lt (Nat.lt_of_lt_of_le x1542.lt gqq_t1550)
  have ne1552 : r1368 ≠ t1550 := Nat.ne_of_lt (Nat.lt_of_lt_of_le x1547.lt gqq_t1550)
  have ne1553 : b1376 ≠ t1550 := Nat.ne_of_lt (Nat.lt_of_lt_of_le x1538.lt gqq_t1550)
  have ne1554 : bd1387 ≠ t1550 := Nat.ne_of_lt (Nat.lt_of_lt_of_le x1539.lt gqq_t1550)
  have ne1555 : b1443 ≠ t1550 := Nat.ne_of_lt (Nat.lt_of_lt_of_le x1543.lt gqq_t1550)
  have ne1556 : bd1469 ≠ t1550 := Nat.ne_of_lt (Nat.lt_of_lt_of_le x1544.lt gqq_t1550)
  have ne1557 : b1530 ≠ t1550 := Nat.ne_of_lt (Nat.lt_of_lt_of_le A1530.lt gqq_t1550)
  have x1558 := x1537.keep K1550 (allS ge_b1530 all0)
  have x1559 := x1538.keep K1550
  have x1560 := x1539.keep K1550
  have x1561 := x1540.keep K1550 (ninS ne1533 nin0)
  have x1562 := x1541.keep K1550 (ninS ne1534 nin0)
  have x1563 := x1542.keep K1550 (ninS ne1531 nin0)
  have x1564 := x1543.keep K1550
  have x1565 := x1544.keep K1550
  have x1566 := x1545.keep K1550 (ninS ne1535 nin0)
  have x1567 := x1546.keep K1550 (ninS ne1536 nin0)
  have x1568 := x1547.keep K1550 (ninS ne1532 nin0)
  have x1569 := Safe.keep K1550 (sfS x1548 sf0) hC.1 x1548
  have x1570 := A1530.keep K1550
  have sz1571 : n0 ≤ T1550.heap.size := Nat.le_trans sz1549 K1550.1
  have hkS := Nat.le_trans hkS K1550.1
  have hC := hC.trans (CHr.keep K1550 (sfS x1548 sf0) hC.1)
  obtain ⟨T1572, h1572, X1572, e1572, E1572, A1572, D1572, -, st1572⟩ := newO X1550 hx hZ hown (own_wk hw 132 rfl) (own_wk hw 133 rfl) (own_wk hw 40 rfl) rfl (g := (mkF m 117 (own_loc12 q0 p1 p2 q3 p4 r1360 r1363 r1368 b1376 b1443) [(.ref b1530)])) rfl (hb hby at_117) (by decide) (by decide)
  obtain ⟨b1572, g1572⟩ : ∃ z, z = T1550.heap.size := ⟨_, rfl⟩
  have ne1573 : r1363 ≠ b1572 := Nat.ne_of_lt (Nat.lt_of_lt_of_le x1563.lt (Nat.le_of_eq g1572.symm))
  have ne1574 : r1368 ≠ b1572 := Nat.ne_of_lt (Nat.lt_of_lt_of_le x1568.lt (Nat.le_of_eq g1572.symm))
  have ne1575 : b1376 ≠ b1572 := Nat.ne_of_lt (Nat.lt_of_lt_of_le x1559.lt (Nat.le_of_eq g1572.symm))
  have ne1576 : bd1387 ≠ b1572 := Nat.ne_of_lt (Nat.lt_of_lt_of_le x1560.lt (Nat.le_of_eq g1572.symm))
  have ne1577 : b1443 ≠ b1572 := Nat.ne_of_lt (Nat.lt_of_lt_of_le x1564.lt (Nat.le_of_eq g1572.symm))
  have ne1578 : bd1469 ≠ b1572 := Nat.ne_of_lt (Nat.lt_of_lt_of_le x1565.lt (Nat.le_of_eq g1572.symm))
  have ne1579 : b1530 ≠ b1572 := Nat.ne_of_lt (Nat.lt_of_lt_of_le Ex1550.lt (Nat.le_of_eq g1572.symm))
  have ne1580 : t1550 ≠ b1572 := Nat.ne_of_lt (Nat.lt_of_lt_of_le Vt1550.lt (Nat.le_of_eq g1572.symm))
  have ge_b1572 : n0 ≤ b1572 := Nat.le_trans sz1571 (Nat.le_of_eq g1572.symm)
  have sf_b1572 := own_safe_at hC (Nat.le_of_eq g1572.symm)
  rw [← g1572] at A1572 D1572 st1572
  have x1581 := x1558.ext E1572
  have x1582 := x1559.ext E1572
  have x1583 := x1560.ext E1572
  have x1584 := x1561.ext E1572
  have x1585 := x1562.ext E1572
  have x1586 := x1563.ext E1572
  have x1587 := x1564.ext E1572
  have x1588 := x1565.ext E1572
  have x1589 := x1566.ext E1572
  have x1590 := x1567.ext E1572
  have x1591 := x1568.ext E1572
  have x1592 := Safe.ext E1572 hC.1 x1569
  have x1593 := Ex1550.ext E1572
  have x1594 := Fc1550.ext E1572
  have x1595 := Fv1550.ext E1572
  have x1596 := Vt1550.ext E1572
  have x1597 := Safe.ext E1572 hC.1 sf_b1572
  have sz1598 : n0 ≤ h1572.size := Nat.le_trans sz1571 E1572.1
  have hkS := Nat.le_trans hkS E1572.1
  have hC := hC.trans (CHr.ext E1572 hC.1)
  have F1572_coder : Fld Z h1572 b1572 "java/lang/String" "coder" "B" (.int (0 : Int32)) := D1572 (Or.inr (own_wk hw 154 rfl)) (ty := .byte) (by decide)
  have F1572_value : Fld Z h1572 b1572 "java/lang/String" "value" "[B" .null := D1572 (Or.inr (own_wk hw 156 rfl)) (ty := (.array .byte)) (by decide)
  obtain ⟨_, _, ⟨T1599, L1599, k1599, n1599⟩, -, X1599, ⟨Lc1599, hQ1599, l1599, y1599, z1599⟩, st1599⟩ := X1572.specialBack hx (y := (⟨"java/lang/String", "<init>", "([C)V"⟩ : MethodName)) rfl hown (mvT hZ (own_wk hw 134 rfl)) (mvT hZ (own_wk hw 135 rfl)) (mvT hZ (own_wk hw 136 rfl)) (by decide) (StrChars.Road.backV (W := 2) hZ hws (kI := 4) (own_wk hw 133 rfl) (cs := c3) (bs := (c3.map (fun c => c.toInt8.toInt32))) (n := 24) ge_b1572 sz1598 A1572 F1572_value F1572_coder x1591 (Sta.ext x1581.2 S_cs) hcs hlc3 rfl (by decide) (by decide) hpc3 rfl (by decide) (by decide)) (g := (mkF m 123 (own_loc12 q0 p1 p2 q3 p4 r1360 r1363 r1368 b1376 b1443) [(.ref r1368), (.ref b1572), (.ref b1572), (.ref b1530)])) rfl (by rw [hml]; rfl) (Steps.refl _) (a := b1572) (argsL := [(.ref r1368)]) (rest := [(.ref b1572), (.ref b1530)]) (lenOf pd_18 rfl) rfl (by show 2 * 0 + _ ≤ _; exact Nat.le_of_eq rfl) (hb hby at_123) (fun _ _ => ⟨rfl, e1572, (by decide : 18 + 1 ≤ _), (by decide : 208 + 24 ≤ _)⟩)
  dsimp only [Pt.U, Pt.locs, Pt.cells, Pt.slots] at X1599 l1599 y1599 z1599 st1599 hQ1599
  subst l1599 y1599 z1599
  obtain ⟨rfl, N1599q, K1599, Ex1599, Fc1599, t1599, kt1599, ge_t1599, gqq_t1599, nt1599, Fv1599, Vt1599⟩ := hQ1599
  have N1599 := Fr.app N1550 N1599q
  have ne1600 : r1363 ≠ t1599 := Nat.ne_of_lt (Nat.lt_of_lt_of_le x1586.lt gqq_t1599)
  have ne1601 : r1368 ≠ t1599 := Nat.ne_of_lt (Nat.lt_of_lt_of_le x1591.lt gqq_t1599)
  have ne1602 : b1376 ≠ t1599 := Nat.ne_of_lt (Nat.lt_of_lt_of_le x1582.lt gqq_t1599)
  have ne1603 : bd1387 ≠ t1599 := Nat.ne_of_lt (Nat.lt_of_lt_of_le x1583.lt gqq_t1599)
  have ne1604 : b1443 ≠ t1599 := Nat.ne_of_lt (Nat.lt_of_lt_of_le x1587.lt gqq_t1599)
  have ne1605 : bd1469 ≠ t1599 := Nat.ne_of_lt (Nat.lt_of_lt_of_le x1588.lt gqq_t1599)
  have ne1606 : b1530 ≠ t1599 := Nat.ne_of_lt (Nat.lt_of_lt_of_le x1593.lt gqq_t1599)
  have ne1607 : t1550 ≠ t1599 := Nat.ne_of_lt (Nat.lt_of_lt_of_le x1596.lt gqq_t1599)
  have ne1608 : b1572 ≠ t1599 := Nat.ne_of_lt (Nat.lt_of_lt_of_le A1572.lt gqq_t1599)
  have x1609 := x1581.keep K1599 (allS ge_b1572 all0)
  have x1610 := x1582.keep K1599
  have x1611 := x1583.keep K1599
  have x1612 := x1584.keep K1599 (ninS ne1575 nin0)
  have x1613 := x1585.keep K1599 (ninS ne1576 nin0)
  have x1614 := x1586.keep K1599 (ninS ne1573 nin0)
  have x1615 := x1587.keep K1599
  have x1616 := x1588.keep K1599
  have x1617 := x1589.keep K1599 (ninS ne1577 nin0)
  have x1618 := x1590.keep K1599 (ninS ne1578 nin0)
  have x1619 := x1591.keep K1599 (ninS ne1574 nin0)
  have x1620 := Safe.keep K1599 (sfS x1597 sf0) hC.1 x1592
  have x1621 := x1593.keep K1599
  have x1622 := x1594.keep K1599 (ninS ne1579 nin0)
  have x1623 := x1595.keep K1599 (ninS ne1579 nin0)
  have x1624 := x1596.keep K1599 (ninS ne1580 nin0)
  have x1625 := Safe.keep K1599 (sfS x1597 sf0) hC.1 x1597
  have x1626 := A1572.keep K1599
  have sz1627 : n0 ≤ T1599.heap.size := Nat.le_trans sz1598 K1599.1
  have hkS := Nat.le_trans hkS K1599.1
  have hC := hC.trans (CHr.keep K1599 (sfS x1597 sf0) hC.1)
  obtain ⟨cq1628, kq1628, q1628a, q1628b, q1628c⟩ := isOf hZ rfl x1621
  obtain ⟨_, _, ⟨T1628, L1628, k1628, n1628⟩, -, X1628, ⟨Lc1628, hQ1628, l1628, y1628, z1628⟩, st1628⟩ := X1599.virtualBack hx (y := (⟨"java/lang/String", "equals", "(Ljava/lang/Object;)Z"⟩ : MethodName)) (z := (⟨"java/lang/String", "equals", "(Ljava/lang/Object;)Z"⟩ : MethodName)) hown (mvT hZ (own_wk hw 157 rfl)) (mvT hZ (own_wk hw 158 rfl)) (notFace_of_selects (args := #[]) (mvT hZ (own_wk hw 160 rfl))) (mvT hZ (own_wk hw 160 rfl)) (mvT hZ (own_wk hw 159 rfl)) (by decide) (StrChars.Road.eqW (W := 0) hZ heq (kI := 4) (own_wk hw 133 rfl) (cs := c2) (ds := c3) x1621 x1623 x1622 x1624 (StrChars.Road.codOf (n := 24) hlc2 (fun c hc => (hpc2 c hc).2)) (own_up _ hpc2) (by rw [hlc2]; decide) Ex1599 Fv1599 Fc1599 Vt1599 (StrChars.Road.codOf (n := 24) hlc3 (fun c hc => (hpc3 c hc).2)) (own_up _ hpc3) (by rw [hlc3]; decide) (Sta.ext x1609.2 S_cs) hcs (by decide) (by decide)) q1628a q1628c (g := (mkF m 126 (own_loc12 q0 p1 p2 q3 p4 r1360 r1363 r1368 b1376 b1443) [(.ref b1572), (.ref b1530)])) rfl (by rw [hml]; rfl) (Steps.refl _) (argsL := [(.ref b1572)]) (rest := []) (lenOf pd_14 rfl) rfl (by show 2 * 0 + _ ≤ _; exact Nat.le_of_eq rfl) (hb hby at_126) (fun _ _ => ⟨rfl, rfl, (by decide : 19 + 0 ≤ _), (by decide : 232 + 0 ≤ _)⟩)
  dsimp only [Pt.U, Pt.locs, Pt.cells, Pt.slots] at X1628 l1628 y1628 z1628 st1628 hQ1628
  subst l1628 y1628 z1628
  obtain ⟨hcase1628, rfl, e1628⟩ := hQ1628
  have hv1628 : _ = some (Value.int (1 : Int32)) := hcase1628.elim (fun q => q.1) (fun q => absurd hcq q.2)
  subst hv1628
  have N1628 := Fr.app N1599 (Fr.nil n0)
  have cp1629 : ∀ target, own_S p e below T1628 (mkF m 134 (own_loc12 q0 p1 p2 q3 p4 r1360 r1363 r1368 b1376 b1443) [(.ref b1376)]) target → own_S p e below s₁ (mkF m 0 (own_loc4 q0 p1 p2 q3 p4) []) target := by
    intro target kt
    show own_S p e below s₁ (mkF m 0 (own_loc4 q0 p1 p2 q3 p4) []) _
    refine cp1506 _ (st1507.trans (XS.iload X1507.here hx rfl (hb hby at_101) rfl (XS.iload X1507.here hx rfl (hb hby at_103) rfl (XS.icmpNo X1507.here hx rfl (hb hby at_105) rfl (teq (rfl : (own_holds (own_G1 q0 p1 p2).2.2.2.1) = (own_holds (own_G1 q0 p1 p2).2.2.2.1))).2 (st1530 _ (XS.dup X1530.here hx rfl (hb hby at_111) rfl rfl (XS.aload X1530.here hx rfl (hb hby at_112) rfl rfl (st1550.trans (st1572 _ ?_)))))))))
    refine XS.dup X1572.here hx rfl (hb hby at_120) rfl rfl (XS.aload X1572.here hx rfl (hb hby at_121) rfl rfl (st1599.trans (st1628.trans ?_)))
    show own_S p e below T1628 (mkF m 129 (own_loc12 q0 p1 p2 q3 p4 r1360 r1363 r1368 b1376 b1443) [.int 1]) _
    refine XS.ifNo X1628.here hx rfl (hb hby at_129) rfl ((if0 _ _).trans (feq (by decide : ¬ ((1 : Int32) = (0 : Int32)))).1) (XS.aload X1628.here hx rfl (hb hby at_132) rfl rfl ?_)
    exact kt
  obtain ⟨cq1630, kq1630, q1630a, q1630b, q1630c⟩ := isOf hZ e1628 x1610
  obtain ⟨_, _, ⟨T1630, L1630, k1630, n1630⟩, -, X1630, ⟨Lc1630, hQ1630, l1630, y1630, z1630⟩, st1630⟩ := X1628.virtualBack hx (y := (⟨"com/example/needle_in_json/needleinjson/MaskedDigits", "holdsDigits", "()Z"⟩ : MethodName)) (z := (⟨"com/example/needle_in_json/needleinjson/MaskedDigits", "holdsDigits", "()Z"⟩ : MethodName)) hown (mvT hZ (own_wk hw 74 rfl)) (mvT hZ (own_wk hw 75 rfl)) (notFace_of_selects (args := #[]) (mvT hZ (own_wk hw 77 rfl))) (mvT hZ (own_wk hw 77 rfl)) (mvT hZ (own_wk hw 76 rfl)) (by decide) (backOf (W := 0) (rm15 l Z ag hw [] b1376 bd1387 n2 T1599.heap n0 sz1627 x1612 x1611 x1613) hZ (own_wk hw 78 rfl) (own_wk hw 19 rfl) (by decide) (by decide)) q1630a q1630c (g := (mkF m 134 (own_loc12 q0 p1 p2 q3 p4 r1360 r1363 r1368 b1376 b1443) [(.ref b1376)])) rfl (by rw [hml]; rfl) (Steps.refl _) (argsL := []) (rest := []) (lenOf pd_3 rfl) rfl (by show 2 * 0 + _ ≤ _; exact Nat.le_of_eq rfl) (hb hby at_134) (fun _ _ => ⟨rfl, e1628, (by decide : 19 + 0 ≤ _), (by decide : 232 + 0 ≤ _)⟩)
  dsimp only [Pt.U, Pt.locs, Pt.cells, Pt.slots] at X1630 l1630 y1630 z1630 st1630 hQ1630
  subst l1630 y1630 z1630
  obtain ⟨rfl, N1630q, e1630⟩ := hQ1630
  have N1630 := Fr.app N1628 N1630q
  have cp1632 : ∀ target, own_S p e below T1630 (mkF m 139 (own_loc12 q0 p1 p2 q3 p4 r1360 r1363 r1368 b1376 b1443) [(.int (own_holds (own_G1 q0 p1 p2).2.2.2.1)), (.int (own_holds n2))]) target → own_S p e below s₁ (mkF m 0 (own_loc4 q0 p1 p2 q3 p4) []) target := by
    intro target kt
    show own_S p e below s₁ (mkF m 0 (own_loc4 q0 p1 p2 q3 p4) []) _
    refine cp1629 _ (st1630.trans (XS.iload X1630.here hx rfl (hb hby at_137) rfl ?_))
    exact kt
  by_cases hc1631 : (own_holds (own_G1 q0 p1 p2).2.2.2.1) = (0 : Int32)
  · obtain ⟨cq1633, kq1633, q1633a, q1633b, q1633c⟩ := isOf hZ e1630 x1615
    obtain ⟨_, _, ⟨T1633, L1633, k1633, n1633⟩, -, X1633, ⟨Lc1633, hQ1633, l1633, y1633, z1633⟩, st1633⟩ := X1630.virtualBack hx (y := (⟨"com/example/needle_in_json/needleinjson/MaskedDigits", "holdsDigits", "()Z"⟩ : MethodName)) (z := (⟨"com/example/needle_in_json/needleinjson/MaskedDigits", "holdsDigits", "()Z"⟩ : MethodName)) hown (mvT hZ (own_wk hw 74 rfl)) (mvT hZ (own_wk hw 75 rfl)) (notFace_of_selects (args := #[]) (mvT hZ (own_wk hw 77 rfl))) (mvT hZ (own_wk hw 77 rfl)) (mvT hZ (own_wk hw 76 rfl)) (by decide) (backOf (W := 1) (rm15 l Z ag hw [] b1443 bd1469 n3 T1599.heap n0 sz1627 x1617 x1616 x1618) hZ (own_wk hw 78 rfl) (own_wk hw 19 rfl) (by decide) (by decide)) q1633a q1633c (g := (mkF m 144 (own_loc12 q0 p1 p2 q3 p4 r1360 r1363 r1368 b1376 b1443) [(.ref b1443), (.int (own_holds n2))])) rfl (by rw [hml]; rfl) (Steps.refl _) (argsL := []) (rest := [(.int (own_holds n2))]) (lenOf pd_3 rfl) rfl (by show 2 * 0 + _ ≤ _; exact Nat.le_of_eq rfl) (hb hby at_144) (fun _ _ => ⟨rfl, e1630, (by decide : 19 + 0 ≤ _), (by decide : 232 + 0 ≤ _)⟩)
    dsimp only [Pt.U, Pt.locs, Pt.cells, Pt.slots] at X1633 l1633 y1633 z1633 st1633 hQ1633
    subst l1633 y1633 z1633
    obtain ⟨rfl, N1633q, e1633⟩ := hQ1633
    have N1633 := Fr.app N1630 N1633q
    have cp1635 : ∀ target, own_S p e below T1633 (mkF m 147 (own_loc12 q0 p1 p2 q3 p4 r1360 r1363 r1368 b1376 b1443) [(.int (own_holds n3)), (.int (own_holds n2))]) target → own_S p e below s₁ (mkF m 0 (own_loc4 q0 p1 p2 q3 p4) []) target := by
      intro target kt
      show own_S p e below s₁ (mkF m 0 (own_loc4 q0 p1 p2 q3 p4) []) _
      refine cp1632 _ (XS.ifNo X1630.here hx rfl (hb hby at_139) rfl ((if0 _ _).trans (teq hc1631).2) (XS.aload X1630.here hx rfl (hb hby at_142) rfl rfl (st1633.trans ?_)))
      exact kt
    by_cases hc1634 : (own_holds n3) = (0 : Int32)
    · obtain ⟨fs, hr, hrun, hended, hEnd⟩ := X1633.leaveW hS (by rw [e1633]; exact hkS) (v := some (.int (1 : Int32))) (fun h => by rw [Bd.returns] at h; cases h)
      refine ⟨_, _, pre0 _ ?_, hrun, hended, _, _, rfl, ?_, ?_, hEnd.1, hEnd.2.1, hEnd.2.2.1, hEnd.2.2.2.mono (by decide) (by decide)⟩
      · show own_S p e below s₁ (mkF m 0 (own_loc4 q0 p1 p2 q3 p4) []) _
        refine cp1635 _ (XS.ifYes X1633.here hx rfl (pc0 := 147) (pc' := 154) rfl (hb hby at_147) rfl ((if0 _ _).trans (teq hc1634).1) (by decide) (by decide) (XS.iconst X1633.here hx rfl (hb hby at_154) (XS.icmpNo X1633.here hx rfl (hb hby at_155) rfl (teq (show (own_holds n2) = (0 : Int32) from (f3 hc1631 hc1634))).2 (XS.iconst X1633.here hx rfl (hb hby at_158) (XS.goto X1633.here hx rfl (pc0 := 159) (pc' := 163) rfl (hb hby at_159) (by decide) (by decide) ?_)))))
        show own_S p e below T1633 (mkF m 163 (own_loc12 q0 p1 p2 q3 p4 r1360 r1363 r1368 b1376 b1443) [.int 1]) _
        exact retN X1633 hx (t := .boolean) Bd.returns (by simp) (hb hby at_163) hr
      · exact ⟨rfl, N1633⟩
      · show CHr Z own_EL s.vm s.heap T1633.vm T1633.heap
        rw [hh, show T1633.heap = T1599.heap from e1633]
        exact hC.trans (CHv.at X1633 hZ hEL hC.1)
    · obtain ⟨fs, hr, hrun, hended, hEnd⟩ := X1633.leaveW hS (by rw [e1633]; exact hkS) (v := some (.int (1 : Int32))) (fun h => by rw [Bd.returns] at h; cases h)
      refine ⟨_, _, pre0 _ ?_, hrun, hended, _, _, rfl, ?_, ?_, hEnd.1, hEnd.2.1, hEnd.2.2.1, hEnd.2.2.2.mono (by decide) (by decide)⟩
      · show own_S p e below s₁ (mkF m 0 (own_loc4 q0 p1 p2 q3 p4) []) _
        refine cp1635 _ (XS.ifNo X1633.here hx rfl (hb hby at_147) rfl ((if0 _ _).trans (feq hc1634).1) (XS.iconst X1633.here hx rfl (hb hby at_150) (XS.goto X1633.here hx rfl (pc0 := 151) (pc' := 155) rfl (hb hby at_151) (by decide) (by decide) (XS.icmpNo X1633.here hx rfl (hb hby at_155) rfl (teq (show (own_holds n2) = (1 : Int32) from (f2 hc1631 hc1634))).2 (XS.iconst X1633.here hx rfl (hb hby at_158) (XS.goto X1633.here hx rfl (pc0 := 159) (pc' := 163) rfl (hb hby at_159) (by decide) (by decide) ?_))))))
        show own_S p e below T1633 (mkF m 163 (own_loc12 q0 p1 p2 q3 p4 r1360 r1363 r1368 b1376 b1443) [.int 1]) _
        exact retN X1633 hx (t := .boolean) Bd.returns (by simp) (hb hby at_163) hr
      · exact ⟨rfl, N1633⟩
      · show CHr Z own_EL s.vm s.heap T1633.vm T1633.heap
        rw [hh, show T1633.heap = T1599.heap from e1633]
        exact hC.trans (CHv.at X1633 hZ hEL hC.1)
  · obtain ⟨fs, hr, hrun, hended, hEnd⟩ := X1630.leaveW hS (by rw [e1630]; exact hkS) (v := some (.int (1 : Int32))) (fun h => by rw [Bd.returns] at h; cases h)
    refine ⟨_, _, pre0 _ ?_, hrun, hended, _, _, rfl, ?_, ?_, hEnd.1, hEnd.2.1, hEnd.2.2.1, hEnd.2.2.2.mono (by decide) (by decide)⟩
    · show own_S p e below s₁ (mkF m 0 (own_loc4 q0 p1 p2 q3 p4) []) _
      refine cp1632 _ (XS.ifYes X1630.here hx rfl (pc0 := 139) (pc' := 150) rfl (hb hby at_139) rfl ((if0 _ _).trans (feq hc1631).2) (by decide) (by decide) (XS.iconst X1630.here hx rfl (hb hby at_150) (XS.goto X1630.here hx rfl (pc0 := 151) (pc' := 155) rfl (hb hby at_151) (by decide) (by decide) (XS.icmpNo X1630.here hx rfl (hb hby at_155) rfl (teq (show (own_holds n2) = (1 : Int32) from (f1 hc1631))).2 (XS.iconst X1630.here hx rfl (hb hby at_158) (XS.goto X1630.here hx rfl (pc0 := 159) (pc' := 163) rfl (hb hby at_159) (by decide) (by decide) ?_))))))
      show own_S p e below T1630 (mkF m 163 (own_loc12 q0 p1 p2 q3 p4 r1360 r1363 r1368 b1376 b1443) [.int 1]) _
      exact retN X1630 hx (t := .boolean) Bd.returns (by simp) (hb hby at_163) hr
    · exact ⟨rfl, N1630⟩
    · show CHr Z own_EL s.vm s.heap T1630.vm T1630.heap
      rw [hh, show T1630.heap = T1599.heap from e1630]
      exact hC.trans (CHv.at X1630 hZ hEL hC.1)
set_option maxRecDepth 65536 in
set_option maxHeartbeats 40000000 in
theorem comes_1 {Post : Tables → Env → Array Value → State → Outcome → State → Prop} (hpost : ∀ tb e args s v u, (limb_1_1.after args s (.returned v) u = true ∧ limb_1_2.after args s (.returned v) u = true ∧ True) → ReturnedEndW s (.returned v) u (Jvm.fieldLocs frame_1_writes args s ++ Jvm.arrayLocs frame_1_arrays args s ++ Jvm.staticLocs frame_1_statics s) 40 1472 → Post tb e args s (.returned v) u) :
    ArmFor flags0 classFile x code maxLocals ret World_1 tables_1 room_1 Calls_1 rest_1 Pre_1 Post := by
  intro l hfl _ _ p e ha hc hk s m args below hf hA hF happ hP
  obtain ⟨hcalls, hrest, hpre⟩ := hP
  obtain ⟨-, -, -, hnamed, -, -, -, hat⟩ := (Spec.applies_iff hf).mp happ
  obtain ⟨hg, hn⟩ := and_e (Cond.before_iff.mp (show (Jvm.Cond.and given_1 narrow_1).before args s = true from hpre))
  obtain ⟨g1636, g1637⟩ := and_e hg
  obtain ⟨g1638, g1639⟩ := and_e g1637
  obtain ⟨g1640, g1641⟩ := and_e g1639
  obtain ⟨g1642, g1643⟩ := and_e g1641
  obtain ⟨g1644, g1645⟩ := and_e g1643
  obtain ⟨w0, w1, w2, w3, w4, rfl⟩ : ∃ w0 w1 w2 w3 w4 : Value, args = #[w0, w1, w2, w3, w4] := by
    have hs : args.size = 5 := by simpa [Cond.value, given_1] using g1636
    obtain ⟨L⟩ := args
    match L, hs with
    | [w0, w1, w2, w3, w4], _ => exact ⟨w0, w1, w2, w3, w4, rfl⟩
  have hw := fun d (hd : d ∈ tables_1) => atoms_spec (ws := Jvm.Cond.code x code maxLocals ret :: tables_1) hat d (List.mem_cons_of_mem _ hd)
  have hfit : Fit s := fun {y c} hc i hi => by
    obtain ⟨ha, rfl⟩ := Array.getElem?_eq_some_iff.mp hc
    have q := List.all_eq_true.mp ((Array.all_eq_true_iff_forall_mem.mp hF) _ (Array.getElem_mem ha)) i (List.mem_range.mpr hi)
    simpa [Array.getElem?_eq_getElem hi] using q
  obtain ⟨hsets, hown0⟩ := atoms_of _ (rest_1_c_eq ▸ (show rest_1_c.before _ s = true from hrest))
  have hr0 := Cond.before_iff.mp hown0
  obtain ⟨i0, ei0⟩ := isL_v g1638
  obtain rfl : w0 = (.long i0) := Option.some.inj ei0
  obtain ⟨i1, ei1⟩ := is_v g1640
  obtain rfl : w1 = (.int i1) := Option.some.inj ei1
  obtain ⟨i2, ei2⟩ := is_v g1642
  obtain rfl : w2 = (.int i2) := Option.some.inj ei2
  obtain ⟨i3, ei3⟩ := isL_v g1644
  obtain rfl : w3 = (.long i3) := Option.some.inj ei3
  obtain ⟨i4, ei4⟩ := is_v g1645
  obtain rfl : w4 = (.int i4) := Option.some.inj ei4
  obtain ⟨cs, ecs⟩ := is_v (Cond.before_iff.mp (hsets _ (List.mem_of_getElem? (i := 1) rfl)))
  have S_cs : Sta s s.heap "java/lang/String" "COMPACT_STRINGS" "Z" (.int cs) := Sta.start ecs (Or.inl (hsets _ (List.mem_of_getElem? (i := 0) rfl)))
  have hcs : ¬ (cs = (0 : Int32)) := gotF (Cond.eq_ints ecs (Term.int_eval (0))) (not_v (Cond.before_iff.mp (hsets _ (List.mem_of_getElem? (i := 2) rfl))))
  obtain ⟨gf, egf, rv_gf⟩ := isR_v (Cond.before_iff.mp (hsets _ (List.mem_of_getElem? (i := 8) rfl)))
  have S_gf : Sta s s.heap "jdk/internal/util/Preconditions" "SIOOBE_FORMATTER" "Ljava/util/function/BiFunction;" gf := Sta.start egf (Or.inl (hsets _ (List.mem_of_getElem? (i := 7) rfl)))
  have hCH : CHv s own_EL s.vm s.heap := CHv.start (own_ew hw) (fun p hp => hcalls.1 p hp) (hsets _ (List.mem_of_getElem? (i := 2) rfl)) (own_wk hw 41 rfl) (own_wk hw 133 rfl)
  obtain ⟨n, o, h1, h2, h3, _, L, rfl, ⟨rfl, N⟩, -, hq⟩ := rm0 l s _ hw tables_1 i0 i1 i2 i3 i4 cs gf s.heap s.heap.size (Nat.le_refl _) (Old.start s) S_cs hcs S_gf rv_gf p e ha hc hk s m _ below hf ((Spec.applies_iff_loose hf).mp happ).1 ⟨rfl, State.Warmed39.refl s, rfl, hCH⟩ trivial
  refine ⟨n, _, h1, h2, h3, hpost _ _ _ _ _ _ ⟨Cond.after_iff.mpr rfl, Cond.after_iff.mpr (eq_i res_at (Term.int_eval (1)) rfl), trivial⟩ ⟨hq.1, hq.2.1, hq.2.2.1, (hq.2.2.2.sift fun y hy => Or.inr (N y hy)).mono (by decide) (by decide)⟩⟩
theorem main_1_1 : Claimed_1_1 := comes_1 fun _ _ _ _ _ _ h hF => ⟨h.1, hF⟩
theorem main_1_2 : Claimed_1_2 := comes_1 fun _ _ _ _ _ _ h hF => ⟨h.2.1, hF⟩
end Jvm.Pilot.@@N@@
namespace Jvm.Pilot.@@N@@
open Jvm Jvm.ClassFile Sem Op Lib Jvm.Free Jvm.Stand Jvm.Pilot.@@N@@.Jvm.D
/-! MADE BY PROGRAM (witnessworld.py) out of the Statement's table words and the real class files: 24 classes; the members and pool entries that the words name. The judged class is class 1, her method 5. -/
namespace start1
open Jvm.ClassFile
def u (s : String) : CpInfo := .utf8 (stringToUtf16 s)
/-- a pool by its gaps: so many unusable entries, then the entry; so many at the end -/
def gap : Nat → List CpInfo → List CpInfo
  | 0, r => r
  | n + 1, r => .unusable :: gap n r
def poolList (es : List (Nat × CpInfo)) (last : Nat) : List CpInfo := es.foldr (fun e r => gap e.1 (e.2 :: r)) (gap last [])
def pool (es : List (Nat × CpInfo)) (last : Nat) : Array CpInfo := ⟨poolList es last⟩
def fileOf (pool : Array CpInfo) (this : Nat) (attrs : Array Attribute := #[]) (ms : Array MethodInfo := #[]) (fl : Nat := 33) (sup : Nat := 0) (ifs : Array Nat := #[]) (fds : Array FieldInfo := #[]) : ClassFile where
  minorVersion := 0
  majorVersion := 65
  constantPool := pool
  accessFlags := fl
  thisClass := this
  superClass := sup
  interfaces := ifs
  fields := fds
  methods := ms
  attributes := attrs
def plain (name : String) (sup : Option ClassId) : Class where
  name := name
  kind := .ordinary
  loader := none
  accessFlags := 33
  super := sup
  interfaces := #[]
  cf := none
  fields := #[]
  methods := #[]
  instanceTypes := #[]
  staticTypes := #[]
  resolved := #[]
  callSites := []
  init := .initialized
  statics := none
  mirror := none

def pool0 : Array CpInfo := pool [(5, u "<init>"), (0, u "()V"), (1, .class_ 10), (1, u "java/lang/Object")] 113

def k0c0 : Code := { maxStack := 0, maxLocals := 1, code := object_method_1_code, exceptionTable := #[], attributes := #[] }
def k0m0 : Method := { name := "<init>", desc := "()V", sig := { parameters := [], returnType := none }, accessFlags := 1, code := some k0c0 }
/-- java/lang/Object -/
def k0 : Class := { plain "java/lang/Object" none with
  accessFlags := 33
  interfaces := #[]
  cf := some (fileOf pool0 8 #[] #[{ accessFlags := 1, nameIndex := 5, descriptorIndex := 6, attributes := #[] }] 33 0 #[] #[])
  fields := #[]
  methods := #[k0m0]
  instanceTypes := #[]
  staticTypes := #[]
  resolved := Array.replicate 124 none
  statics := none }

def pool1 : Array CpInfo := pool [(2, .class_ 4), (0, .nameAndType 5 6), (0, u "java/lang/Object"), (0, u "<init>"), (0, u "()V"), (0, .long 15), (1, .long 10), (1, .methodref 12 13), (0, .class_ 14), (0, .nameAndType 15 16), (0, u "com/example/needle_in_json/needleinjson/MaskedDigitsResumeAfterStringPinLaw"), (0, u "d"), (0, u "(JI)C"), (0, .methodref 12 18), (0, .nameAndType 19 20), (0, u "special"), (0, u "(I)C"), (0, .methodref 12 22), (0, .nameAndType 23 24), (0, u "prefix"), (0, u "(JI)[C"), (0, .methodref 12 26), (0, .nameAndType 27 24), (0, u "suffix"), (0, .integer 2147483647), (0, .class_ 30), (0, u "com/example/needle_in_json/needleinjson/MaskedDigits"), (0, .methodref 29 3), (0, .methodref 29 33), (0, .nameAndType 34 35), (0, u "mask"), (0, u "([CII)V"), (0, .methodref 29 37), (0, .nameAndType 38 39), (0, u "holdsDigits"), (0, u "()Z"), (0, .methodref 29 41), (0, .nameAndType 42 6), (0, u "resumeAfterString"), (0, .class_ 44), (0, u "java/lang/String"), (0, .methodref 43 46), (0, .nameAndType 5 47), (0, u "([C)V"), (0, .methodref 43 49), (0, .nameAndType 50 51), (0, u "equals"), (0, u "(Ljava/lang/Object;)Z"), (3, u "law"), (0, u "(JIIJI)Z")] 4

def k1m0 : Method := { name := "<init>", desc := "()V", sig := { parameters := [], returnType := none }, accessFlags := 2, code := none }
def k1c1 : Code := { maxStack := 5, maxLocals := 3, code := method_2_code, exceptionTable := #[], attributes := #[] }
def k1m1 : Method := { name := "d", desc := "(JI)C", sig := { parameters := [.long, .int], returnType := some .char }, accessFlags := 10, code := some k1c1 }
def k1c2 : Code := { maxStack := 3, maxLocals := 3, code := method_3_code, exceptionTable := #[], attributes := #[] }
def k1m2 : Method := { name := "special", desc := "(I)C", sig := { parameters := [.int], returnType := some .char }, accessFlags := 10, code := some k1c2 }
def k1c3 : Code := { maxStack := 6, maxLocals := 4, code := method_4_code, exceptionTable := #[], attributes := #[] }
def k1m3 : Method := { name := "prefix", desc := "(JI)[C", sig := { parameters := [.long, .int], returnType := some (.array .char) }, accessFlags := 10, code := some k1c3 }
def k1c4 : Code := { maxStack := 6, maxLocals := 4, code := method_5_code, exceptionTable := #[], attributes := #[] }
def k1m4 : Method := { name := "suffix", desc := "(JI)[C", sig := { parameters := [.long, .int], returnType := some (.array .char) }, accessFlags := 10, code := some k1c4 }
def k1c5 : Code := { maxStack := 4, maxLocals := 15, code := code, exceptionTable := #[], attributes := #[] }
def k1m5 : Method := { name := "law", desc := "(JIIJI)Z", sig := { parameters := [.long, .int, .int, .long, .int], returnType := some .boolean }, accessFlags := 9, code := some k1c5 }
/-- com/example/needle_in_json/needleinjson/MaskedDigitsResumeAfterStringPinLaw -/
def k1 : Class := { plain "com/example/needle_in_json/needleinjson/MaskedDigitsResumeAfterStringPinLaw" (some 0) with
  accessFlags := 49
  interfaces := #[]
  cf := some (fileOf pool1 12 #[] #[{ accessFlags := 2, nameIndex := 5, descriptorIndex := 6, attributes := #[] }, { accessFlags := 10, nameIndex := 15, descriptorIndex := 16, attributes := #[] }, { accessFlags := 10, nameIndex := 19, descriptorIndex := 20, attributes := #[] }, { accessFlags := 10, nameIndex := 23, descriptorIndex := 24, attributes := #[] }, { accessFlags := 10, nameIndex := 27, descriptorIndex := 24, attributes := #[] }, { accessFlags := 9, nameIndex := 55, descriptorIndex := 56, attributes := #[] }] 49 2 #[] #[])
  fields := #[]
  methods := #[k1m0, k1m1, k1m2, k1m3, k1m4, k1m5]
  instanceTypes := #[]
  staticTypes := #[]
  resolved := Array.replicate 61 none
  statics := none }

def pool2 : Array CpInfo := pool [(1, .methodref 2 3), (0, .class_ 4), (0, .nameAndType 5 6), (0, u "java/lang/Object"), (0, u "<init>"), (0, u "()V"), (0, .class_ 8), (0, u "java/lang/StringBuilder"), (0, .methodref 7 3), (0, .fieldref 11 12), (0, .class_ 13), (0, .nameAndType 14 15), (0, u "com/example/needle_in_json/needleinjson/MaskedDigits"), (0, u "held"), (0, u "Ljava/lang/StringBuilder;"), (0, .fieldref 11 17), (0, .nameAndType 18 19), (0, u "escapeRead"), (0, u "I"), (0, .methodref 7 21), (0, .nameAndType 22 23), (0, u "length"), (0, u "()I"), (0, .methodref 25 21), (0, .class_ 26), (0, u "java/lang/String"), (4, .methodref 11 32), (0, .nameAndType 33 34), (0, u "isDigit"), (0, u "(C)Z"), (1, .nameAndType 37 38), (0, u "charAt"), (0, u "(I)C"), (7, .fieldref 11 47), (0, .nameAndType 48 19), (0, u "row"), (0, .fieldref 11 50), (0, .nameAndType 51 52), (0, u "digitEscape"), (0, u "Z"), (0, .methodref 11 54), (0, .nameAndType 55 56), (0, u "take"), (0, u "([CI)V"), (0, .methodref 11 58), (0, .nameAndType 59 60), (0, u "endsRowAndEscape"), (0, u "([CII)Z"), (0, .methodref 62 63), (0, .class_ 64), (0, .nameAndType 65 66), (0, u "java/lang/Math"), (0, u "min"), (0, u "(II)I"), (0, .methodref 11 68), (0, .nameAndType 69 34), (0, u "mayStandForDigit"), (0, .methodref 11 71), (0, .nameAndType 72 60), (0, u "escapeMayGoOn"), (0, .methodref 11 74), (0, .nameAndType 75 56), (0, u "maskEscaped"), (0, .methodref 11 77), (0, .nameAndType 78 79), (0, u "count"), (0, u "([CIZ)V"), (0, .string 81), (0, u "u003"), (0, .methodref 25 36), (0, .methodref 7 84), (0, .nameAndType 85 86), (0, u "append"), (0, u "(C)Ljava/lang/StringBuilder;"), (0, u "EXACT_DIGITS"), (2, u "MASK"), (0, u "C"), (1, u "DIGIT_ESCAPE"), (0, u "Ljava/lang/String;"), (7, u "holdsDigits"), (0, u "()Z"), (0, u "resumeAfterString"), (0, u "mask"), (0, u "([CII)V")] 2

def k2c0 : Code := { maxStack := 3, maxLocals := 1, code := prog_32_method_1_code, exceptionTable := #[], attributes := #[] }
def k2m0 : Method := { name := "<init>", desc := "()V", sig := { parameters := [], returnType := none }, accessFlags := 0, code := some k2c0 }
def k2c1 : Code := { maxStack := 1, maxLocals := 1, code := prog_32_method_3_code, exceptionTable := #[], attributes := #[] }
def k2m1 : Method := { name := "holdsDigits", desc := "()Z", sig := { parameters := [], returnType := some .boolean }, accessFlags := 0, code := some k2c1 }
def k2c2 : Code := { maxStack := 2, maxLocals := 1, code := prog_32_method_4_code, exceptionTable := #[], attributes := #[] }
def k2m2 : Method := { name := "resumeAfterString", desc := "()V", sig := { parameters := [], returnType := none }, accessFlags := 0, code := some k2c2 }
def k2c3 : Code := { maxStack := 3, maxLocals := 10, code := prog_32_method_5_code, exceptionTable := #[], attributes := #[] }
def k2m3 : Method := { name := "mask", desc := "([CII)V", sig := { parameters := [(.array .char), .int, .int], returnType := none }, accessFlags := 0, code := some k2c3 }
def k2c4 : Code := { maxStack := 4, maxLocals := 6, code := prog_32_method_6_code, exceptionTable := #[], attributes := #[] }
def k2m4 : Method := { name := "endsRowAndEscape", desc := "([CII)Z", sig := { parameters := [(.array .char), .int, .int], returnType := some .boolean }, accessFlags := 10, code := some k2c4 }
def k2c5 : Code := { maxStack := 4, maxLocals := 4, code := prog_32_method_7_code, exceptionTable := #[], attributes := #[] }
def k2m5 : Method := { name := "take", desc := "([CI)V", sig := { parameters := [(.array .char), .int], returnType := none }, accessFlags := 2, code := some k2c5 }
def k2c6 : Code := { maxStack := 3, maxLocals := 3, code := prog_32_method_8_code, exceptionTable := #[], attributes := #[] }
def k2m6 : Method := { name := "escapeMayGoOn", desc := "([CII)Z", sig := { parameters := [(.array .char), .int, .int], returnType := some .boolean }, accessFlags := 10, code := some k2c6 }
def k2c7 : Code := { maxStack := 4, maxLocals := 4, code := prog_32_method_9_code, exceptionTable := #[], attributes := #[] }
def k2m7 : Method := { name := "maskEscaped", desc := "([CI)V", sig := { parameters := [(.array .char), .int], returnType := none }, accessFlags := 2, code := some k2c7 }
def k2c8 : Code := { maxStack := 3, maxLocals := 4, code := prog_32_method_10_code, exceptionTable := #[], attributes := #[] }
def k2m8 : Method := { name := "count", desc := "([CIZ)V", sig := { parameters := [(.array .char), .int, .boolean], returnType := none }, accessFlags := 2, code := some k2c8 }
def k2c9 : Code := { maxStack := 2, maxLocals := 1, code := prog_32_method_11_code, exceptionTable := #[], attributes := #[] }
def k2m9 : Method := { name := "isDigit", desc := "(C)Z", sig := { parameters := [.char], returnType := some .boolean }, accessFlags := 10, code := some k2c9 }
def k2c10 : Code := { maxStack := 2, maxLocals := 1, code := prog_32_method_12_code, exceptionTable := #[], attributes := #[] }
def k2m10 : Method := { name := "mayStandForDigit", desc := "(C)Z", sig := { parameters := [.char], returnType := some .boolean }, accessFlags := 10, code := some k2c10 }
/-- com/example/needle_in_json/needleinjson/MaskedDigits -/
def k2 : Class := { plain "com/example/needle_in_json/needleinjson/MaskedDigits" (some 0) with
  accessFlags := 48
  interfaces := #[]
  cf := some (fileOf pool2 11 #[] #[{ accessFlags := 0, nameIndex := 5, descriptorIndex := 6, attributes := #[] }, { accessFlags := 0, nameIndex := 102, descriptorIndex := 103, attributes := #[] }, { accessFlags := 0, nameIndex := 104, descriptorIndex := 6, attributes := #[] }, { accessFlags := 0, nameIndex := 105, descriptorIndex := 106, attributes := #[] }, { accessFlags := 10, nameIndex := 59, descriptorIndex := 60, attributes := #[] }, { accessFlags := 2, nameIndex := 55, descriptorIndex := 56, attributes := #[] }, { accessFlags := 10, nameIndex := 72, descriptorIndex := 60, attributes := #[] }, { accessFlags := 2, nameIndex := 75, descriptorIndex := 56, attributes := #[] }, { accessFlags := 2, nameIndex := 78, descriptorIndex := 79, attributes := #[] }, { accessFlags := 10, nameIndex := 33, descriptorIndex := 34, attributes := #[] }, { accessFlags := 10, nameIndex := 69, descriptorIndex := 34, attributes := #[] }] 48 2 #[] #[{ accessFlags := 26, nameIndex := 87, descriptorIndex := 19, attributes := #[] }, { accessFlags := 26, nameIndex := 90, descriptorIndex := 91, attributes := #[] }, { accessFlags := 26, nameIndex := 93, descriptorIndex := 94, attributes := #[] }, { accessFlags := 18, nameIndex := 14, descriptorIndex := 15, attributes := #[] }, { accessFlags := 2, nameIndex := 48, descriptorIndex := 19, attributes := #[] }, { accessFlags := 2, nameIndex := 18, descriptorIndex := 19, attributes := #[] }, { accessFlags := 2, nameIndex := 51, descriptorIndex := 52, attributes := #[] }])
  fields := #[{ name := "EXACT_DIGITS", type := .int, accessFlags := 26, slot := 0, constantValue := 0 }, { name := "MASK", type := .char, accessFlags := 26, slot := 1, constantValue := 0 }, { name := "DIGIT_ESCAPE", type := (.object "java/lang/String"), accessFlags := 26, slot := 2, constantValue := 0 }, { name := "held", type := (.object "java/lang/StringBuilder"), accessFlags := 18, slot := 0, constantValue := 0 }, { name := "row", type := .int, accessFlags := 2, slot := 1, constantValue := 0 }, { name := "escapeRead", type := .int, accessFlags := 2, slot := 2, constantValue := 0 }, { name := "digitEscape", type := .boolean, accessFlags := 2, slot := 3, constantValue := 0 }]
  methods := #[k2m0, k2m1, k2m2, k2m3, k2m4, k2m5, k2m6, k2m7, k2m8, k2m9, k2m10]
  instanceTypes := #[(.object "java/lang/StringBuilder"), .int, .int, .boolean]
  staticTypes := #[.int, .char, (.object "java/lang/String")]
  resolved := Array.replicate 109 none
  statics := none }

def pool3 : Array CpInfo := pool [(1, .class_ 2), (0, u "java/lang/Appendable"), (0, .class_ 4), (0, u "java/lang/Object")] 9

/-- java/lang/Appendable -/
def k3 : Class := { plain "java/lang/Appendable" (some 0) with
  accessFlags := 1537
  interfaces := #[]
  cf := some (fileOf pool3 1 #[] #[] 1537 3 #[] #[])
  fields := #[]
  methods := #[]
  instanceTypes := #[]
  staticTypes := #[]
  resolved := Array.replicate 14 none
  statics := none }

def pool4 : Array CpInfo := pool [(2, .class_ 4), (1, u "java/lang/CharSequence"), (42, .class_ 48), (0, u "java/lang/CharSequence$1CodePointIterator"), (10, .class_ 60), (0, u "java/lang/CharSequence$1CharIterator"), (5, .class_ 67), (0, u "java/lang/Object")] 63

/-- java/lang/CharSequence -/
def k4 : Class := { plain "java/lang/CharSequence" (some 0) with
  accessFlags := 1537
  interfaces := #[]
  cf := some (fileOf pool4 2 #[.nestMembers #[47, 59]] #[] 1537 66 #[] #[])
  fields := #[]
  methods := #[]
  instanceTypes := #[]
  staticTypes := #[]
  resolved := Array.replicate 131 none
  statics := none }

def pool5 : Array CpInfo := pool [(1, .class_ 2), (0, u "java/lang/String"), (0, .methodref 4 5), (0, .class_ 6), (0, .nameAndType 7 8), (0, u "java/lang/Object"), (0, u "<init>"), (0, u "()V"), (1, .class_ 12), (1, u "java/lang/AbstractStringBuilder"), (0, u "EMPTYVALUE"), (0, u "[B"), (0, .fieldref 10 16), (0, .nameAndType 17 14), (0, u "value"), (0, .fieldref 1 19), (0, .nameAndType 20 21), (0, u "COMPACT_STRINGS"), (0, u "Z"), (0, .fieldref 10 23), (0, .nameAndType 24 25), (0, u "coder"), (0, u "B"), (8, u "length"), (0, u "()I"), (9, u "append"), (2, .class_ 49), (0, u "java/lang/CharSequence"), (25, u "maybeLatin1"), (3, .fieldref 10 80), (0, .nameAndType 81 82), (0, u "count"), (0, u "I"), (0, .methodref 10 84), (0, .nameAndType 85 86), (0, u "isLatin1"), (0, u "()Z"), (1, .class_ 90), (1, u "java/lang/StringLatin1"), (9, .methodref 10 101), (0, .nameAndType 102 103), (0, u "ensureCapacityInternal"), (0, u "(I)V"), (87, .methodref 88 192), (0, .nameAndType 193 194), (0, u "canEncode"), (0, u "(C)Z"), (97, u "(C)Ljava/lang/AbstractStringBuilder;"), (151, .class_ 445), (0, u "java/lang/Appendable")] 163

def k5m0 : Method := { name := "<init>", desc := "()V", sig := { parameters := [], returnType := none }, accessFlags := 0, code := none }
def k5c1 : Code := { maxStack := 2, maxLocals := 2, code := jdk_68_method_2_code, exceptionTable := #[], attributes := #[] }
def k5m1 : Method := { name := "<init>", desc := "(I)V", sig := { parameters := [.int], returnType := none }, accessFlags := 0, code := some k5c1 }
def k5c2 : Code := { maxStack := 1, maxLocals := 1, code := jdk_68_method_6_code, exceptionTable := #[], attributes := #[] }
def k5m2 : Method := { name := "length", desc := "()I", sig := { parameters := [], returnType := some .int }, accessFlags := 1, code := some k5c2 }
def k5c3 : Code := { maxStack := 4, maxLocals := 3, code := jdk_68_method_9_code, exceptionTable := #[], attributes := #[] }
def k5m3 : Method := { name := "ensureCapacityInternal", desc := "(I)V", sig := { parameters := [.int], returnType := none }, accessFlags := 2, code := some k5c3 }
def k5c4 : Code := { maxStack := 5, maxLocals := 2, code := jdk_68_method_31_code, exceptionTable := #[], attributes := #[] }
def k5m4 : Method := { name := "append", desc := "(C)Ljava/lang/AbstractStringBuilder;", sig := { parameters := [.char], returnType := some (.object "java/lang/AbstractStringBuilder") }, accessFlags := 1, code := some k5c4 }
def k5c5 : Code := { maxStack := 1, maxLocals := 1, code := jdk_68_method_68_code, exceptionTable := #[], attributes := #[] }
def k5m5 : Method := { name := "isLatin1", desc := "()Z", sig := { parameters := [], returnType := some .boolean }, accessFlags := 16, code := some k5c5 }
/-- java/lang/AbstractStringBuilder -/
def k5 : Class := { plain "java/lang/AbstractStringBuilder" (some 0) with
  accessFlags := 1056
  interfaces := #[3, 4]
  cf := some (fileOf pool5 10 #[] #[{ accessFlags := 0, nameIndex := 7, descriptorIndex := 8, attributes := #[] }, { accessFlags := 0, nameIndex := 7, descriptorIndex := 103, attributes := #[] }, { accessFlags := 1, nameIndex := 34, descriptorIndex := 35, attributes := #[] }, { accessFlags := 2, nameIndex := 102, descriptorIndex := 103, attributes := #[] }, { accessFlags := 1, nameIndex := 45, descriptorIndex := 292, attributes := #[] }, { accessFlags := 16, nameIndex := 85, descriptorIndex := 86, attributes := #[] }] 1056 4 #[444, 48] #[{ accessFlags := 0, nameIndex := 17, descriptorIndex := 14, attributes := #[] }, { accessFlags := 0, nameIndex := 24, descriptorIndex := 25, attributes := #[] }, { accessFlags := 0, nameIndex := 75, descriptorIndex := 21, attributes := #[] }, { accessFlags := 0, nameIndex := 81, descriptorIndex := 82, attributes := #[] }, { accessFlags := 26, nameIndex := 13, descriptorIndex := 14, attributes := #[] }])
  fields := #[{ name := "value", type := (.array .byte), accessFlags := 0, slot := 0, constantValue := 0 }, { name := "coder", type := .byte, accessFlags := 0, slot := 1, constantValue := 0 }, { name := "maybeLatin1", type := .boolean, accessFlags := 0, slot := 2, constantValue := 0 }, { name := "count", type := .int, accessFlags := 0, slot := 3, constantValue := 0 }, { name := "EMPTYVALUE", type := (.array .byte), accessFlags := 26, slot := 0, constantValue := 0 }]
  methods := #[k5m0, k5m1, k5m2, k5m3, k5m4, k5m5]
  instanceTypes := #[(.array .byte), .byte, .boolean, .int]
  staticTypes := #[(.array .byte)]
  resolved := Array.replicate 609 none
  statics := none }

def pool6 : Array CpInfo := pool [(1, .class_ 2), (0, u "java/io/Serializable"), (0, .class_ 4), (0, u "java/lang/Object")] 2

/-- java/io/Serializable -/
def k6 : Class := { plain "java/io/Serializable" (some 0) with
  accessFlags := 1537
  interfaces := #[]
  cf := some (fileOf pool6 1 #[] #[] 1537 3 #[] #[])
  fields := #[]
  methods := #[]
  instanceTypes := #[]
  staticTypes := #[]
  resolved := Array.replicate 7 none
  statics := none }

def pool7 : Array CpInfo := pool [(1, .class_ 2), (0, u "java/lang/Comparable"), (0, .class_ 4), (0, u "java/lang/Object")] 7

/-- java/lang/Comparable -/
def k7 : Class := { plain "java/lang/Comparable" (some 0) with
  accessFlags := 1537
  interfaces := #[]
  cf := some (fileOf pool7 1 #[] #[] 1537 3 #[] #[])
  fields := #[]
  methods := #[]
  instanceTypes := #[]
  staticTypes := #[]
  resolved := Array.replicate 12 none
  statics := none }

def pool8 : Array CpInfo := pool [(1, .methodref 2 3), (0, .class_ 4), (0, .nameAndType 5 6), (0, u "java/lang/AbstractStringBuilder"), (0, u "<init>"), (0, u "(I)V"), (17, .class_ 26), (1, u "java/lang/StringBuilder"), (0, u "append"), (22, .methodref 2 51), (0, .nameAndType 27 52), (0, u "(C)Ljava/lang/AbstractStringBuilder;"), (92, u "()V"), (10, u "()I"), (129, u "(C)Ljava/lang/StringBuilder;"), (56, .methodref 2 344), (0, .nameAndType 345 156), (0, u "length"), (3, .class_ 350), (0, u "java/lang/Appendable"), (0, .class_ 352), (0, u "java/io/Serializable"), (0, .class_ 354), (0, u "java/lang/Comparable"), (0, .class_ 356), (0, u "java/lang/CharSequence"), (0, u "serialVersionUID"), (0, u "J")] 63

def k8c0 : Code := { maxStack := 2, maxLocals := 1, code := jdk_67_method_1_code, exceptionTable := #[], attributes := #[] }
def k8m0 : Method := { name := "<init>", desc := "()V", sig := { parameters := [], returnType := none }, accessFlags := 1, code := some k8c0 }
def k8c1 : Code := { maxStack := 2, maxLocals := 2, code := jdk_67_method_14_code, exceptionTable := #[], attributes := #[] }
def k8m1 : Method := { name := "append", desc := "(C)Ljava/lang/StringBuilder;", sig := { parameters := [.char], returnType := some (.object "java/lang/StringBuilder") }, accessFlags := 1, code := some k8c1 }
def k8c2 : Code := { maxStack := 1, maxLocals := 1, code := jdk_67_method_93_code, exceptionTable := #[], attributes := #[] }
def k8m2 : Method := { name := "length", desc := "()I", sig := { parameters := [], returnType := some .int }, accessFlags := 4161, code := some k8c2 }
/-- java/lang/StringBuilder -/
def k8 : Class := { plain "java/lang/StringBuilder" (some 5) with
  accessFlags := 49
  interfaces := #[3, 6, 7, 4]
  cf := some (fileOf pool8 24 #[] #[{ accessFlags := 1, nameIndex := 5, descriptorIndex := 145, attributes := #[] }, { accessFlags := 1, nameIndex := 27, descriptorIndex := 286, attributes := #[] }, { accessFlags := 4161, nameIndex := 345, descriptorIndex := 156, attributes := #[] }] 49 2 #[349, 351, 353, 355] #[{ accessFlags := 24, nameIndex := 357, descriptorIndex := 358, attributes := #[] }])
  fields := #[{ name := "serialVersionUID", type := .long, accessFlags := 24, slot := 0, constantValue := 0 }]
  methods := #[k8m0, k8m1, k8m2]
  instanceTypes := #[(.array .byte), .byte, .boolean, .int]
  staticTypes := #[.long]
  resolved := Array.replicate 422 none
  statics := none }

def pool9 : Array CpInfo := pool [(1, .class_ 2), (0, u "java/lang/constant/Constable"), (0, .class_ 4), (0, u "java/lang/Object")] 6

/-- java/lang/constant/Constable -/
def k9 : Class := { plain "java/lang/constant/Constable" (some 0) with
  accessFlags := 1537
  interfaces := #[]
  cf := some (fileOf pool9 1 #[] #[] 1537 3 #[] #[])
  fields := #[]
  methods := #[]
  instanceTypes := #[]
  staticTypes := #[]
  resolved := Array.replicate 11 none
  statics := none }

def pool10 : Array CpInfo := pool [(1, .class_ 2), (0, u "java/lang/constant/ConstantDesc"), (0, .class_ 4), (0, u "java/lang/Object")] 32

/-- java/lang/constant/ConstantDesc -/
def k10 : Class := { plain "java/lang/constant/ConstantDesc" (some 0) with
  accessFlags := 1537
  interfaces := #[]
  cf := some (fileOf pool10 1 #[] #[] 1537 3 #[] #[])
  fields := #[]
  methods := #[]
  instanceTypes := #[]
  staticTypes := #[]
  resolved := Array.replicate 37 none
  statics := none }

def pool11 : Array CpInfo := pool [(1, .methodref 2 3), (0, .class_ 4), (0, .nameAndType 5 6), (0, u "java/lang/Object"), (0, u "<init>"), (0, u "()V"), (2, .fieldref 10 11), (0, .class_ 12), (0, .nameAndType 13 14), (0, u "java/lang/String"), (0, u "value"), (0, u "[B"), (0, .fieldref 10 16), (0, .nameAndType 17 18), (0, u "coder"), (0, u "B"), (2, u "hash"), (0, u "I"), (2, u "hashIsZero"), (0, u "Z"), (0, .methodref 10 28), (0, .nameAndType 5 29), (0, u "([CIILjava/lang/Void;)V"), (8, .fieldref 10 39), (0, .nameAndType 40 26), (0, u "COMPACT_STRINGS"), (1, .class_ 44), (1, u "java/lang/StringUTF16"), (0, u "compress"), (1, .methodref 42 48), (0, .nameAndType 49 50), (0, u "coderFromArrayLen"), (0, u "([BI)B"), (56, .class_ 109), (1, u "java/lang/StringLatin1"), (32, u "()Z"), (34, .methodref 42 178), (0, .nameAndType 45 179), (0, u "([CII)[B"), (154, u "()I"), (0, .methodref 10 336), (0, .nameAndType 17 337), (0, u "()B"), (25, u "([BI)C"), (27, u "(II)V"), (35, u "(I)C"), (64, .methodref 10 493), (0, .nameAndType 494 142), (0, u "isLatin1"), (0, .methodref 107 496), (0, .nameAndType 497 363), (0, u "charAt"), (3, u "checkIndex"), (5, u "length"), (33, .methodref 107 542), (0, .nameAndType 543 544), (0, u "equals"), (0, u "([B[B)Z"), (28, u "(Ljava/lang/Object;)Z"), (1, .class_ 576), (0, u "java/lang/CharSequence"), (22, u "CASE_INSENSITIVE_ORDER"), (0, u "Ljava/util/Comparator;"), (409, u "([C)V"), (42, .fieldref 1054 1055), (0, .class_ 1056), (0, .nameAndType 1057 1058), (0, u "jdk/internal/util/Preconditions"), (0, u "SIOOBE_FORMATTER"), (0, u "Ljava/util/function/BiFunction;"), (0, .methodref 1054 1060), (0, .nameAndType 501 1061), (0, u "(IILjava/util/function/BiFunction;)I"), (39, u "serialPersistentFields"), (0, u "[Ljava/io/ObjectStreamField;"), (0, .class_ 1104), (0, u "java/lang/String$CaseInsensitiveComparator"), (1, .class_ 1107), (0, u "java/io/Serializable"), (0, .class_ 1109), (0, u "java/lang/Comparable"), (0, .class_ 1111), (0, u "java/lang/constant/Constable"), (0, .class_ 1113), (0, u "java/lang/constant/ConstantDesc"), (2, u "serialVersionUID"), (0, u "J"), (3, u "REPL"), (0, u "C"), (2, u "LATIN1"), (1, u "UTF16")] 323

def k11m0 : Method := { name := "<init>", desc := "()V", sig := { parameters := [], returnType := none }, accessFlags := 1, code := none }
def k11c1 : Code := { maxStack := 5, maxLocals := 2, code := jdk_42_method_3_code, exceptionTable := #[], attributes := #[] }
def k11m1 : Method := { name := "<init>", desc := "([C)V", sig := { parameters := [(.array .char)], returnType := none }, accessFlags := 1, code := some k11c1 }
def k11c2 : Code := { maxStack := 2, maxLocals := 1, code := jdk_42_method_54_code, exceptionTable := #[], attributes := #[] }
def k11m2 : Method := { name := "length", desc := "()I", sig := { parameters := [], returnType := some .int }, accessFlags := 1, code := some k11c2 }
def k11c3 : Code := { maxStack := 2, maxLocals := 2, code := jdk_42_method_56_code, exceptionTable := #[], attributes := #[] }
def k11m3 : Method := { name := "charAt", desc := "(I)C", sig := { parameters := [.int], returnType := some .char }, accessFlags := 1, code := some k11c3 }
def k11c4 : Code := { maxStack := 2, maxLocals := 3, code := jdk_42_method_66_code, exceptionTable := #[], attributes := #[] }
def k11m4 : Method := { name := "equals", desc := "(Ljava/lang/Object;)Z", sig := { parameters := [(.object "java/lang/Object")], returnType := some .boolean }, accessFlags := 1, code := some k11c4 }
def k11c5 : Code := { maxStack := 4, maxLocals := 6, code := jdk_42_method_149_code, exceptionTable := #[], attributes := #[] }
def k11m5 : Method := { name := "<init>", desc := "([CIILjava/lang/Void;)V", sig := { parameters := [(.array .char), .int, .int, (.object "java/lang/Void")], returnType := none }, accessFlags := 2, code := some k11c5 }
def k11c6 : Code := { maxStack := 1, maxLocals := 1, code := jdk_42_method_152_code, exceptionTable := #[], attributes := #[] }
def k11m6 : Method := { name := "coder", desc := "()B", sig := { parameters := [], returnType := some .byte }, accessFlags := 0, code := some k11c6 }
def k11c7 : Code := { maxStack := 1, maxLocals := 1, code := jdk_42_method_154_code, exceptionTable := #[], attributes := #[] }
def k11m7 : Method := { name := "isLatin1", desc := "()Z", sig := { parameters := [], returnType := some .boolean }, accessFlags := 0, code := some k11c7 }
def k11c8 : Code := { maxStack := 3, maxLocals := 2, code := jdk_42_method_155_code, exceptionTable := #[], attributes := #[] }
def k11m8 : Method := { name := "checkIndex", desc := "(II)V", sig := { parameters := [.int, .int], returnType := none }, accessFlags := 8, code := some k11c8 }
/-- java/lang/String -/
def k11 : Class := { plain "java/lang/String" (some 0) with
  accessFlags := 49
  interfaces := #[6, 7, 4, 9, 10]
  cf := some (fileOf pool11 10 #[.nestMembers #[1103]] #[{ accessFlags := 1, nameIndex := 5, descriptorIndex := 6, attributes := #[] }, { accessFlags := 1, nameIndex := 5, descriptorIndex := 1010, attributes := #[] }, { accessFlags := 1, nameIndex := 507, descriptorIndex := 334, attributes := #[] }, { accessFlags := 1, nameIndex := 497, descriptorIndex := 427, attributes := #[] }, { accessFlags := 1, nameIndex := 543, descriptorIndex := 573, attributes := #[] }, { accessFlags := 2, nameIndex := 5, descriptorIndex := 29, attributes := #[] }, { accessFlags := 0, nameIndex := 17, descriptorIndex := 337, attributes := #[] }, { accessFlags := 0, nameIndex := 494, descriptorIndex := 142, attributes := #[] }, { accessFlags := 8, nameIndex := 501, descriptorIndex := 391, attributes := #[] }] 49 2 #[1106, 1108, 575, 1110, 1112] #[{ accessFlags := 18, nameIndex := 13, descriptorIndex := 14, attributes := #[] }, { accessFlags := 18, nameIndex := 17, descriptorIndex := 18, attributes := #[] }, { accessFlags := 2, nameIndex := 21, descriptorIndex := 22, attributes := #[] }, { accessFlags := 2, nameIndex := 25, descriptorIndex := 26, attributes := #[] }, { accessFlags := 26, nameIndex := 1116, descriptorIndex := 1117, attributes := #[] }, { accessFlags := 24, nameIndex := 40, descriptorIndex := 26, attributes := #[] }, { accessFlags := 26, nameIndex := 1101, descriptorIndex := 1102, attributes := #[] }, { accessFlags := 26, nameIndex := 1121, descriptorIndex := 1122, attributes := #[] }, { accessFlags := 25, nameIndex := 599, descriptorIndex := 600, attributes := #[] }, { accessFlags := 24, nameIndex := 1125, descriptorIndex := 18, attributes := #[] }, { accessFlags := 24, nameIndex := 1127, descriptorIndex := 18, attributes := #[] }])
  fields := #[{ name := "value", type := (.array .byte), accessFlags := 18, slot := 0, constantValue := 0 }, { name := "coder", type := .byte, accessFlags := 18, slot := 1, constantValue := 0 }, { name := "hash", type := .int, accessFlags := 2, slot := 2, constantValue := 0 }, { name := "hashIsZero", type := .boolean, accessFlags := 2, slot := 3, constantValue := 0 }, { name := "serialVersionUID", type := .long, accessFlags := 26, slot := 0, constantValue := 0 }, { name := "COMPACT_STRINGS", type := .boolean, accessFlags := 24, slot := 1, constantValue := 0 }, { name := "serialPersistentFields", type := (.array (.object "java/io/ObjectStreamField")), accessFlags := 26, slot := 2, constantValue := 0 }, { name := "REPL", type := .char, accessFlags := 26, slot := 3, constantValue := 0 }, { name := "CASE_INSENSITIVE_ORDER", type := (.object "java/util/Comparator"), accessFlags := 25, slot := 4, constantValue := 0 }, { name := "LATIN1", type := .byte, accessFlags := 24, slot := 5, constantValue := 0 }, { name := "UTF16", type := .byte, accessFlags := 24, slot := 6, constantValue := 0 }]
  methods := #[k11m0, k11m1, k11m2, k11m3, k11m4, k11m5, k11m6, k11m7, k11m8]
  instanceTypes := #[(.array .byte), .byte, .int, .boolean]
  staticTypes := #[.long, .boolean, (.array (.object "java/io/ObjectStreamField")), .char, (.object "java/util/Comparator"), .byte, .byte]
  resolved := Array.replicate 1451 none
  statics := some 0 }

def pool12 : Array CpInfo := pool [(1, .class_ 2), (0, u "java/lang/Math"), (1, .class_ 6), (1, u "java/lang/Object"), (0, u "<init>"), (0, u "()V"), (89, .class_ 100), (1, u "java/lang/Math$RandomNumberGeneratorHolder"), (71, u "negativeZeroFloatBits"), (0, u "J"), (2, u "negativeZeroDoubleBits"), (24, u "min"), (43, u "$assertionsDisabled"), (0, u "Z"), (88, u "(II)I"), (2, u "twoToTheDoubleScaleDown"), (0, u "D"), (4, u "twoToTheDoubleScaleUp"), (9, u "E"), (3, u "PI"), (2, u "TAU"), (2, u "DEGREES_TO_RADIANS"), (0, u "RADIANS_TO_DEGREES")] 94

def k12m0 : Method := { name := "<init>", desc := "()V", sig := { parameters := [], returnType := none }, accessFlags := 2, code := none }
def k12c1 : Code := { maxStack := 2, maxLocals := 2, code := jdk_29_method_69_code, exceptionTable := #[], attributes := #[] }
def k12m1 : Method := { name := "min", desc := "(II)I", sig := { parameters := [.int, .int], returnType := some .int }, accessFlags := 9, code := some k12c1 }
/-- java/lang/Math -/
def k12 : Class := { plain "java/lang/Math" (some 0) with
  accessFlags := 49
  interfaces := #[]
  cf := some (fileOf pool12 1 #[.nestMembers #[98]] #[{ accessFlags := 2, nameIndex := 7, descriptorIndex := 8, attributes := #[] }, { accessFlags := 9, nameIndex := 201, descriptorIndex := 335, attributes := #[] }] 49 4 #[] #[{ accessFlags := 25, nameIndex := 354, descriptorIndex := 339, attributes := #[] }, { accessFlags := 25, nameIndex := 358, descriptorIndex := 339, attributes := #[] }, { accessFlags := 25, nameIndex := 361, descriptorIndex := 339, attributes := #[] }, { accessFlags := 26, nameIndex := 364, descriptorIndex := 339, attributes := #[] }, { accessFlags := 26, nameIndex := 365, descriptorIndex := 339, attributes := #[] }, { accessFlags := 26, nameIndex := 172, descriptorIndex := 173, attributes := #[] }, { accessFlags := 26, nameIndex := 176, descriptorIndex := 173, attributes := #[] }, { accessFlags := 8, nameIndex := 344, descriptorIndex := 339, attributes := #[] }, { accessFlags := 8, nameIndex := 338, descriptorIndex := 339, attributes := #[] }, { accessFlags := 4120, nameIndex := 245, descriptorIndex := 246, attributes := #[] }])
  fields := #[{ name := "E", type := .double, accessFlags := 25, slot := 0, constantValue := 0 }, { name := "PI", type := .double, accessFlags := 25, slot := 1, constantValue := 0 }, { name := "TAU", type := .double, accessFlags := 25, slot := 2, constantValue := 0 }, { name := "DEGREES_TO_RADIANS", type := .double, accessFlags := 26, slot := 3, constantValue := 0 }, { name := "RADIANS_TO_DEGREES", type := .double, accessFlags := 26, slot := 4, constantValue := 0 }, { name := "negativeZeroFloatBits", type := .long, accessFlags := 26, slot := 5, constantValue := 0 }, { name := "negativeZeroDoubleBits", type := .long, accessFlags := 26, slot := 6, constantValue := 0 }, { name := "twoToTheDoubleScaleUp", type := .double, accessFlags := 8, slot := 7, constantValue := 0 }, { name := "twoToTheDoubleScaleDown", type := .double, accessFlags := 8, slot := 8, constantValue := 0 }, { name := "$assertionsDisabled", type := .boolean, accessFlags := 4120, slot := 9, constantValue := 0 }]
  methods := #[k12m0, k12m1]
  instanceTypes := #[]
  staticTypes := #[.double, .double, .double, .double, .double, .long, .long, .double, .double, .boolean]
  resolved := Array.replicate 460 none
  statics := none }

def pool13 : Array CpInfo := pool [(1, .class_ 2), (0, u "java/lang/String"), (1, .class_ 6), (1, u "java/lang/Object"), (0, u "<init>"), (0, u "()V"), (0, .methodref 1 10), (0, .nameAndType 11 12), (0, u "checkIndex"), (0, u "(II)V"), (1, .class_ 16), (1, u "java/lang/StringLatin1"), (36, u "([BI)C"), (36, u "canEncode"), (14, u "(C)Z"), (15, u "$assertionsDisabled"), (0, u "Z"), (98, .class_ 223), (1, u "java/lang/StringLatin1$LinesSpliterator"), (28, u "charAt"), (28, u "equals"), (0, u "([B[B)Z"), (107, .class_ 391), (0, u "java/lang/StringLatin1$CharsSpliterator")] 3

def k13m0 : Method := { name := "<init>", desc := "()V", sig := { parameters := [], returnType := none }, accessFlags := 0, code := none }
def k13c1 : Code := { maxStack := 2, maxLocals := 2, code := jdk_43_method_2_code, exceptionTable := #[], attributes := #[] }
def k13m1 : Method := { name := "charAt", desc := "([BI)C", sig := { parameters := [(.array .byte), .int], returnType := some .char }, accessFlags := 9, code := some k13c1 }
def k13c2 : Code := { maxStack := 2, maxLocals := 1, code := jdk_43_method_3_code, exceptionTable := #[], attributes := #[] }
def k13m2 : Method := { name := "canEncode", desc := "(C)Z", sig := { parameters := [.char], returnType := some .boolean }, accessFlags := 9, code := some k13c2 }
def k13c3 : Code := { maxStack := 3, maxLocals := 3, code := jdk_43_method_13_code, exceptionTable := #[], attributes := #[] }
def k13m3 : Method := { name := "equals", desc := "([B[B)Z", sig := { parameters := [(.array .byte), (.array .byte)], returnType := some .boolean }, accessFlags := 9, code := some k13c3 }
/-- java/lang/StringLatin1 -/
def k13 : Class := { plain "java/lang/StringLatin1" (some 0) with
  accessFlags := 48
  interfaces := #[]
  cf := some (fileOf pool13 14 #[.nestMembers #[390, 221]] #[{ accessFlags := 0, nameIndex := 7, descriptorIndex := 8, attributes := #[] }, { accessFlags := 9, nameIndex := 252, descriptorIndex := 53, attributes := #[] }, { accessFlags := 9, nameIndex := 90, descriptorIndex := 105, attributes := #[] }, { accessFlags := 9, nameIndex := 281, descriptorIndex := 282, attributes := #[] }] 48 4 #[] #[{ accessFlags := 4120, nameIndex := 121, descriptorIndex := 122, attributes := #[] }])
  fields := #[{ name := "$assertionsDisabled", type := .boolean, accessFlags := 4120, slot := 0, constantValue := 0 }]
  methods := #[k13m0, k13m1, k13m2, k13m3]
  instanceTypes := #[]
  staticTypes := #[.boolean]
  resolved := Array.replicate 395 none
  statics := none }

def pool14 : Array CpInfo := pool [(6, .class_ 8), (1, u "java/lang/Object"), (0, u "<init>"), (0, u "()V"), (1, .class_ 14), (1, u "java/lang/StringUTF16"), (31, u "$assertionsDisabled"), (0, u "Z"), (13, u "HI_BYTE_SHIFT"), (0, u "I"), (2, u "LO_BYTE_SHIFT"), (49, .methodref 12 116), (0, .nameAndType 117 118), (0, u "compress"), (0, u "([CI[BII)I"), (3, u "([CII)[B"), (138, u "coderFromArrayLen"), (0, u "([BI)B"), (106, .class_ 371), (1, u "java/lang/StringUTF16$LinesSpliterator"), (58, u "MAX_LENGTH"), (196, .class_ 628), (0, u "java/lang/StringUTF16$CodePointsSpliterator"), (0, .class_ 630), (0, u "java/lang/StringUTF16$CharsSpliterator")] 4

def k14m0 : Method := { name := "<init>", desc := "()V", sig := { parameters := [], returnType := none }, accessFlags := 0, code := none }
def k14c1 : Code := { maxStack := 2, maxLocals := 2, code := jdk_52_method_15_code, exceptionTable := #[], attributes := #[] }
def k14m1 : Method := { name := "coderFromArrayLen", desc := "([BI)B", sig := { parameters := [(.array .byte), .int], returnType := some .byte }, accessFlags := 8, code := some k14c1 }
def k14c2 : Code := { maxStack := 5, maxLocals := 6, code := jdk_52_method_16_code, exceptionTable := #[], attributes := #[] }
def k14m2 : Method := { name := "compress", desc := "([CII)[B", sig := { parameters := [(.array .char), .int, .int], returnType := some (.array .byte) }, accessFlags := 9, code := some k14c2 }
def k14c3 : Code := { maxStack := 3, maxLocals := 7, code := jdk_52_method_21_code, exceptionTable := #[], attributes := #[] }
def k14m3 : Method := { name := "compress", desc := "([CI[BII)I", sig := { parameters := [(.array .char), .int, (.array .byte), .int, .int], returnType := some .int }, accessFlags := 9, code := some k14c3 }
/-- java/lang/StringUTF16 -/
def k14 : Class := { plain "java/lang/StringUTF16" (some 0) with
  accessFlags := 48
  interfaces := #[]
  cf := some (fileOf pool14 12 #[.nestMembers #[627, 629, 369]] #[{ accessFlags := 0, nameIndex := 9, descriptorIndex := 10, attributes := #[] }, { accessFlags := 8, nameIndex := 261, descriptorIndex := 262, attributes := #[] }, { accessFlags := 9, nameIndex := 117, descriptorIndex := 122, attributes := #[] }, { accessFlags := 9, nameIndex := 117, descriptorIndex := 118, attributes := #[] }] 48 6 #[] #[{ accessFlags := 26, nameIndex := 61, descriptorIndex := 62, attributes := #[] }, { accessFlags := 26, nameIndex := 65, descriptorIndex := 62, attributes := #[] }, { accessFlags := 24, nameIndex := 430, descriptorIndex := 62, attributes := #[] }, { accessFlags := 4120, nameIndex := 46, descriptorIndex := 47, attributes := #[] }])
  fields := #[{ name := "HI_BYTE_SHIFT", type := .int, accessFlags := 26, slot := 0, constantValue := 0 }, { name := "LO_BYTE_SHIFT", type := .int, accessFlags := 26, slot := 1, constantValue := 0 }, { name := "MAX_LENGTH", type := .int, accessFlags := 24, slot := 2, constantValue := 0 }, { name := "$assertionsDisabled", type := .boolean, accessFlags := 4120, slot := 3, constantValue := 0 }]
  methods := #[k14m0, k14m1, k14m2, k14m3]
  instanceTypes := #[]
  staticTypes := #[.int, .int, .int, .boolean]
  resolved := Array.replicate 635 none
  statics := none }

def pool15 : Array CpInfo := pool [(2, .class_ 4), (1, u "java/lang/Object"), (0, u "<init>"), (0, u "()V"), (17, .class_ 26), (1, u "jdk/internal/util/Preconditions"), (6, u "checkIndex"), (21, .class_ 56), (0, u "jdk/internal/util/Preconditions$4"), (57, .class_ 115), (0, u "jdk/internal/util/Preconditions$1"), (7, u "SIOOBE_FORMATTER"), (0, u "Ljava/util/function/BiFunction;"), (0, .class_ 126), (0, u "jdk/internal/util/Preconditions$2"), (3, u "AIOOBE_FORMATTER"), (0, .class_ 132), (0, u "jdk/internal/util/Preconditions$3"), (3, u "IOOBE_FORMATTER"), (41, u "(IILjava/util/function/BiFunction;)I")] 15

def k15m0 : Method := { name := "<init>", desc := "()V", sig := { parameters := [], returnType := none }, accessFlags := 1, code := none }
def k15c1 : Code := { maxStack := 3, maxLocals := 3, code := jdk_41_method_11_code, exceptionTable := #[], attributes := #[] }
def k15m1 : Method := { name := "checkIndex", desc := "(IILjava/util/function/BiFunction;)I", sig := { parameters := [.int, .int, (.object "java/util/function/BiFunction")], returnType := some .int }, accessFlags := 9, code := some k15c1 }
/-- jdk/internal/util/Preconditions -/
def k15 : Class := { plain "jdk/internal/util/Preconditions" (some 0) with
  accessFlags := 33
  interfaces := #[]
  cf := some (fileOf pool15 24 #[.nestMembers #[55, 131, 125, 114]] #[{ accessFlags := 1, nameIndex := 5, descriptorIndex := 6, attributes := #[] }, { accessFlags := 9, nameIndex := 33, descriptorIndex := 178, attributes := #[] }] 33 2 #[] #[{ accessFlags := 25, nameIndex := 123, descriptorIndex := 124, attributes := #[] }, { accessFlags := 25, nameIndex := 130, descriptorIndex := 124, attributes := #[] }, { accessFlags := 25, nameIndex := 136, descriptorIndex := 124, attributes := #[] }])
  fields := #[{ name := "SIOOBE_FORMATTER", type := (.object "java/util/function/BiFunction"), accessFlags := 25, slot := 0, constantValue := 0 }, { name := "AIOOBE_FORMATTER", type := (.object "java/util/function/BiFunction"), accessFlags := 25, slot := 1, constantValue := 0 }, { name := "IOOBE_FORMATTER", type := (.object "java/util/function/BiFunction"), accessFlags := 25, slot := 2, constantValue := 0 }]
  methods := #[k15m0, k15m1]
  instanceTypes := #[]
  staticTypes := #[(.object "java/util/function/BiFunction"), (.object "java/util/function/BiFunction"), (.object "java/util/function/BiFunction")]
  resolved := Array.replicate 194 none
  statics := some 1 }

def pool16 : Array CpInfo := pool [(9, u "<init>"), (6, .class_ 18), (1, u "java/lang/Object"), (0, u "()V"), (1, .class_ 23), (1, u "jdk/internal/util/ArraysSupport"), (0, u "LOG2_ARRAY_LONG_INDEX_SCALE"), (0, u "I"), (2, u "U"), (0, u "Ljdk/internal/misc/Unsafe;"), (8, u "BIG_ENDIAN"), (0, u "Z"), (8, u "LOG2_BYTE_BIT_SIZE"), (4, u "LOG2_ARRAY_INT_INDEX_SCALE"), (54, u "JLA"), (0, u "Ljdk/internal/access/JavaLangAccess;"), (11, u "LOG2_ARRAY_BOOLEAN_INDEX_SCALE"), (9, u "LOG2_ARRAY_BYTE_INDEX_SCALE"), (5, u "LOG2_ARRAY_CHAR_INDEX_SCALE"), (5, u "LOG2_ARRAY_SHORT_INDEX_SCALE"), (18, u "LOG2_ARRAY_FLOAT_INDEX_SCALE"), (24, u "LOG2_ARRAY_DOUBLE_INDEX_SCALE"), (89, u "T_BOOLEAN"), (2, u "T_CHAR"), (1, u "T_FLOAT"), (1, u "T_DOUBLE"), (1, u "T_BYTE"), (1, u "T_SHORT"), (1, u "T_INT"), (1, u "T_LONG"), (1, u "SOFT_MAX_ARRAY_LENGTH")] 83

def k16m0 : Method := { name := "<init>", desc := "()V", sig := { parameters := [], returnType := none }, accessFlags := 2, code := none }
/-- jdk/internal/util/ArraysSupport -/
def k16 : Class := { plain "jdk/internal/util/ArraysSupport" (some 0) with
  accessFlags := 33
  interfaces := #[]
  cf := some (fileOf pool16 21 #[] #[{ accessFlags := 2, nameIndex := 9, descriptorIndex := 19, attributes := #[] }] 33 16 #[] #[{ accessFlags := 24, nameIndex := 28, descriptorIndex := 29, attributes := #[] }, { accessFlags := 26, nameIndex := 38, descriptorIndex := 39, attributes := #[] }, { accessFlags := 25, nameIndex := 121, descriptorIndex := 25, attributes := #[] }, { accessFlags := 25, nameIndex := 131, descriptorIndex := 25, attributes := #[] }, { accessFlags := 25, nameIndex := 137, descriptorIndex := 25, attributes := #[] }, { accessFlags := 25, nameIndex := 143, descriptorIndex := 25, attributes := #[] }, { accessFlags := 25, nameIndex := 53, descriptorIndex := 25, attributes := #[] }, { accessFlags := 25, nameIndex := 24, descriptorIndex := 25, attributes := #[] }, { accessFlags := 25, nameIndex := 162, descriptorIndex := 25, attributes := #[] }, { accessFlags := 25, nameIndex := 187, descriptorIndex := 25, attributes := #[] }, { accessFlags := 26, nameIndex := 48, descriptorIndex := 25, attributes := #[] }, { accessFlags := 25, nameIndex := 277, descriptorIndex := 25, attributes := #[] }, { accessFlags := 25, nameIndex := 280, descriptorIndex := 25, attributes := #[] }, { accessFlags := 25, nameIndex := 282, descriptorIndex := 25, attributes := #[] }, { accessFlags := 25, nameIndex := 284, descriptorIndex := 25, attributes := #[] }, { accessFlags := 25, nameIndex := 286, descriptorIndex := 25, attributes := #[] }, { accessFlags := 25, nameIndex := 288, descriptorIndex := 25, attributes := #[] }, { accessFlags := 25, nameIndex := 290, descriptorIndex := 25, attributes := #[] }, { accessFlags := 25, nameIndex := 292, descriptorIndex := 25, attributes := #[] }, { accessFlags := 26, nameIndex := 108, descriptorIndex := 109, attributes := #[] }, { accessFlags := 25, nameIndex := 294, descriptorIndex := 25, attributes := #[] }])
  fields := #[{ name := "U", type := (.object "jdk/internal/misc/Unsafe"), accessFlags := 24, slot := 0, constantValue := 0 }, { name := "BIG_ENDIAN", type := .boolean, accessFlags := 26, slot := 1, constantValue := 0 }, { name := "LOG2_ARRAY_BOOLEAN_INDEX_SCALE", type := .int, accessFlags := 25, slot := 2, constantValue := 0 }, { name := "LOG2_ARRAY_BYTE_INDEX_SCALE", type := .int, accessFlags := 25, slot := 3, constantValue := 0 }, { name := "LOG2_ARRAY_CHAR_INDEX_SCALE", type := .int, accessFlags := 25, slot := 4, constantValue := 0 }, { name := "LOG2_ARRAY_SHORT_INDEX_SCALE", type := .int, accessFlags := 25, slot := 5, constantValue := 0 }, { name := "LOG2_ARRAY_INT_INDEX_SCALE", type := .int, accessFlags := 25, slot := 6, constantValue := 0 }, { name := "LOG2_ARRAY_LONG_INDEX_SCALE", type := .int, accessFlags := 25, slot := 7, constantValue := 0 }, { name := "LOG2_ARRAY_FLOAT_INDEX_SCALE", type := .int, accessFlags := 25, slot := 8, constantValue := 0 }, { name := "LOG2_ARRAY_DOUBLE_INDEX_SCALE", type := .int, accessFlags := 25, slot := 9, constantValue := 0 }, { name := "LOG2_BYTE_BIT_SIZE", type := .int, accessFlags := 26, slot := 10, constantValue := 0 }, { name := "T_BOOLEAN", type := .int, accessFlags := 25, slot := 11, constantValue := 0 }, { name := "T_CHAR", type := .int, accessFlags := 25, slot := 12, constantValue := 0 }, { name := "T_FLOAT", type := .int, accessFlags := 25, slot := 13, constantValue := 0 }, { name := "T_DOUBLE", type := .int, accessFlags := 25, slot := 14, constantValue := 0 }, { name := "T_BYTE", type := .int, accessFlags := 25, slot := 15, constantValue := 0 }, { name := "T_SHORT", type := .int, accessFlags := 25, slot := 16, constantValue := 0 }, { name := "T_INT", type := .int, accessFlags := 25, slot := 17, constantValue := 0 }, { name := "T_LONG", type := .int, accessFlags := 25, slot := 18, constantValue := 0 }, { name := "JLA", type := (.object "jdk/internal/access/JavaLangAccess"), accessFlags := 26, slot := 19, constantValue := 0 }, { name := "SOFT_MAX_ARRAY_LENGTH", type := .int, accessFlags := 25, slot := 20, constantValue := 0 }]
  methods := #[k16m0]
  instanceTypes := #[]
  staticTypes := #[(.object "jdk/internal/misc/Unsafe"), .boolean, .int, .int, .int, .int, .int, .int, .int, .int, .int, .int, .int, .int, .int, .int, .int, .int, .int, (.object "jdk/internal/access/JavaLangAccess"), .int]
  resolved := Array.replicate 378 none
  statics := none }

def pool17 : Array CpInfo := pool [(1, u "java/lang/Cloneable"), (0, .class_ 1), (0, u "java/lang/Object"), (0, .class_ 3)] 3

/-- java/lang/Cloneable -/
def k17 : Class := { plain "java/lang/Cloneable" (some 0) with
  accessFlags := 1537
  interfaces := #[]
  cf := some (fileOf pool17 2 #[] #[] 1537 4 #[] #[])
  fields := #[]
  methods := #[]
  instanceTypes := #[]
  staticTypes := #[]
  resolved := Array.replicate 8 none
  statics := none }

/-- the primitive byte -/
def k18 : Class := { plain "byte" none with kind := .primitive 'B', accessFlags := 0x411 }
/-- [B -/
def k19 : Class := { plain "[B" (some 0) with kind := .array 18 .byte, interfaces := #[17, 6], accessFlags := 1041 }

/-- the primitive char -/
def k20 : Class := { plain "char" none with kind := .primitive 'C', accessFlags := 0x411 }
/-- [C -/
def k21 : Class := { plain "[C" (some 0) with kind := .array 20 .char, interfaces := #[17, 6], accessFlags := 1041 }

/-- the primitive int -/
def k22 : Class := { plain "int" none with kind := .primitive 'I', accessFlags := 0x411 }
/-- [I -/
def k23 : Class := { plain "[I" (some 0) with kind := .array 22 .int, interfaces := #[17, 6], accessFlags := 1041 }

def heap : Heap := #[{ cls := 11, slots := #[.long 0, .int 1, .null, .int 0, .null, .int 0, .int 0], vm := .statics 11 },
  { cls := 15, slots := #[.null, .null, .null], vm := .statics 15 }]
def classes : Array Class := #[k0, k1, k2, k3, k4, k5, k6, k7, k8, k9, k10, k11, k12, k13, k14, k15, k16, k17, k18, k19, k20, k21, k22, k23]
def interned : List (Array UInt16 × Addr) := []
def slotsUsed : Nat := 10
def theMethod : MethodId := ⟨1, 5⟩
def args0 : Array Value := #[.long 5, .int 7, .int 19, .long 9, .int 3]
def aboutOver (below : List Frame) : State where
  vm := { classes := classes, interned := interned.toArray }
  heap := heap
  slotsUsed := slotsUsed
  threads := #[{ frames := .invoking theMethod args0 :: below }]
def below0 : List Frame := [.native { method := ⟨0, 0⟩, args := #[] }]
def about1 : State := aboutOver below0
def p0 : Program := .bare "" "" ""
def e0 : Env := launch0.env 0 0 0
theorem w_frames : about1.frames = Frame.invoking theMethod args0 :: below0 := rfl
set_option maxRecDepth 65536 in
theorem w_args : argsFit about1.vm theMethod args0 = true := by decide +kernel
set_option maxRecDepth 65536 in
theorem w_heap : heapFits about1 = true := by decide +kernel
set_option maxRecDepth 65536 in
theorem w_runnable : about1.curStatus? = some .runnable := by decide +kernel
set_option maxRecDepth 65536 in
theorem w_alone : about1.alone = true := by decide +kernel
set_option maxRecDepth 65536 in
theorem w_named : about1.methodNamed? x = some theMethod := by decide +kernel
set_option maxRecDepth 65536 in
theorem w_hears : about1.hears theMethod below0 = true := by decide +kernel
set_option maxRecDepth 65536 in
theorem w_ripe : about1.ripe theMethod args0 below0 = true := by decide +kernel
theorem w_running : about1.status = .running := rfl
set_option maxRecDepth 65536 in
theorem w_room : about1.hasRoom e0.platform room_1 = true :=
  launch0.hasRoom_least _ room_1 (by decide +kernel) (by decide +kernel) (by decide +kernel) (by decide +kernel) (by decide +kernel) (by decide +kernel)
theorem allAtoms_all (ts : List Jvm.Cond) (a : Array Jvm.Value) (st : Jvm.State) : (allAtoms ts).before a st = ts.all (fun c => c.before a st) := by
  induction ts with
  | nil => rfl
  | cons c t ih =>
    show (Jvm.Cond.and c (allAtoms t)).before a st = _
    rw [Jvm.Cond.before_and, ih, List.all_cons]
def words1 : List Jvm.Cond := Jvm.Cond.code x code maxLocals ret :: tables_1
/-- a 'code' word, met by the world's own term for the bytes: nothing is compared byte by byte -/
theorem code_word {y : MethodName} {bytes : ByteArray} {mx : Nat} {rt : Option FieldType} {a : Array Value} {s : State} {m : MethodId} {meth : Method} {c : Code} (h1 : s.methodNamed? y = some m) (h2 : s.vm.method? m = some meth) (h3 : meth.code = some c) (h4 : c.code = bytes)
    (h5 : (c.maxLocals == mx && c.exceptionTable.isEmpty && decide (c.maxStack ≤ mostOperands) && decide (meth.sig.returnType = rt) && !meth.locks && decide (parseMethodDescriptor y.desc = some meth.sig)) = true) : (Jvm.Cond.code y bytes mx rt).before a s = true := by
  simp only [Bool.and_eq_true, beq_iff_eq, Bool.not_eq_true', decide_eq_true_eq] at h5
  obtain ⟨⟨⟨⟨⟨g1, g2⟩, g3⟩, g4⟩, g5⟩, g6⟩ := h5
  simp [Cond.before, Cond.holds, Cond.value, h1, h2, h3, h4, g1, g2, g3, g4, g5, g6]
def isCode : Jvm.Cond → Bool
  | .code _ _ _ _ => true
  | _ => false
theorem all_split {L : List Jvm.Cond} {P : Jvm.Cond → Bool} (h1 : L.all (fun c => isCode c || P c) = true) (h2 : ∀ c ∈ L.filter isCode, P c = true) : L.all P = true := by
  refine List.all_eq_true.mpr fun c hc => ?_
  have h := List.all_eq_true.mp h1 c hc
  rcases Bool.eq_false_or_eq_true (isCode c) with hi | hi
  · exact h2 c (List.mem_filter.mpr ⟨hc, hi⟩)
  · simpa [hi] using h
set_option maxRecDepth 65536 in
theorem w_c0 : (Jvm.Cond.code x code maxLocals ret).before args0 about1 = true := code_word (m := ⟨1, 5⟩) (meth := k1m5) (c := k1c5) (by decide +kernel) rfl rfl rfl (by decide +kernel)
set_option maxRecDepth 65536 in
theorem w_c1 : (Jvm.Cond.code ({ cls := "com/example/needle_in_json/needleinjson/MaskedDigitsResumeAfterStringPinLaw", name := "prefix", desc := "(JI)[C" } : Jvm.MethodName) method_4_code (4 : Nat) (Option.some (Jvm.ClassFile.FieldType.array Jvm.ClassFile.FieldType.char))).before args0 about1 = true := code_word (m := ⟨1, 3⟩) (meth := k1m3) (c := k1c3) (by decide +kernel) rfl rfl rfl (by decide +kernel)
set_option maxRecDepth 65536 in
theorem w_c2 : (Jvm.Cond.code ({ cls := "com/example/needle_in_json/needleinjson/MaskedDigitsResumeAfterStringPinLaw", name := "d", desc := "(JI)C" } : Jvm.MethodName) method_2_code (3 : Nat) (Option.some Jvm.ClassFile.FieldType.char)).before args0 about1 = true := code_word (m := ⟨1, 1⟩) (meth := k1m1) (c := k1c1) (by decide +kernel) rfl rfl rfl (by decide +kernel)
set_option maxRecDepth 65536 in
theorem w_c3 : (Jvm.Cond.code ({ cls := "com/example/needle_in_json/needleinjson/MaskedDigitsResumeAfterStringPinLaw", name := "special", desc := "(I)C" } : Jvm.MethodName) method_3_code (3 : Nat) (Option.some Jvm.ClassFile.FieldType.char)).before args0 about1 = true := code_word (m := ⟨1, 2⟩) (meth := k1m2) (c := k1c2) (by decide +kernel) rfl rfl rfl (by decide +kernel)
set_option maxRecDepth 65536 in
theorem w_c4 : (Jvm.Cond.code ({ cls := "com/example/needle_in_json/needleinjson/MaskedDigitsResumeAfterStringPinLaw", name := "suffix", desc := "(JI)[C" } : Jvm.MethodName) method_5_code (4 : Nat) (Option.some (Jvm.ClassFile.FieldType.array Jvm.ClassFile.FieldType.char))).before args0 about1 = true := code_word (m := ⟨1, 4⟩) (meth := k1m4) (c := k1c4) (by decide +kernel) rfl rfl rfl (by decide +kernel)
set_option maxRecDepth 65536 in
theorem w_c5 : (Jvm.Cond.code ({ cls := "com/example/needle_in_json/needleinjson/MaskedDigits", name := "<init>", desc := "()V" } : Jvm.MethodName) prog_32_method_1_code (1 : Nat) (Option.none : Option Jvm.ClassFile.FieldType)).before args0 about1 = true := code_word (m := ⟨2, 0⟩) (meth := k2m0) (c := k2c0) (by decide +kernel) rfl rfl rfl (by decide +kernel)
set_option maxRecDepth 65536 in
theorem w_c6 : (Jvm.Cond.code ({ cls := "java/lang/Object", name := "<init>", desc := "()V" } : Jvm.MethodName) object_method_1_code (1 : Nat) (Option.none : Option Jvm.ClassFile.FieldType)).before args0 about1 = true := code_word (m := ⟨0, 0⟩) (meth := k0m0) (c := k0c0) (by decide +kernel) rfl rfl rfl (by decide +kernel)
set_option maxRecDepth 65536 in
theorem w_c7 : (Jvm.Cond.code ({ cls := "java/lang/StringBuilder", name := "<init>", desc := "()V" } : Jvm.MethodName) jdk_67_method_1_code (1 : Nat) (Option.none : Option Jvm.ClassFile.FieldType)).before args0 about1 = true := code_word (m := ⟨8, 0⟩) (meth := k8m0) (c := k8c0) (by decide +kernel) rfl rfl rfl (by decide +kernel)
set_option maxRecDepth 65536 in
theorem w_c8 : (Jvm.Cond.code ({ cls := "java/lang/AbstractStringBuilder", name := "<init>", desc := "(I)V" } : Jvm.MethodName) jdk_68_method_2_code (2 : Nat) (Option.none : Option Jvm.ClassFile.FieldType)).before args0 about1 = true := code_word (m := ⟨5, 1⟩) (meth := k5m1) (c := k5c1) (by decide +kernel) rfl rfl rfl (by decide +kernel)
set_option maxRecDepth 65536 in
theorem w_c9 : (Jvm.Cond.code ({ cls := "com/example/needle_in_json/needleinjson/MaskedDigits", name := "mask", desc := "([CII)V" } : Jvm.MethodName) prog_32_method_5_code (10 : Nat) (Option.none : Option Jvm.ClassFile.FieldType)).before args0 about1 = true := code_word (m := ⟨2, 3⟩) (meth := k2m3) (c := k2c3) (by decide +kernel) rfl rfl rfl (by decide +kernel)
set_option maxRecDepth 65536 in
theorem w_c10 : (Jvm.Cond.code ({ cls := "java/lang/Math", name := "min", desc := "(II)I" } : Jvm.MethodName) jdk_29_method_69_code (2 : Nat) (Option.some Jvm.ClassFile.FieldType.int)).before args0 about1 = true := code_word (m := ⟨12, 1⟩) (meth := k12m1) (c := k12c1) (by decide +kernel) rfl rfl rfl (by decide +kernel)
set_option maxRecDepth 65536 in
theorem w_c11 : (Jvm.Cond.code ({ cls := "com/example/needle_in_json/needleinjson/MaskedDigits", name := "mayStandForDigit", desc := "(C)Z" } : Jvm.MethodName) prog_32_method_12_code (1 : Nat) (Option.some Jvm.ClassFile.FieldType.boolean)).before args0 about1 = true := code_word (m := ⟨2, 10⟩) (meth := k2m10) (c := k2c10) (by decide +kernel) rfl rfl rfl (by decide +kernel)
set_option maxRecDepth 65536 in
theorem w_c12 : (Jvm.Cond.code ({ cls := "com/example/needle_in_json/needleinjson/MaskedDigits", name := "isDigit", desc := "(C)Z" } : Jvm.MethodName) prog_32_method_11_code (1 : Nat) (Option.some Jvm.ClassFile.FieldType.boolean)).before args0 about1 = true := code_word (m := ⟨2, 9⟩) (meth := k2m9) (c := k2c9) (by decide +kernel) rfl rfl rfl (by decide +kernel)
set_option maxRecDepth 65536 in
theorem w_c13 : (Jvm.Cond.code ({ cls := "com/example/needle_in_json/needleinjson/MaskedDigits", name := "escapeMayGoOn", desc := "([CII)Z" } : Jvm.MethodName) prog_32_method_8_code (3 : Nat) (Option.some Jvm.ClassFile.FieldType.boolean)).before args0 about1 = true := code_word (m := ⟨2, 6⟩) (meth := k2m6) (c := k2c6) (by decide +kernel) rfl rfl rfl (by decide +kernel)
set_option maxRecDepth 65536 in
theorem w_c14 : (Jvm.Cond.code ({ cls := "com/example/needle_in_json/needleinjson/MaskedDigits", name := "take", desc := "([CI)V" } : Jvm.MethodName) prog_32_method_7_code (4 : Nat) (Option.none : Option Jvm.ClassFile.FieldType)).before args0 about1 = true := code_word (m := ⟨2, 5⟩) (meth := k2m5) (c := k2c5) (by decide +kernel) rfl rfl rfl (by decide +kernel)
set_option maxRecDepth 65536 in
theorem w_c15 : (Jvm.Cond.code ({ cls := "com/example/needle_in_json/needleinjson/MaskedDigits", name := "holdsDigits", desc := "()Z" } : Jvm.MethodName) prog_32_method_3_code (1 : Nat) (Option.some Jvm.ClassFile.FieldType.boolean)).before args0 about1 = true := code_word (m := ⟨2, 1⟩) (meth := k2m1) (c := k2c1) (by decide +kernel) rfl rfl rfl (by decide +kernel)
set_option maxRecDepth 65536 in
theorem w_c16 : (Jvm.Cond.code ({ cls := "java/lang/StringBuilder", name := "length", desc := "()I" } : Jvm.MethodName) jdk_67_method_93_code (1 : Nat) (Option.some Jvm.ClassFile.FieldType.int)).before args0 about1 = true := code_word (m := ⟨8, 2⟩) (meth := k8m2) (c := k8c2) (by decide +kernel) rfl rfl rfl (by decide +kernel)
set_option maxRecDepth 65536 in
theorem w_c17 : (Jvm.Cond.code ({ cls := "java/lang/AbstractStringBuilder", name := "length", desc := "()I" } : Jvm.MethodName) jdk_68_method_6_code (1 : Nat) (Option.some Jvm.ClassFile.FieldType.int)).before args0 about1 = true := code_word (m := ⟨5, 2⟩) (meth := k5m2) (c := k5c2) (by decide +kernel) rfl rfl rfl (by decide +kernel)
set_option maxRecDepth 65536 in
theorem w_c18 : (Jvm.Cond.code ({ cls := "com/example/needle_in_json/needleinjson/MaskedDigits", name := "resumeAfterString", desc := "()V" } : Jvm.MethodName) prog_32_method_4_code (1 : Nat) (Option.none : Option Jvm.ClassFile.FieldType)).before args0 about1 = true := code_word (m := ⟨2, 2⟩) (meth := k2m2) (c := k2c2) (by decide +kernel) rfl rfl rfl (by decide +kernel)
set_option maxRecDepth 65536 in
theorem w_c19 : (Jvm.Cond.code ({ cls := "com/example/needle_in_json/needleinjson/MaskedDigits", name := "endsRowAndEscape", desc := "([CII)Z" } : Jvm.MethodName) prog_32_method_6_code (6 : Nat) (Option.some Jvm.ClassFile.FieldType.boolean)).before args0 about1 = true := code_word (m := ⟨2, 4⟩) (meth := k2m4) (c := k2c4) (by decide +kernel) rfl rfl rfl (by decide +kernel)
set_option maxRecDepth 65536 in
theorem w_c20 : (Jvm.Cond.code ({ cls := "com/example/needle_in_json/needleinjson/MaskedDigits", name := "maskEscaped", desc := "([CI)V" } : Jvm.MethodName) prog_32_method_9_code (4 : Nat) (Option.none : Option Jvm.ClassFile.FieldType)).before args0 about1 = true := code_word (m := ⟨2, 7⟩) (meth := k2m7) (c := k2c7) (by decide +kernel) rfl rfl rfl (by decide +kernel)
set_option maxRecDepth 65536 in
theorem w_c21 : (Jvm.Cond.code ({ cls := "com/example/needle_in_json/needleinjson/MaskedDigits", name := "count", desc := "([CIZ)V" } : Jvm.MethodName) prog_32_method_10_code (4 : Nat) (Option.none : Option Jvm.ClassFile.FieldType)).before args0 about1 = true := code_word (m := ⟨2, 8⟩) (meth := k2m8) (c := k2c8) (by decide +kernel) rfl rfl rfl (by decide +kernel)
set_option maxRecDepth 65536 in
theorem w_c22 : (Jvm.Cond.code ({ cls := "java/lang/StringBuilder", name := "append", desc := "(C)Ljava/lang/StringBuilder;" } : Jvm.MethodName) jdk_67_method_14_code (2 : Nat) (Option.some (Jvm.ClassFile.FieldType.object "java/lang/StringBuilder"))).before args0 about1 = true := code_word (m := ⟨8, 1⟩) (meth := k8m1) (c := k8c1) (by decide +kernel) rfl rfl rfl (by decide +kernel)
set_option maxRecDepth 65536 in
theorem w_c23 : (Jvm.Cond.code ({ cls := "java/lang/AbstractStringBuilder", name := "append", desc := "(C)Ljava/lang/AbstractStringBuilder;" } : Jvm.MethodName) jdk_68_method_31_code (2 : Nat) (Option.some (Jvm.ClassFile.FieldType.object "java/lang/AbstractStringBuilder"))).before args0 about1 = true := code_word (m := ⟨5, 4⟩) (meth := k5m4) (c := k5c4) (by decide +kernel) rfl rfl rfl (by decide +kernel)
set_option maxRecDepth 65536 in
theorem w_c24 : (Jvm.Cond.code ({ cls := "java/lang/AbstractStringBuilder", name := "ensureCapacityInternal", desc := "(I)V" } : Jvm.MethodName) jdk_68_method_9_code (3 : Nat) (Option.none : Option Jvm.ClassFile.FieldType)).before args0 about1 = true := code_word (m := ⟨5, 3⟩) (meth := k5m3) (c := k5c3) (by decide +kernel) rfl rfl rfl (by decide +kernel)
set_option maxRecDepth 65536 in
theorem w_c25 : (Jvm.Cond.code ({ cls := "java/lang/AbstractStringBuilder", name := "isLatin1", desc := "()Z" } : Jvm.MethodName) jdk_68_method_68_code (1 : Nat) (Option.some Jvm.ClassFile.FieldType.boolean)).before args0 about1 = true := code_word (m := ⟨5, 5⟩) (meth := k5m5) (c := k5c5) (by decide +kernel) rfl rfl rfl (by decide +kernel)
set_option maxRecDepth 65536 in
theorem w_c26 : (Jvm.Cond.code ({ cls := "java/lang/StringLatin1", name := "canEncode", desc := "(C)Z" } : Jvm.MethodName) jdk_43_method_3_code (1 : Nat) (Option.some Jvm.ClassFile.FieldType.boolean)).before args0 about1 = true := code_word (m := ⟨13, 2⟩) (meth := k13m2) (c := k13c2) (by decide +kernel) rfl rfl rfl (by decide +kernel)
set_option maxRecDepth 65536 in
theorem w_c27 : (Jvm.Cond.code ({ cls := "java/lang/String", name := "<init>", desc := "([C)V" } : Jvm.MethodName) jdk_42_method_3_code (2 : Nat) (Option.none : Option Jvm.ClassFile.FieldType)).before args0 about1 = true := code_word (m := ⟨11, 1⟩) (meth := k11m1) (c := k11c1) (by decide +kernel) rfl rfl rfl (by decide +kernel)
set_option maxRecDepth 65536 in
theorem w_c28 : (Jvm.Cond.code ({ cls := "java/lang/String", name := "<init>", desc := "([CIILjava/lang/Void;)V" } : Jvm.MethodName) jdk_42_method_149_code (6 : Nat) (Option.none : Option Jvm.ClassFile.FieldType)).before args0 about1 = true := code_word (m := ⟨11, 5⟩) (meth := k11m5) (c := k11c5) (by decide +kernel) rfl rfl rfl (by decide +kernel)
set_option maxRecDepth 65536 in
theorem w_c29 : (Jvm.Cond.code ({ cls := "java/lang/StringUTF16", name := "compress", desc := "([CII)[B" } : Jvm.MethodName) jdk_52_method_16_code (6 : Nat) (Option.some (Jvm.ClassFile.FieldType.array Jvm.ClassFile.FieldType.byte))).before args0 about1 = true := code_word (m := ⟨14, 2⟩) (meth := k14m2) (c := k14c2) (by decide +kernel) rfl rfl rfl (by decide +kernel)
set_option maxRecDepth 65536 in
theorem w_c30 : (Jvm.Cond.code ({ cls := "java/lang/StringUTF16", name := "compress", desc := "([CI[BII)I" } : Jvm.MethodName) jdk_52_method_21_code (7 : Nat) (Option.some Jvm.ClassFile.FieldType.int)).before args0 about1 = true := code_word (m := ⟨14, 3⟩) (meth := k14m3) (c := k14c3) (by decide +kernel) rfl rfl rfl (by decide +kernel)
set_option maxRecDepth 65536 in
theorem w_c31 : (Jvm.Cond.code ({ cls := "java/lang/StringUTF16", name := "coderFromArrayLen", desc := "([BI)B" } : Jvm.MethodName) jdk_52_method_15_code (2 : Nat) (Option.some Jvm.ClassFile.FieldType.byte)).before args0 about1 = true := code_word (m := ⟨14, 1⟩) (meth := k14m1) (c := k14c1) (by decide +kernel) rfl rfl rfl (by decide +kernel)
set_option maxRecDepth 65536 in
theorem w_c32 : (Jvm.Cond.code ({ cls := "java/lang/String", name := "equals", desc := "(Ljava/lang/Object;)Z" } : Jvm.MethodName) jdk_42_method_66_code (3 : Nat) (Option.some Jvm.ClassFile.FieldType.boolean)).before args0 about1 = true := code_word (m := ⟨11, 4⟩) (meth := k11m4) (c := k11c4) (by decide +kernel) rfl rfl rfl (by decide +kernel)
set_option maxRecDepth 65536 in
theorem w_c33 : (Jvm.Cond.code ({ cls := "java/lang/StringLatin1", name := "equals", desc := "([B[B)Z" } : Jvm.MethodName) jdk_43_method_13_code (3 : Nat) (Option.some Jvm.ClassFile.FieldType.boolean)).before args0 about1 = true := code_word (m := ⟨13, 3⟩) (meth := k13m3) (c := k13c3) (by decide +kernel) rfl rfl rfl (by decide +kernel)
set_option maxRecDepth 65536 in
theorem w_c34 : (Jvm.Cond.code ({ cls := "java/lang/String", name := "length", desc := "()I" } : Jvm.MethodName) jdk_42_method_54_code (1 : Nat) (Option.some Jvm.ClassFile.FieldType.int)).before args0 about1 = true := code_word (m := ⟨11, 2⟩) (meth := k11m2) (c := k11c2) (by decide +kernel) rfl rfl rfl (by decide +kernel)
set_option maxRecDepth 65536 in
theorem w_c35 : (Jvm.Cond.code ({ cls := "java/lang/String", name := "coder", desc := "()B" } : Jvm.MethodName) jdk_42_method_152_code (1 : Nat) (Option.some Jvm.ClassFile.FieldType.byte)).before args0 about1 = true := code_word (m := ⟨11, 6⟩) (meth := k11m6) (c := k11c6) (by decide +kernel) rfl rfl rfl (by decide +kernel)
set_option maxRecDepth 65536 in
theorem w_c36 : (Jvm.Cond.code ({ cls := "java/lang/String", name := "charAt", desc := "(I)C" } : Jvm.MethodName) jdk_42_method_56_code (2 : Nat) (Option.some Jvm.ClassFile.FieldType.char)).before args0 about1 = true := code_word (m := ⟨11, 3⟩) (meth := k11m3) (c := k11c3) (by decide +kernel) rfl rfl rfl (by decide +kernel)
set_option maxRecDepth 65536 in
theorem w_c37 : (Jvm.Cond.code ({ cls := "java/lang/String", name := "isLatin1", desc := "()Z" } : Jvm.MethodName) jdk_42_method_154_code (1 : Nat) (Option.some Jvm.ClassFile.FieldType.boolean)).before args0 about1 = true := code_word (m := ⟨11, 7⟩) (meth := k11m7) (c := k11c7) (by decide +kernel) rfl rfl rfl (by decide +kernel)
set_option maxRecDepth 65536 in
theorem w_c38 : (Jvm.Cond.code ({ cls := "java/lang/StringLatin1", name := "charAt", desc := "([BI)C" } : Jvm.MethodName) jdk_43_method_2_code (2 : Nat) (Option.some Jvm.ClassFile.FieldType.char)).before args0 about1 = true := code_word (m := ⟨13, 1⟩) (meth := k13m1) (c := k13c1) (by decide +kernel) rfl rfl rfl (by decide +kernel)
set_option maxRecDepth 65536 in
theorem w_c39 : (Jvm.Cond.code ({ cls := "java/lang/String", name := "checkIndex", desc := "(II)V" } : Jvm.MethodName) jdk_42_method_155_code (2 : Nat) (Option.none : Option Jvm.ClassFile.FieldType)).before args0 about1 = true := code_word (m := ⟨11, 8⟩) (meth := k11m8) (c := k11c8) (by decide +kernel) rfl rfl rfl (by decide +kernel)
set_option maxRecDepth 65536 in
theorem w_c40 : (Jvm.Cond.code ({ cls := "jdk/internal/util/Preconditions", name := "checkIndex", desc := "(IILjava/util/function/BiFunction;)I" } : Jvm.MethodName) jdk_41_method_11_code (3 : Nat) (Option.some Jvm.ClassFile.FieldType.int)).before args0 about1 = true := code_word (m := ⟨15, 1⟩) (meth := k15m1) (c := k15c1) (by decide +kernel) rfl rfl rfl (by decide +kernel)
def codes1 : List Jvm.Cond := [Jvm.Cond.code x code maxLocals ret, Jvm.Cond.code ({ cls := "com/example/needle_in_json/needleinjson/MaskedDigitsResumeAfterStringPinLaw", name := "prefix", desc := "(JI)[C" } : Jvm.MethodName) method_4_code (4 : Nat) (Option.some (Jvm.ClassFile.FieldType.array Jvm.ClassFile.FieldType.char)), Jvm.Cond.code ({ cls := "com/example/needle_in_json/needleinjson/MaskedDigitsResumeAfterStringPinLaw", name := "d", desc := "(JI)C" } : Jvm.MethodName) method_2_code (3 : Nat) (Option.some Jvm.ClassFile.FieldType.char), Jvm.Cond.code ({ cls := "com/example/needle_in_json/needleinjson/MaskedDigitsResumeAfterStringPinLaw", name := "special", desc := "(I)C" } : Jvm.MethodName) method_3_code (3 : Nat) (Option.some Jvm.ClassFile.FieldType.char), Jvm.Cond.code ({ cls := "com/example/needle_in_json/needleinjson/MaskedDigitsResumeAfterStringPinLaw", name := "suffix", desc := "(JI)[C" } : Jvm.MethodName) method_5_code (4 : Nat) (Option.some (Jvm.ClassFile.FieldType.array Jvm.ClassFile.FieldType.char)), Jvm.Cond.code ({ cls := "com/example/needle_in_json/needleinjson/MaskedDigits", name := "<init>", desc := "()V" } : Jvm.MethodName) prog_32_method_1_code (1 : Nat) (Option.none : Option Jvm.ClassFile.FieldType), Jvm.Cond.code ({ cls := "java/lang/Object", name := "<init>", desc := "()V" } : Jvm.MethodName) object_method_1_code (1 : Nat) (Option.none : Option Jvm.ClassFile.FieldType), Jvm.Cond.code ({ cls := "java/lang/StringBuilder", name := "<init>", desc := "()V" } : Jvm.MethodName) jdk_67_method_1_code (1 : Nat) (Option.none : Option Jvm.ClassFile.FieldType), Jvm.Cond.code ({ cls := "java/lang/AbstractStringBuilder", name := "<init>", desc := "(I)V" } : Jvm.MethodName) jdk_68_method_2_code (2 : Nat) (Option.none : Option Jvm.ClassFile.FieldType), Jvm.Cond.code ({ cls := "com/example/needle_in_json/needleinjson/MaskedDigits", name := "mask", desc := "([CII)V" } : Jvm.MethodName) prog_32_method_5_code (10 : Nat) (Option.none : Option Jvm.ClassFile.FieldType), Jvm.Cond.code ({ cls := "java/lang/Math", name := "min", desc := "(II)I" } : Jvm.MethodName) jdk_29_method_69_code (2 : Nat) (Option.some Jvm.ClassFile.FieldType.int), Jvm.Cond.code ({ cls := "com/example/needle_in_json/needleinjson/MaskedDigits", name := "mayStandForDigit", desc := "(C)Z" } : Jvm.MethodName) prog_32_method_12_code (1 : Nat) (Option.some Jvm.ClassFile.FieldType.boolean), Jvm.Cond.code ({ cls := "com/example/needle_in_json/needleinjson/MaskedDigits", name := "isDigit", desc := "(C)Z" } : Jvm.MethodName) prog_32_method_11_code (1 : Nat) (Option.some Jvm.ClassFile.FieldType.boolean), Jvm.Cond.code ({ cls := "com/example/needle_in_json/needleinjson/MaskedDigits", name := "escapeMayGoOn", desc := "([CII)Z" } : Jvm.MethodName) prog_32_method_8_code (3 : Nat) (Option.some Jvm.ClassFile.FieldType.boolean), Jvm.Cond.code ({ cls := "com/example/needle_in_json/needleinjson/MaskedDigits", name := "take", desc := "([CI)V" } : Jvm.MethodName) prog_32_method_7_code (4 : Nat) (Option.none : Option Jvm.ClassFile.FieldType), Jvm.Cond.code ({ cls := "com/example/needle_in_json/needleinjson/MaskedDigits", name := "holdsDigits", desc := "()Z" } : Jvm.MethodName) prog_32_method_3_code (1 : Nat) (Option.some Jvm.ClassFile.FieldType.boolean), Jvm.Cond.code ({ cls := "java/lang/StringBuilder", name := "length", desc := "()I" } : Jvm.MethodName) jdk_67_method_93_code (1 : Nat) (Option.some Jvm.ClassFile.FieldType.int), Jvm.Cond.code ({ cls := "java/lang/AbstractStringBuilder", name := "length", desc := "()I" } : Jvm.MethodName) jdk_68_method_6_code (1 : Nat) (Option.some Jvm.ClassFile.FieldType.int), Jvm.Cond.code ({ cls := "com/example/needle_in_json/needleinjson/MaskedDigits", name := "resumeAfterString", desc := "()V" } : Jvm.MethodName) prog_32_method_4_code (1 : Nat) (Option.none : Option Jvm.ClassFile.FieldType), Jvm.Cond.code ({ cls := "com/example/needle_in_json/needleinjson/MaskedDigits", name := "endsRowAndEscape", desc := "([CII)Z" } : Jvm.MethodName) prog_32_method_6_code (6 : Nat) (Option.some Jvm.ClassFile.FieldType.boolean), Jvm.Cond.code ({ cls := "com/example/needle_in_json/needleinjson/MaskedDigits", name := "maskEscaped", desc := "([CI)V" } : Jvm.MethodName) prog_32_method_9_code (4 : Nat) (Option.none : Option Jvm.ClassFile.FieldType), Jvm.Cond.code ({ cls := "com/example/needle_in_json/needleinjson/MaskedDigits", name := "count", desc := "([CIZ)V" } : Jvm.MethodName) prog_32_method_10_code (4 : Nat) (Option.none : Option Jvm.ClassFile.FieldType), Jvm.Cond.code ({ cls := "java/lang/StringBuilder", name := "append", desc := "(C)Ljava/lang/StringBuilder;" } : Jvm.MethodName) jdk_67_method_14_code (2 : Nat) (Option.some (Jvm.ClassFile.FieldType.object "java/lang/StringBuilder")), Jvm.Cond.code ({ cls := "java/lang/AbstractStringBuilder", name := "append", desc := "(C)Ljava/lang/AbstractStringBuilder;" } : Jvm.MethodName) jdk_68_method_31_code (2 : Nat) (Option.some (Jvm.ClassFile.FieldType.object "java/lang/AbstractStringBuilder")), Jvm.Cond.code ({ cls := "java/lang/AbstractStringBuilder", name := "ensureCapacityInternal", desc := "(I)V" } : Jvm.MethodName) jdk_68_method_9_code (3 : Nat) (Option.none : Option Jvm.ClassFile.FieldType), Jvm.Cond.code ({ cls := "java/lang/AbstractStringBuilder", name := "isLatin1", desc := "()Z" } : Jvm.MethodName) jdk_68_method_68_code (1 : Nat) (Option.some Jvm.ClassFile.FieldType.boolean), Jvm.Cond.code ({ cls := "java/lang/StringLatin1", name := "canEncode", desc := "(C)Z" } : Jvm.MethodName) jdk_43_method_3_code (1 : Nat) (Option.some Jvm.ClassFile.FieldType.boolean), Jvm.Cond.code ({ cls := "java/lang/String", name := "<init>", desc := "([C)V" } : Jvm.MethodName) jdk_42_method_3_code (2 : Nat) (Option.none : Option Jvm.ClassFile.FieldType), Jvm.Cond.code ({ cls := "java/lang/String", name := "<init>", desc := "([CIILjava/lang/Void;)V" } : Jvm.MethodName) jdk_42_method_149_code (6 : Nat) (Option.none : Option Jvm.ClassFile.FieldType), Jvm.Cond.code ({ cls := "java/lang/StringUTF16", name := "compress", desc := "([CII)[B" } : Jvm.MethodName) jdk_52_method_16_code (6 : Nat) (Option.some (Jvm.ClassFile.FieldType.array Jvm.ClassFile.FieldType.byte)), Jvm.Cond.code ({ cls := "java/lang/StringUTF16", name := "compress", desc := "([CI[BII)I" } : Jvm.MethodName) jdk_52_method_21_code (7 : Nat) (Option.some Jvm.ClassFile.FieldType.int), Jvm.Cond.code ({ cls := "java/lang/StringUTF16", name := "coderFromArrayLen", desc := "([BI)B" } : Jvm.MethodName) jdk_52_method_15_code (2 : Nat) (Option.some Jvm.ClassFile.FieldType.byte), Jvm.Cond.code ({ cls := "java/lang/String", name := "equals", desc := "(Ljava/lang/Object;)Z" } : Jvm.MethodName) jdk_42_method_66_code (3 : Nat) (Option.some Jvm.ClassFile.FieldType.boolean), Jvm.Cond.code ({ cls := "java/lang/StringLatin1", name := "equals", desc := "([B[B)Z" } : Jvm.MethodName) jdk_43_method_13_code (3 : Nat) (Option.some Jvm.ClassFile.FieldType.boolean), Jvm.Cond.code ({ cls := "java/lang/String", name := "length", desc := "()I" } : Jvm.MethodName) jdk_42_method_54_code (1 : Nat) (Option.some Jvm.ClassFile.FieldType.int), Jvm.Cond.code ({ cls := "java/lang/String", name := "coder", desc := "()B" } : Jvm.MethodName) jdk_42_method_152_code (1 : Nat) (Option.some Jvm.ClassFile.FieldType.byte), Jvm.Cond.code ({ cls := "java/lang/String", name := "charAt", desc := "(I)C" } : Jvm.MethodName) jdk_42_method_56_code (2 : Nat) (Option.some Jvm.ClassFile.FieldType.char), Jvm.Cond.code ({ cls := "java/lang/String", name := "isLatin1", desc := "()Z" } : Jvm.MethodName) jdk_42_method_154_code (1 : Nat) (Option.some Jvm.ClassFile.FieldType.boolean), Jvm.Cond.code ({ cls := "java/lang/StringLatin1", name := "charAt", desc := "([BI)C" } : Jvm.MethodName) jdk_43_method_2_code (2 : Nat) (Option.some Jvm.ClassFile.FieldType.char), Jvm.Cond.code ({ cls := "java/lang/String", name := "checkIndex", desc := "(II)V" } : Jvm.MethodName) jdk_42_method_155_code (2 : Nat) (Option.none : Option Jvm.ClassFile.FieldType), Jvm.Cond.code ({ cls := "jdk/internal/util/Preconditions", name := "checkIndex", desc := "(IILjava/util/function/BiFunction;)I" } : Jvm.MethodName) jdk_41_method_11_code (3 : Nat) (Option.some Jvm.ClassFile.FieldType.int)]
set_option maxRecDepth 65536 in
theorem codes_eq : words1.filter isCode = codes1 := rfl
theorem w_codes : ∀ c ∈ words1.filter isCode, c.before args0 about1 = true := by
  rw [codes_eq]
  intro c hc
  simp only [codes1, List.mem_cons, List.not_mem_nil, or_false] at hc
  rcases hc with rfl | rfl | rfl | rfl | rfl | rfl | rfl | rfl | rfl | rfl | rfl | rfl | rfl | rfl | rfl | rfl | rfl | rfl | rfl | rfl | rfl | rfl | rfl | rfl | rfl | rfl | rfl | rfl | rfl | rfl | rfl | rfl | rfl | rfl | rfl | rfl | rfl | rfl | rfl | rfl | rfl
  · exact w_c0
  · exact w_c1
  · exact w_c2
  · exact w_c3
  · exact w_c4
  · exact w_c5
  · exact w_c6
  · exact w_c7
  · exact w_c8
  · exact w_c9
  · exact w_c10
  · exact w_c11
  · exact w_c12
  · exact w_c13
  · exact w_c14
  · exact w_c15
  · exact w_c16
  · exact w_c17
  · exact w_c18
  · exact w_c19
  · exact w_c20
  · exact w_c21
  · exact w_c22
  · exact w_c23
  · exact w_c24
  · exact w_c25
  · exact w_c26
  · exact w_c27
  · exact w_c28
  · exact w_c29
  · exact w_c30
  · exact w_c31
  · exact w_c32
  · exact w_c33
  · exact w_c34
  · exact w_c35
  · exact w_c36
  · exact w_c37
  · exact w_c38
  · exact w_c39
  · exact w_c40
set_option maxRecDepth 65536 in
theorem w_t1 : (words1.take 24).all (fun c => isCode c || c.before args0 about1) = true := by decide +kernel
set_option maxRecDepth 65536 in
theorem w_t2 : ((words1.drop 24).take 24).all (fun c => isCode c || c.before args0 about1) = true := by decide +kernel
set_option maxRecDepth 65536 in
theorem w_t3 : (((words1.drop 24).drop 24).take 24).all (fun c => isCode c || c.before args0 about1) = true := by decide +kernel
set_option maxRecDepth 65536 in
theorem w_t4 : ((((words1.drop 24).drop 24).drop 24).take 24).all (fun c => isCode c || c.before args0 about1) = true := by decide +kernel
set_option maxRecDepth 65536 in
theorem w_t5 : (((((words1.drop 24).drop 24).drop 24).drop 24).take 24).all (fun c => isCode c || c.before args0 about1) = true := by decide +kernel
set_option maxRecDepth 65536 in
theorem w_t6 : ((((((words1.drop 24).drop 24).drop 24).drop 24).drop 24).take 24).all (fun c => isCode c || c.before args0 about1) = true := by decide +kernel
set_option maxRecDepth 65536 in
theorem w_t7 : (((((((words1.drop 24).drop 24).drop 24).drop 24).drop 24).drop 24).take 24).all (fun c => isCode c || c.before args0 about1) = true := by decide +kernel
set_option maxRecDepth 65536 in
theorem w_t8 : ((((((((words1.drop 24).drop 24).drop 24).drop 24).drop 24).drop 24).drop 24).take 24).all (fun c => isCode c || c.before args0 about1) = true := by decide +kernel
set_option maxRecDepth 65536 in
theorem w_t9 : ((((((((words1.drop 24).drop 24).drop 24).drop 24).drop 24).drop 24).drop 24).drop 24).all (fun c => isCode c || c.before args0 about1) = true := by decide +kernel
theorem w_tables : (allAtoms (Jvm.Cond.code x code maxLocals ret :: tables_1)).before args0 about1 = true := by
  rw [allAtoms_all]
  show words1.all (fun c => c.before args0 about1) = true
  refine all_split ?_ w_codes
  rw [← List.take_append_drop 24 words1, List.all_append, w_t1, ← List.take_append_drop 24 (words1.drop 24), List.all_append, w_t2, ← List.take_append_drop 24 ((words1.drop 24).drop 24), List.all_append, w_t3, ← List.take_append_drop 24 (((words1.drop 24).drop 24).drop 24), List.all_append, w_t4, ← List.take_append_drop 24 ((((words1.drop 24).drop 24).drop 24).drop 24), List.all_append, w_t5, ← List.take_append_drop 24 (((((words1.drop 24).drop 24).drop 24).drop 24).drop 24), List.all_append, w_t6, ← List.take_append_drop 24 ((((((words1.drop 24).drop 24).drop 24).drop 24).drop 24).drop 24), List.all_append, w_t7, ← List.take_append_drop 24 (((((((words1.drop 24).drop 24).drop 24).drop 24).drop 24).drop 24).drop 24), List.all_append, w_t8, w_t9]
  rfl
set_option maxRecDepth 65536 in
theorem w_rest : rest_1_c.before args0 about1 = true := by decide +kernel
set_option maxRecDepth 65536 in
theorem w_case : (Jvm.Cond.and given_1 narrow_1).before args0 about1 = true := by decide +kernel
set_option maxRecDepth 65536 in
theorem w_consts : constsHeld consts_1 about1 := Jvm.Lit.constsHeldB_iff.mp (by decide +kernel)
theorem w_applies : (headSpec (Jvm.Cond.code x code maxLocals ret :: tables_1) room_1).applies x e0.platform about1 = true :=
  (Spec.applies_iff w_frames).mpr ⟨w_running, w_runnable, w_alone, w_named, w_hears, w_ripe, w_room, w_tables⟩
theorem atStart : AtStart classFile x code maxLocals ret World_1 tables_1 room_1 Calls_1 rest_1 Pre_1 launch0 p0 e0 about1 theMethod args0 below0 :=
  ⟨lists_1, trivial, launch0.admits_env _ _ _, launch0.least_env, fairChoices_fair.cas, fairChoices_fair.clock, w_frames, w_args, w_heap, w_applies, ⟨w_consts, trivial⟩, w_rest, w_case⟩
end start1
theorem witness_1 : WitnessClaimed_1 := ⟨start1.p0, start1.e0, start1.about1, start1.theMethod, start1.args0, start1.below0, start1.atStart⟩
end Jvm.Pilot.@@N@@
