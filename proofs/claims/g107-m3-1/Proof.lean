import JvmDerived
import JvmDerived.Pilot.@@N@@Statement
import JvmDerived.Pilot.@@N@@Code
set_option linter.unusedVariables false
set_option linter.unusedSimpArgs false
@@BLOCK:TracedD.lean.txt@@
@@BLOCK:SetKit.lean.txt@@
namespace Jvm.RoadKit
open Sem ClassFile Op Lib Jvm.Stand Jvm.Free Jvm.LawKit
section New
variable {p : Program} {l : Launch} {e : Env} {R : Room} {s : State} {m : MethodId} {args : Array Value} {below : List Frame} {meth : Method} {c : Code} {T : State} {locs : List Loc} {cells slots : Nat}
theorem retI (X : Stand p l e R s m args below meth c T locs cells slots) (hx : p.tables.exec = Jvm.exec) {pc : Nat} {Ls : Array Slot} {z : Int32} {rest : List Value} (hret : meth.sig.returnType = some .int) (hd : decode c.code pc = .ok (.ireturn, 1)) {fs : List Frame}
    (hl : ∀ (f : JFrame) (acts : List Action), f.method = m → f.locked = none → f.entered = [] → (doReturn e (T.setTop f) acts (some (.int z))).1 = T.setFrames fs) : Steps p.tables e below (T.setTop (mkF m pc Ls (.int z :: rest))) (T.setFrames fs) := by
  have hm' : T.vm.method? m = some meth := X.method'
  have hn : narrow .int (.int z) = .int z := rfl
  show Steps p.tables e below (T.setTop { method := m, pc := pc, locals := Ls, stack := _ :: rest, locked := none }) _
  jvm_step X.here [X.here.top, hx, hd, hm', hret, hn]
  first | (intro acts; rw [hl _ acts rfl rfl rfl]) | rw [hl _ _ rfl rfl rfl]
  exact Steps.refl _
end New
end Jvm.RoadKit
/- laws to paste: Road.backV (cut by pick.py; bodies as the Statement names them) -/
namespace Jvm.Pilot.@@N@@
namespace StrChars
open Jvm Sem ClassFile Op Lib Jvm.Stand Jvm.Free.XT Jvm.Free.ALB Jvm.Free.JM Jvm.Free
open Jvm.Lib.Cold (StaticIs)
/-- a char array whose places are chars -/
def Ch (a : Addr) (A : Cell) (U : State) : Prop := Arr .char a A U ∧ Typed .char A
theorem Ch.mv {a : Addr} {A : Cell} {U U' : State} (h : Ch a A U) (hal : U.vm.Alike U'.vm) (hh : U'.heap = U.heap) : Ch a A U' := ⟨h.1.mv hal hh, h.2⟩
theorem Ch.keep {a : Addr} {A : Cell} {U U' : State} (h : Ch a A U) (hal : U.vm.Alike U'.vm) (hk : U'.heap[a]? = some A) : Ch a A U' := ⟨h.1.keep hal hk, h.2⟩
/-- what place i of a char[]'s cell holds -/
def cv (A : Cell) (i : Nat) : Int32 := match A.slots[i]? with | some (.int x) => x | _ => 0
theorem Ch.get {a : Addr} {A : Cell} {U : State} (h : Ch a A U) {i : Nat} (hi : i < A.slots.size) : A.slots[i]? = some (.int (cv A i)) := by
  have e := Array.getElem?_eq_getElem hi
  have f := h.2 i _ e
  unfold cv; rw [e]
  generalize A.slots[i] = v at f
  cases v <;> simp [fits] at f ⊢
/-- the byte that i2b leaves of a char -/
def lo8 (x : Int32) : Int32 := x.toInt8.toInt32
theorem fits_lo8 (y : Int32) : fits .byte (.int (lo8 y)) = true := by
  have h1 := y.toInt8.le_toInt
  have h2 := y.toInt8.toInt_lt
  simp only [lo8, fits, Bool.and_eq_true, decide_eq_true_eq, Int32.le_iff_toInt_le, Int8.toInt_toInt32, show (-128 : Int32).toInt = -128 from by decide, show (127 : Int32).toInt = 127 from by decide]
  omega
/-- A' is A but that each place j of lo .. hi - 1 holds f j -/
def Laid (A A' : Cell) (lo hi : Nat) (f : Nat → Value) : Prop := A'.cls = A.cls ∧ A'.vm = A.vm ∧ A'.slots.size = A.slots.size ∧ ∀ i, A'.slots[i]? = if lo ≤ i ∧ i < hi then some (f i) else A.slots[i]?
theorem Laid.zero (A : Cell) (lo : Nat) (f : Nat → Value) : Laid A A lo (lo + 0) f := ⟨rfl, rfl, rfl, fun i => by rw [if_neg (by omega)]⟩
theorem Laid.step {A Ak : Cell} {lo k : Nat} {f : Nat → Value} {v : Value} (h : Laid A Ak lo k f) (hlo : lo ≤ k) (hk : k < Ak.slots.size) (hv : v = f k) : Laid A (Ak.setSlot k v) lo (k + 1) f := by
  refine ⟨h.1, h.2.1, by simpa [Cell.setSlot] using h.2.2.1, fun i => ?_⟩
  by_cases e : k = i
  · subst e; rw [Cell.slots_setSlot_self v hk, if_pos (by omega), hv]
  · rw [Cell.slots_setSlot_ne v e, h.2.2.2 i]
    by_cases q : lo ≤ i ∧ i < k
    · rw [if_pos q, if_pos (by omega)]
    · rw [if_neg q, if_neg (by omega)]
def U16 : String := "java/lang/StringUTF16"
namespace Cmp5
def yN : MethodName := ⟨"java/lang/StringUTF16", "compress", "([CI[BII)I"⟩
abbrev yB : ByteArray := jdk_52_method_21_code
theorem d0 : decode yB 0 = .ok (.iconst 0, 1) := by decide +kernel
theorem d1 : decode yB 1 = .ok (.istore 5, 2) := by decide +kernel
theorem d3 : decode yB 3 = .ok (.iload 5, 2) := by decide +kernel
theorem d5 : decode yB 5 = .ok (.iload 4, 2) := by decide +kernel
theorem d7 : decode yB 7 = .ok (.if_icmp (.ge) 37, 3) := by decide +kernel
theorem d10 : decode yB 10 = .ok (.aload_n 0, 1) := by decide +kernel
theorem d11 : decode yB 11 = .ok (.iload_n 1, 1) := by decide +kernel
theorem d12 : decode yB 12 = .ok (.caload, 1) := by decide +kernel
theorem d13 : decode yB 13 = .ok (.istore 6, 2) := by decide +kernel
theorem d15 : decode yB 15 = .ok (.iload 6, 2) := by decide +kernel
theorem d17 : decode yB 17 = .ok (.sipush 255, 3) := by decide +kernel
theorem d20 : decode yB 20 = .ok (.if_icmp (.le) 6, 3) := by decide +kernel
theorem d26 : decode yB 26 = .ok (.aload_n 2, 1) := by decide +kernel
theorem d27 : decode yB 27 = .ok (.iload_n 3, 1) := by decide +kernel
theorem d28 : decode yB 28 = .ok (.iload 6, 2) := by decide +kernel
theorem d30 : decode yB 30 = .ok (.i2b, 1) := by decide +kernel
theorem d31 : decode yB 31 = .ok (.bastore, 1) := by decide +kernel
theorem d32 : decode yB 32 = .ok (.iinc 1 1, 3) := by decide +kernel
theorem d35 : decode yB 35 = .ok (.iinc 3 1, 3) := by decide +kernel
theorem d38 : decode yB 38 = .ok (.iinc 5 1, 3) := by decide +kernel
theorem d41 : decode yB 41 = .ok (.goto (-38), 3) := by decide +kernel
theorem d44 : decode yB 44 = .ok (.iload 4, 2) := by decide +kernel
theorem d46 : decode yB 46 = .ok (.ireturn, 1) := by decide +kernel
def site : List Cond := []
def tab : Cond := tabOf yN yB 7 (some .int) site
def P (b : Addr) (A : Cell) (d : Addr) (B : Cell) (o q len : Nat) (args : Array Value) (s : State) : Prop := args = #[.ref b, .int (Int32.ofNat o), .ref d, .int (Int32.ofNat q), .int (Int32.ofNat len)] ∧ Ch b A s ∧ Arr .byte d B s ∧ b ≠ d ∧ o + len ≤ A.slots.size ∧ q + len ≤ B.slots.size ∧ ∀ i, i < len → ¬ 255 < cv A (o + i)
def E (b : Addr) (A : Cell) (d : Addr) (B : Cell) (o q len : Nat) (r : Option Value) (s u : State) : Prop := r = some (.int (Int32.ofNat len)) ∧ ∃ B', Put d B' s u ∧ Laid B B' q (q + len) (fun j => Value.int (lo8 (cv A (o + (j - q)))))
/-- no char of the range above 255: len; the places written hold each char's low byte -/
theorem law (l : Launch) (b : Addr) (A : Cell) (d : Addr) (B : Cell) (o q len : Nat) : Law l yN 5 5 0 0 yB 7 (some .int) site (P b A d B o q len) (E b A d B o q len) (copyLocs d q len) 0 0 := by
  refine Law.of_walk (plainFor_of_name (by decide +kernel)) (by decide +kernel) (by decide +kernel) (by decide) (fun _ _ h => by rw [h.1]; rfl) (fun _ U U' hal hh h => ⟨h.1, h.2.1.mv hal hh, h.2.2.1.mv hal hh, h.2.2.2⟩) (fun r U U' V V' h1 hal h2 h => ⟨h.1, h.2.elim fun B' q => ⟨B', q.1.mv h1 h2, q.2⟩⟩) ?_
  intro p e s m args below meth c s₁ X0 hexec hbytes hml hret hlk hnm hown hh0 W hP
  obtain ⟨rfl, hA, hB, hne, l1, l2, hp⟩ := hP
  have c1 : Steps p.tables e below (s₁.setTop (entryFrame m #[.ref b, .int (Int32.ofNat o), .ref d, .int (Int32.ofNat q), .int (Int32.ofNat len)] 7)) (s₁.setTop (mkF m 0 #[.val (.ref b), .val (.int (Int32.ofNat o)), .val (.ref d), .val (.int (Int32.ofNat q)), .val (.int (Int32.ofNat len)), .unset, .unset] [])) := entry rfl
  have hA0 := hA.1.mv X0.warmed.alike hh0
  have hB0 := hB.mv X0.warmed.alike hh0
  have a31 := hA.1.2.2.2
  have c2 : Steps p.tables e below (s₁.setTop (entryFrame m #[.ref b, .int (Int32.ofNat o), .ref d, .int (Int32.ofNat q), .int (Int32.ofNat len)] 7)) (s₁.setTop (mkF m 3 #[.val (.ref b), .val (.int (Int32.ofNat o)), .val (.ref d), .val (.int (Int32.ofNat q)), .val (.int (Int32.ofNat len)), .val (.int 0), .unset] [])) := c1.trans (by
    refine iconstV X0.here hexec rfl 0 (hb hbytes d0) (by decide) ?_
    refine XS.istore X0.here hexec rfl (hb hbytes d1) rfl rfl ?_
    exact Steps.refl _)
  have loop : ∀ (r i : Nat), i + r = len → ∀ (z : Slot), (z = .unset ∨ ∃ w, z = .val w ∧ w.category = 1) → ∀ (Tl : State) (Bk : Cell), Stand p l e { frames := 0, locals := 0, cells := 0, slots := 0 } s m #[.ref b, .int (Int32.ofNat o), .ref d, .int (Int32.ofNat q), .int (Int32.ofNat len)] below meth c Tl ([] ++ copyLocs d q i) 0 0 → Put d Bk s₁ Tl → Laid B Bk q (q + i) (fun j => Value.int (lo8 (cv A (o + (j - q))))) →
      Steps p.tables e below (s₁.setTop (entryFrame m #[.ref b, .int (Int32.ofNat o), .ref d, .int (Int32.ofNat q), .int (Int32.ofNat len)] 7)) (Tl.setTop (mkF m 3 #[.val (.ref b), .val (.int (Int32.ofNat (o + i))), .val (.ref d), .val (.int (Int32.ofNat (q + i))), .val (.int (Int32.ofNat len)), .val (.int (Int32.ofNat i)), z] [])) → ∃ (T' : State) (B' : Cell) (z' : Slot), Stand p l e { frames := 0, locals := 0, cells := 0, slots := 0 } s m #[.ref b, .int (Int32.ofNat o), .ref d, .int (Int32.ofNat q), .int (Int32.ofNat len)] below meth c T' ([] ++ copyLocs d q len) 0 0 ∧ Put d B' s₁ T' ∧ Laid B B' q (q + len) (fun j => Value.int (lo8 (cv A (o + (j - q))))) ∧
      Steps p.tables e below (s₁.setTop (entryFrame m #[.ref b, .int (Int32.ofNat o), .ref d, .int (Int32.ofNat q), .int (Int32.ofNat len)] 7)) (T'.setTop (mkF m 3 #[.val (.ref b), .val (.int (Int32.ofNat (o + len))), .val (.ref d), .val (.int (Int32.ofNat (q + len))), .val (.int (Int32.ofNat len)), .val (.int (Int32.ofNat len)), z'] [])) := by
    intro r
    induction r with
    | zero =>
      intro i hi z hz Tl Bk Xl pl fl cl
      have hil : i = len := by omega
      rw [hil] at Xl fl cl
      exact ⟨Tl, Bk, z, Xl, pl, fl, cl⟩
    | succ r ih =>
      intro i hi z hz Tl Bk Xl pl fl cl
      have all := X0.warmed.alike.symm.trans Xl.warmed.alike
      have hAl := hA0.keep all (pl.other hne hA0.1)
      have hBk := hB0.like all pl.1 fl.1 fl.2.1 fl.2.2.1
      have hlt : q + i < Bk.slots.size := by rw [fl.2.2.1]; omega
      have c3 : Steps p.tables e below (s₁.setTop (entryFrame m #[.ref b, .int (Int32.ofNat o), .ref d, .int (Int32.ofNat q), .int (Int32.ofNat len)] 7)) (Tl.setTop (mkF m 12 #[.val (.ref b), .val (.int (Int32.ofNat (o + i))), .val (.ref d), .val (.int (Int32.ofNat (q + i))), .val (.int (Int32.ofNat len)), .val (.int (Int32.ofNat i)), z] [.int (Int32.ofNat (o + i)), .ref b])) := cl.trans (by
        refine XS.iload Xl.here hexec rfl (hb hbytes d3) rfl ?_
        refine XS.iload Xl.here hexec rfl (hb hbytes d5) rfl ?_
        refine XS.icmpNo Xl.here hexec rfl (hb hbytes d7) rfl (ii_ge_f (lt32 (by omega) (by omega))) ?_
        refine XS.aloadN Xl.here hexec rfl (hb hbytes d10) rfl rfl ?_
        refine XS.iloadN Xl.here hexec rfl (hb hbytes d11) rfl ?_
        exact Steps.refl _)
      have c4 : Steps p.tables e below (s₁.setTop (entryFrame m #[.ref b, .int (Int32.ofNat o), .ref d, .int (Int32.ofNat q), .int (Int32.ofNat len)] 7)) (Tl.setTop (mkF m 13 #[.val (.ref b), .val (.int (Int32.ofNat (o + i))), .val (.ref d), .val (.int (Int32.ofNat (q + i))), .val (.int (Int32.ofNat len)), .val (.int (Int32.ofNat i)), z] [.int (cv A (o + i))])) := c3.trans (by
        refine Xl.aget hexec hAl rfl (hA.get (i := o + i) (by omega)) rfl rfl (hb hbytes d12) ?_
        exact Steps.refl _)
      have c5 : Steps p.tables e below (s₁.setTop (entryFrame m #[.ref b, .int (Int32.ofNat o), .ref d, .int (Int32.ofNat q), .int (Int32.ofNat len)] 7)) (Tl.setTop (mkF m 15 #[.val (.ref b), .val (.int (Int32.ofNat (o + i))), .val (.ref d), .val (.int (Int32.ofNat (q + i))), .val (.int (Int32.ofNat len)), .val (.int (Int32.ofNat i)), .val (.int (cv A (o + i)))] [])) := c4.trans (by
        refine XS.istoreS Xl.here hexec rfl (hb hbytes d13) rfl rfl hz ?_
        exact Steps.refl _)
      have c6 : Steps p.tables e below (s₁.setTop (entryFrame m #[.ref b, .int (Int32.ofNat o), .ref d, .int (Int32.ofNat q), .int (Int32.ofNat len)] 7)) (Tl.setTop (mkF m 31 #[.val (.ref b), .val (.int (Int32.ofNat (o + i))), .val (.ref d), .val (.int (Int32.ofNat (q + i))), .val (.int (Int32.ofNat len)), .val (.int (Int32.ofNat i)), .val (.int (cv A (o + i)))] [.int (lo8 (cv A (o + i))), .int (Int32.ofNat (q + i)), .ref d])) := c5.trans (by
        refine XS.iload Xl.here hexec rfl (hb hbytes d15) rfl ?_
        refine sipushV Xl.here hexec rfl 255 (hb hbytes d17) (by decide) ?_
        refine XS.icmpYes Xl.here hexec rfl (pc0 := 20) rfl (hb hbytes d20) rfl (ii_le_t (hp i (by omega))) (by decide) rfl ?_
        refine XS.aloadN Xl.here hexec rfl (hb hbytes d26) rfl rfl ?_
        refine XS.iloadN Xl.here hexec rfl (hb hbytes d27) rfl ?_
        refine XS.iload Xl.here hexec rfl (hb hbytes d28) rfl ?_
        refine i2b Xl.here hexec rfl (hb hbytes d30) rfl ?_
        exact Steps.refl _)
      obtain ⟨T7, X7, p7, st7⟩ := Xl.aput hexec hBk rfl hlt rfl (fits_lo8 (cv A (o + i))) (g := (mkF m 31 #[.val (.ref b), .val (.int (Int32.ofNat (o + i))), .val (.ref d), .val (.int (Int32.ofNat (q + i))), .val (.int (Int32.ofNat len)), .val (.int (Int32.ofNat i)), .val (.int (cv A (o + i)))] [.int (lo8 (cv A (o + i))), .int (Int32.ofNat (q + i)), .ref d])) rfl (rest := []) rfl (hb hbytes d31)
      have c8 : Steps p.tables e below (s₁.setTop (entryFrame m #[.ref b, .int (Int32.ofNat o), .ref d, .int (Int32.ofNat q), .int (Int32.ofNat len)] 7)) (T7.setTop (mkF m 32 #[.val (.ref b), .val (.int (Int32.ofNat (o + i))), .val (.ref d), .val (.int (Int32.ofNat (q + i))), .val (.int (Int32.ofNat len)), .val (.int (Int32.ofNat i)), .val (.int (cv A (o + i)))] [])) := c6.trans (st7 _ (Steps.refl _))
      have c9 : Steps p.tables e below (s₁.setTop (entryFrame m #[.ref b, .int (Int32.ofNat o), .ref d, .int (Int32.ofNat q), .int (Int32.ofNat len)] 7)) (T7.setTop (mkF m 3 #[.val (.ref b), .val (.int (Int32.ofNat (o + i) + 1)), .val (.ref d), .val (.int (Int32.ofNat (q + i) + 1)), .val (.int (Int32.ofNat len)), .val (.int (Int32.ofNat i + 1)), .val (.int (cv A (o + i)))] [])) := c8.trans (by
        refine iincV X7.here hexec rfl 1 (hb hbytes d32) (by decide) rfl rfl ?_
        refine iincV X7.here hexec rfl 1 (hb hbytes d35) (by decide) rfl rfl ?_
        refine iincV X7.here hexec rfl 1 (hb hbytes d38) (by decide) rfl rfl ?_
        refine XS.goto X7.here hexec rfl (pc0 := 41) rfl (hb hbytes d41) (by decide) rfl ?_
        exact Steps.refl _)
      have c10 : Steps p.tables e below (s₁.setTop (entryFrame m #[.ref b, .int (Int32.ofNat o), .ref d, .int (Int32.ofNat q), .int (Int32.ofNat len)] 7)) (T7.setTop (mkF m 3 #[.val (.ref b), .val (.int (Int32.ofNat (o + (i + 1)))), .val (.ref d), .val (.int (Int32.ofNat (q + (i + 1)))), .val (.int (Int32.ofNat len)), .val (.int (Int32.ofNat (i + 1))), .val (.int (cv A (o + i)))] [])) := by
        have := c9
        rw [succ32, succ32, succ32] at this
        exact this
      exact ih (i + 1) (by omega) _ (Or.inr ⟨_, rfl, rfl⟩) T7 _ (by rw [copyLocs_step, ← List.append_assoc]; exact X7) (pl.trans p7) (fl.step (by omega) hlt (by simp)) c10
  obtain ⟨T9, B9, z9, X9, p9, f9, g9⟩ := loop len 0 (by omega) .unset (Or.inl rfl) s₁ B (by simpa [copyLocs] using X0) ⟨hB0.1, fun _ _ => rfl, rfl⟩ (Laid.zero _ _ _) c2
  have c11 : Steps p.tables e below (s₁.setTop (entryFrame m #[.ref b, .int (Int32.ofNat o), .ref d, .int (Int32.ofNat q), .int (Int32.ofNat len)] 7)) (T9.setTop (mkF m 46 #[.val (.ref b), .val (.int (Int32.ofNat (o + len))), .val (.ref d), .val (.int (Int32.ofNat (q + len))), .val (.int (Int32.ofNat len)), .val (.int (Int32.ofNat len)), z9] [.int (Int32.ofNat len)])) := g9.trans (by
    refine XS.iload X9.here hexec rfl (hb hbytes d3) rfl ?_
    refine XS.iload X9.here hexec rfl (hb hbytes d5) rfl ?_
    refine XS.icmpYes X9.here hexec rfl (pc0 := 7) rfl (hb hbytes d7) rfl (ii_ge_t (nlt32 (by omega) (Nat.le_refl _))) (by decide) rfl ?_
    refine XS.iload X9.here hexec rfl (hb hbytes d44) rfl ?_
    exact Steps.refl _)
  exact ⟨T9, some (.int (Int32.ofNat len)), _, _, _, X9, by simp, rfl, rfl, (fun h => by cases h), ⟨rfl, B9, p9.from hh0, f9⟩, fun fs hl => c11.trans (X9.ireturnOut hexec hret rfl (Or.inl rfl) (hb hbytes d46) hl)⟩
end Cmp5
namespace Cmp3
def yN : MethodName := ⟨"java/lang/StringUTF16", "compress", "([CII)[B"⟩
abbrev yB : ByteArray := jdk_52_method_16_code
theorem d0 : decode yB 0 = .ok (.iload_n 2, 1) := by decide +kernel
theorem d1 : decode yB 1 = .ok (.newarray .byte, 2) := by decide +kernel
theorem d3 : decode yB 3 = .ok (.astore_n 3, 1) := by decide +kernel
theorem d4 : decode yB 4 = .ok (.aload_n 0, 1) := by decide +kernel
theorem d5 : decode yB 5 = .ok (.iload_n 1, 1) := by decide +kernel
theorem d6 : decode yB 6 = .ok (.aload_n 3, 1) := by decide +kernel
theorem d7 : decode yB 7 = .ok (.iconst 0, 1) := by decide +kernel
theorem d8 : decode yB 8 = .ok (.iload_n 2, 1) := by decide +kernel
theorem d9 : decode yB 9 = .ok (.invokestatic 115, 3) := by decide +kernel
theorem d12 : decode yB 12 = .ok (.istore 4, 2) := by decide +kernel
theorem d14 : decode yB 14 = .ok (.iload 4, 2) := by decide +kernel
theorem d16 : decode yB 16 = .ok (.iload_n 2, 1) := by decide +kernel
theorem d17 : decode yB 17 = .ok (.if_icmp (.eq) 40, 3) := by decide +kernel
theorem d57 : decode yB 57 = .ok (.aload_n 3, 1) := by decide +kernel
theorem d58 : decode yB 58 = .ok (.areturn, 1) := by decide +kernel
def site : List Cond := [.arrayClass .byte, Cmp5.tab] ++ staticW U16 115 Cmp5.yN
def tab : Cond := tabOf yN yB 6 (some (.array .byte)) site
def P (b : Addr) (A : Cell) (o len : Nat) (args : Array Value) (s : State) : Prop := args = #[.ref b, .int (Int32.ofNat o), .int (Int32.ofNat len)] ∧ Ch b A s ∧ o + len ≤ A.slots.size ∧ len ≤ 536870912 ∧ ∀ i, i < len → ¬ 255 < cv A (o + i)
def E (b : Addr) (A : Cell) (o len : Nat) (r : Option Value) (s u : State) : Prop := NewArr .byte "[B" len (fun j => .int (lo8 (cv A (o + j)))) r s u ∧ u.heap.size = s.heap.size + 1
/-- no char of the range above 255: a new byte[] of their low bytes -/
theorem law (l : Launch) (b : Addr) (A : Cell) (o len : Nat) : Law l yN 3 3 1 18 yB 6 (some (.array .byte)) site (P b A o len) (E b A o len) [] 1 len := by
  refine Law.of_walk (plainFor_of_name (by decide +kernel)) (by decide +kernel) (by decide +kernel) (by decide) (fun _ _ h => by rw [h.1]; rfl) (fun _ U U' hal hh h => ⟨h.1, h.2.1.mv hal hh, h.2.2⟩) (fun r U U' V V' h1 hal h2 h => ⟨NewArr.mv r U U' V V' h1 hal h2 h.1, by rw [h1, h2]; exact h.2⟩) ?_
  intro p e s m args below meth c s₁ X0 hexec hbytes hml hret hlk hnm hown hh0 W hP
  obtain ⟨rfl, hA, l1, l2, hp⟩ := hP
  have a31 := hA.1.2.2.2
  have c1 : Steps p.tables e below (s₁.setTop (entryFrame m #[.ref b, .int (Int32.ofNat o), .int (Int32.ofNat len)] 6)) (s₁.setTop (mkF m 0 #[.val (.ref b), .val (.int (Int32.ofNat o)), .val (.int (Int32.ofNat len)), .unset, .unset, .unset] [])) := entry rfl
  have c2 : Steps p.tables e below (s₁.setTop (entryFrame m #[.ref b, .int (Int32.ofNat o), .int (Int32.ofNat len)] 6)) (s₁.setTop (mkF m 1 #[.val (.ref b), .val (.int (Int32.ofNat o)), .val (.int (Int32.ofNat len)), .unset, .unset, .unset] [.int (Int32.ofNat len)])) := c1.trans (by
    refine XS.iloadN X0.here hexec rfl (hb hbytes d0) rfl ?_
    exact Steps.refl _)
  obtain ⟨T3, B3, X3, ba3, bs3, bv3, bh3, bf3, st3⟩ := X0.anew hexec (atype := .byte) (wk W (.arrayClass .byte)) rfl (by show len * 1 ≤ _; omega) (by omega) (g := (mkF m 1 #[.val (.ref b), .val (.int (Int32.ofNat o)), .val (.int (Int32.ofNat len)), .unset, .unset, .unset] [.int (Int32.ofNat len)])) rfl (hb hbytes d1) (rest := []) rfl (Nat.le_refl _) (by show 0 + len ≤ len; omega)
  rw [hh0] at ba3 st3
  have kp3 : XT.Kept s T3 := (XT.Kept.of_eq hh0).push bh3
  have hA3 := hA.keep X3.warmed.alike (kp3 _ _ hA.1.1)
  have hne : b ≠ s.heap.size := hA.1.ne
  have c4 : Steps p.tables e below (s₁.setTop (entryFrame m #[.ref b, .int (Int32.ofNat o), .int (Int32.ofNat len)] 6)) (T3.setTop (mkF m 3 #[.val (.ref b), .val (.int (Int32.ofNat o)), .val (.int (Int32.ofNat len)), .unset, .unset, .unset] [.ref s.heap.size])) := c2.trans (st3 _ (Steps.refl _))
  have c5 : Steps p.tables e below (s₁.setTop (entryFrame m #[.ref b, .int (Int32.ofNat o), .int (Int32.ofNat len)] 6)) (T3.setTop (mkF m 9 #[.val (.ref b), .val (.int (Int32.ofNat o)), .val (.int (Int32.ofNat len)), .val (.ref s.heap.size), .unset, .unset] [.int (Int32.ofNat len), .int 0, .ref s.heap.size, .int (Int32.ofNat o), .ref b])) := c4.trans (by
    refine XS.astoreN X3.here hexec rfl (hb hbytes d3) rfl rfl rfl ?_
    refine XS.aloadN X3.here hexec rfl (hb hbytes d4) rfl rfl ?_
    refine XS.iloadN X3.here hexec rfl (hb hbytes d5) rfl ?_
    refine XS.aloadN X3.here hexec rfl (hb hbytes d6) rfl rfl ?_
    refine iconstV X3.here hexec rfl 0 (hb hbytes d7) (by decide) ?_
    refine XS.iloadN X3.here hexec rfl (hb hbytes d8) rfl ?_
    exact Steps.refl _)
  obtain ⟨v6, T6, X6, E6, g6⟩ := X3.callS hexec (Cmp5.law l b A s.heap.size B3 o 0 len) hown (wks W (staticW U16 115 Cmp5.yN)) (wk W Cmp5.tab) (W := 0) (Nat.le_of_ble_eq_true rfl) (Nat.le_of_ble_eq_true rfl) (Nat.le_refl _) (by show 0 + len + 0 ≤ len; omega) (g := (mkF m 9 #[.val (.ref b), .val (.int (Int32.ofNat o)), .val (.int (Int32.ofNat len)), .val (.ref s.heap.size), .unset, .unset] [.int (Int32.ofNat len), .int (Int32.ofNat 0), .ref s.heap.size, .int (Int32.ofNat o), .ref b])) rfl (by rw [hml]; rfl) c5 (argsL := [.ref b, .int (Int32.ofNat o), .ref s.heap.size, .int (Int32.ofNat 0), .int (Int32.ofNat len)]) (rest := []) rfl rfl (by show 2 * 0 + 0 ≤ _; decide) (hb hbytes d9) (⟨rfl, hA3, ba3, hne, l1, by rw [bs3]; simp, hp⟩)
  obtain ⟨rfl, B6, p6, f6⟩ := E6
  have c7 : Steps p.tables e below (s₁.setTop (entryFrame m #[.ref b, .int (Int32.ofNat o), .int (Int32.ofNat len)] 6)) (T6.setTop (mkF m 12 #[.val (.ref b), .val (.int (Int32.ofNat o)), .val (.int (Int32.ofNat len)), .val (.ref s.heap.size), .unset, .unset] [.int (Int32.ofNat len)])) := g6
  have c8 : Steps p.tables e below (s₁.setTop (entryFrame m #[.ref b, .int (Int32.ofNat o), .int (Int32.ofNat len)] 6)) (T6.setTop (mkF m 58 #[.val (.ref b), .val (.int (Int32.ofNat o)), .val (.int (Int32.ofNat len)), .val (.ref s.heap.size), .val (.int (Int32.ofNat len)), .unset] [.ref s.heap.size])) := c7.trans (by
    refine XS.istore X6.here hexec rfl (hb hbytes d12) rfl rfl ?_
    refine XS.iload X6.here hexec rfl (hb hbytes d14) rfl ?_
    refine XS.iloadN X6.here hexec rfl (hb hbytes d16) rfl ?_
    refine XS.icmpYes X6.here hexec rfl (pc0 := 17) rfl (hb hbytes d17) rfl (ii_eq_t rfl) (by decide) rfl ?_
    refine XS.aloadN X6.here hexec rfl (hb hbytes d57) rfl rfl ?_
    exact Steps.refl _)
  have X8 := X6.wide (L' := []) (cells' := 1) (slots' := len) (fun x hx hlt => by
    simp only [List.nil_append, copyLocs, List.mem_map, List.mem_range] at hx
    obtain ⟨i, -, rfl⟩ := hx
    exact absurd hlt (Nat.lt_irrefl _)) (Nat.le_refl _) (by omega)
  exact ⟨T6, some (.ref s.heap.size), _, _, _, X8, rfl, rfl, rfl, (fun h => by cases h), ⟨⟨rfl, B6, ba3.like (X3.warmed.alike.symm.trans X6.warmed.alike) p6.1 f6.1 f6.2.1 f6.2.2.1, f6.2.1.trans bv3, by rw [X6.warmed.alike.findClass, f6.1]; exact bf3, by rw [f6.2.2.1, bs3]; simp, fun j hj => by rw [f6.2.2.2 j, if_pos (by omega)]; rfl, kp3.put p6 (Nat.le_refl _)⟩, by rw [p6.2.2, bh3, hh0]; simp⟩, fun fs hl => c8.trans (X8.areturnOut hexec rfl hret rfl (hb hbytes d58) hl)⟩
end Cmp3
namespace CodL
def yN : MethodName := ⟨"java/lang/StringUTF16", "coderFromArrayLen", "([BI)B"⟩
abbrev yB : ByteArray := jdk_52_method_15_code
theorem d0 : decode yB 0 = .ok (.iload_n 1, 1) := by decide +kernel
theorem d1 : decode yB 1 = .ok (.aload_n 0, 1) := by decide +kernel
theorem d2 : decode yB 2 = .ok (.arraylength, 1) := by decide +kernel
theorem d3 : decode yB 3 = .ok (.isub, 1) := by decide +kernel
theorem d4 : decode yB 4 = .ok (.bipush 31, 2) := by decide +kernel
theorem d6 : decode yB 6 = .ok (.iushr, 1) := by decide +kernel
theorem d7 : decode yB 7 = .ok (.i2b, 1) := by decide +kernel
theorem d8 : decode yB 8 = .ok (.ireturn, 1) := by decide +kernel
def site : List Cond := []
def tab : Cond := tabOf yN yB 2 (some .byte) site
def P (d : Addr) (B : Cell) (args : Array Value) (s : State) : Prop := args = #[.ref d, .int (Int32.ofNat B.slots.size)] ∧ Arr .byte d B s
def E (r : Option Value) (s u : State) : Prop := XT.PureE (some (.int 0)) r s u
/-- an array as long as the number of chars: LATIN1 -/
theorem law (l : Launch) (d : Addr) (B : Cell) : Law l yN 2 2 0 0 yB 2 (some .byte) site (P d B) E [] 0 0 := by
  refine Law.of_walk (plainFor_of_name (by decide +kernel)) (by decide +kernel) (by decide +kernel) (by decide) (fun _ _ h => by rw [h.1]; rfl) (fun _ U U' hal hh h => ⟨h.1, h.2.mv hal hh⟩) (fun r U U' V V' h1 hal h2 h => XT.PureE.mv r U U' V V' h1 hal h2 h) ?_
  intro p e s m args below meth c s₁ X0 hexec hbytes hml hret hlk hnm hown hh0 W hP
  obtain ⟨rfl, hB⟩ := hP
  have hB0 := hB.mv X0.warmed.alike hh0
  have c1 : Steps p.tables e below (s₁.setTop (entryFrame m #[.ref d, .int (Int32.ofNat B.slots.size)] 2)) (s₁.setTop (mkF m 0 #[.val (.ref d), .val (.int (Int32.ofNat B.slots.size))] [])) := entry rfl
  have c2 : Steps p.tables e below (s₁.setTop (entryFrame m #[.ref d, .int (Int32.ofNat B.slots.size)] 2)) (s₁.setTop (mkF m 2 #[.val (.ref d), .val (.int (Int32.ofNat B.slots.size))] [.ref d, .int (Int32.ofNat B.slots.size)])) := c1.trans (by
    refine XS.iloadN X0.here hexec rfl (hb hbytes d0) rfl ?_
    refine XS.aloadN X0.here hexec rfl (hb hbytes d1) rfl rfl ?_
    exact Steps.refl _)
  have c3 : Steps p.tables e below (s₁.setTop (entryFrame m #[.ref d, .int (Int32.ofNat B.slots.size)] 2)) (s₁.setTop (mkF m 8 #[.val (.ref d), .val (.int (Int32.ofNat B.slots.size))] [.int (lo8 (ushr (Int32.ofNat B.slots.size - Int32.ofNat B.slots.size) 31))])) := c2.trans (by
    refine X0.alen hexec hB0 rfl rfl (hb hbytes d2) ?_
    refine XS.isub X0.here hexec rfl (hb hbytes d3) rfl ?_
    refine bipushV X0.here hexec rfl 31 (hb hbytes d4) (by decide) ?_
    refine iushr X0.here hexec rfl (hb hbytes d6) rfl ?_
    refine i2b X0.here hexec rfl (hb hbytes d7) rfl ?_
    exact Steps.refl _)
  have e0 : lo8 (ushr (Int32.ofNat B.slots.size - Int32.ofNat B.slots.size) 31) = 0 := by rw [Int32.sub_self]; decide
  rw [e0] at c3
  exact ⟨s₁, some (.int 0), _, _, _, X0, rfl, rfl, rfl, (fun h => by cases h), ⟨rfl, hh0⟩, fun fs hl => c3.trans (X0.ireturnOut hexec hret rfl (Or.inr (Or.inr (Or.inl rfl))) (hb hbytes d8) hl)⟩
end CodL
/-- the String at a is Latin-1 over a new byte[] (the heap's one new cell): the low bytes of the len chars of A from o on; every cell but a is kept -/
def Got (a : Addr) (D : Cell) (fV fC : Field) (A : Cell) (o len : Nat) (r : Option Value) (s u : State) : Prop := r = none ∧ ∃ D' V : Cell, Blank "java/lang/String" a D' u ∧ Same D D' [fV.slot, fC.slot] ∧ D'.slots[fV.slot]? = some (.ref s.heap.size) ∧ D'.slots[fC.slot]? = some (.int 0) ∧ Arr .byte s.heap.size V u ∧ V.vm = .none ∧ u.vm.findClass "[B" = some V.cls ∧ V.slots.size = len ∧ (∀ j, j < len → V.slots[j]? = some (.int (lo8 (cv A (o + j))))) ∧ (∀ (y : Addr) (c : Cell), y ≠ a → s.heap[y]? = some c → u.heap[y]? = some c) ∧ u.heap.size = s.heap.size + 1
theorem Got.mv {a : Addr} {D A : Cell} {fV fC : Field} {o len : Nat} : ∀ r (U U' V V' : State), U'.heap = U.heap → V.vm.Alike V'.vm → V'.heap = V.heap → Got a D fV fC A o len r U V → Got a D fV fC A o len r U' V' :=
  fun r U U' V V' h1 hal h2 ⟨e0, D', X, a1, a2, a3, a4, a5, a6, a7, a8, a9, a10, a11⟩ => ⟨e0, D', X, a1.mv hal h2, a2, by rw [h1]; exact a3, a4, by rw [h1]; exact a5.mv hal h2, a6, by rw [hal.findClass]; exact a7, a8, a9, by rw [h1, h2]; exact a10, by rw [h1, h2]; exact a11⟩
namespace New4
def yN : MethodName := ⟨"java/lang/String", "<init>", "([CIILjava/lang/Void;)V"⟩
abbrev yB : ByteArray := jdk_42_method_149_code
theorem d0 : decode yB 0 = .ok (.aload_n 0, 1) := by decide +kernel
theorem d1 : decode yB 1 = .ok (.invokespecial 1, 3) := by decide +kernel
theorem d4 : decode yB 4 = .ok (.iload_n 3, 1) := by decide +kernel
theorem d5 : decode yB 5 = .ok (.ifCond (.ne) 22, 3) := by decide +kernel
theorem d27 : decode yB 27 = .ok (.getstatic 38, 3) := by decide +kernel
theorem d30 : decode yB 30 = .ok (.ifCond (.eq) 28, 3) := by decide +kernel
theorem d33 : decode yB 33 = .ok (.aload_n 1, 1) := by decide +kernel
theorem d34 : decode yB 34 = .ok (.iload_n 2, 1) := by decide +kernel
theorem d35 : decode yB 35 = .ok (.iload_n 3, 1) := by decide +kernel
theorem d36 : decode yB 36 = .ok (.invokestatic 177, 3) := by decide +kernel
theorem d39 : decode yB 39 = .ok (.astore 5, 2) := by decide +kernel
theorem d41 : decode yB 41 = .ok (.aload_n 0, 1) := by decide +kernel
theorem d42 : decode yB 42 = .ok (.aload 5, 2) := by decide +kernel
theorem d44 : decode yB 44 = .ok (.iload_n 3, 1) := by decide +kernel
theorem d45 : decode yB 45 = .ok (.invokestatic 47, 3) := by decide +kernel
theorem d48 : decode yB 48 = .ok (.putfield 15, 3) := by decide +kernel
theorem d51 : decode yB 51 = .ok (.aload_n 0, 1) := by decide +kernel
theorem d52 : decode yB 52 = .ok (.aload 5, 2) := by decide +kernel
theorem d54 : decode yB 54 = .ok (.putfield 9, 3) := by decide +kernel
theorem d57 : decode yB 57 = .ok (.return_, 1) := by decide +kernel
def site : List Cond := [.fieldLink "java/lang/String" 38 "java/lang/String" "COMPACT_STRINGS" "Z", Cmp3.tab, CodL.tab, .laysFinal "java/lang/String" "java/lang/String" "value" "[B", .fieldLink "java/lang/String" 9 "java/lang/String" "value" "[B", .laysFinal "java/lang/String" "java/lang/String" "coder" "B", .fieldLink "java/lang/String" 15 "java/lang/String" "coder" "B"] ++ objW "java/lang/String" 1 ++ staticW "java/lang/String" 177 Cmp3.yN ++ staticW "java/lang/String" 47 CodL.yN
def tab : Cond := tabOf yN yB 6 none site
def P (a : Addr) (D : Cell) (fV fC : Field) (b : Addr) (A : Cell) (z : Int32) (o len : Nat) (args : Array Value) (s : State) : Prop := args = #[.ref a, .ref b, .int (Int32.ofNat o), .int (Int32.ofNat len), .null] ∧ Blank "java/lang/String" a D s ∧ Found "java/lang/String" "value" "[B" fV s ∧ Found "java/lang/String" "coder" "B" fC s ∧ Ch b A s ∧ StaticIs s "java/lang/String" "COMPACT_STRINGS" "Z" (.int z) ∧ ¬ z = 0 ∧ 0 < len ∧ o + len ≤ A.slots.size ∧ len ≤ 536870912 ∧ ∀ i, i < len → ¬ 255 < cv A (o + i)
def E (a : Addr) (D : Cell) (fV fC : Field) (A : Cell) (o len : Nat) (r : Option Value) (s u : State) : Prop := Got a D fV fC A o len r s u
/-- len > 0, no char of the range above 255: a Latin-1 String of their low bytes -/
theorem law (l : Launch) (a : Addr) (D : Cell) (fV fC : Field) (b : Addr) (A : Cell) (z : Int32) (o len : Nat) : Law l yN 5 4 2 35 yB 6 none site (P a D fV fC b A z o len) (E a D fV fC A o len) [⟨a, fC.slot⟩, ⟨a, fV.slot⟩] 1 len := by
  refine Law.of_walk (plainFor_of_name (by decide +kernel)) (by decide +kernel) (by decide +kernel) (by decide) (fun _ _ h => by rw [h.1]; rfl) (fun _ U U' hal hh h => ⟨h.1, h.2.1.mv hal hh, h.2.2.1.al hal, h.2.2.2.1.al hal, h.2.2.2.2.1.mv hal hh, h.2.2.2.2.2.1.there hal hh, h.2.2.2.2.2.2⟩) (fun r U U' V V' h1 hal h2 h => Got.mv r U U' V V' h1 hal h2 h) ?_
  intro p e s m args below meth c s₁ X0 hexec hbytes hml hret hlk hnm hown hh0 W hP
  obtain ⟨rfl, hB, f1, f2, hA, s1, hz, l0, l1, l2, hp⟩ := hP
  have a31 := hA.1.2.2.2
  have c1 : Steps p.tables e below (s₁.setTop (entryFrame m #[.ref a, .ref b, .int (Int32.ofNat o), .int (Int32.ofNat len), .null] 6)) (s₁.setTop (mkF m 0 #[.val (.ref a), .val (.ref b), .val (.int (Int32.ofNat o)), .val (.int (Int32.ofNat len)), .val .null, .unset] [])) := entry rfl
  have c2 : Steps p.tables e below (s₁.setTop (entryFrame m #[.ref a, .ref b, .int (Int32.ofNat o), .int (Int32.ofNat len), .null] 6)) (s₁.setTop (mkF m 1 #[.val (.ref a), .val (.ref b), .val (.int (Int32.ofNat o)), .val (.int (Int32.ofNat len)), .val .null, .unset] [.ref a])) := c1.trans (by
    refine XS.aloadN X0.here hexec rfl (hb hbytes d0) rfl rfl ?_
    exact Steps.refl _)
  obtain ⟨T3, X3, q3, st3⟩ := X0.oinit hexec hown (wks W (objW "java/lang/String" 1)) (g := (mkF m 1 #[.val (.ref a), .val (.ref b), .val (.int (Int32.ofNat o)), .val (.int (Int32.ofNat len)), .val .null, .unset] [.ref a])) rfl (by rw [hml]; rfl) (rest := []) rfl (hb hbytes d1) (W := 0) (by show 2 * 0 + 0 ≤ _; decide) (Nat.le_of_ble_eq_true rfl) (Nat.le_of_ble_eq_true rfl)
  have hh3 := q3.trans hh0
  have c4 : Steps p.tables e below (s₁.setTop (entryFrame m #[.ref a, .ref b, .int (Int32.ofNat o), .int (Int32.ofNat len), .null] 6)) (T3.setTop (mkF m 27 #[.val (.ref a), .val (.ref b), .val (.int (Int32.ofNat o)), .val (.int (Int32.ofNat len)), .val .null, .unset] [])) := (c2.trans (st3 _ (Steps.refl _))).trans (by
    refine XS.iloadN X3.here hexec rfl (hb hbytes d4) rfl ?_
    refine XS.ifYes X3.here hexec rfl (pc0 := 5) rfl (hb hbytes d5) rfl (i0_ne_t (nz32 (by omega) l0)) (by decide) rfl ?_
    exact Steps.refl _)
  obtain ⟨T5, X5, q5, st5⟩ := X3.sget hexec hown (wk W (.fieldLink "java/lang/String" 38 "java/lang/String" "COMPACT_STRINGS" "Z")) s1 (fun _ _ h => by rw [hh3]; exact h) (g := (mkF m 27 #[.val (.ref a), .val (.ref b), .val (.int (Int32.ofNat o)), .val (.int (Int32.ofNat len)), .val .null, .unset] [])) rfl (hb hbytes d27)
  have hh5 := q5.trans hh3
  have c6 : Steps p.tables e below (s₁.setTop (entryFrame m #[.ref a, .ref b, .int (Int32.ofNat o), .int (Int32.ofNat len), .null] 6)) (T5.setTop (mkF m 30 #[.val (.ref a), .val (.ref b), .val (.int (Int32.ofNat o)), .val (.int (Int32.ofNat len)), .val .null, .unset] [.int z])) := c4.trans (st5 _ (Steps.refl _))
  have c7 : Steps p.tables e below (s₁.setTop (entryFrame m #[.ref a, .ref b, .int (Int32.ofNat o), .int (Int32.ofNat len), .null] 6)) (T5.setTop (mkF m 36 #[.val (.ref a), .val (.ref b), .val (.int (Int32.ofNat o)), .val (.int (Int32.ofNat len)), .val .null, .unset] [.int (Int32.ofNat len), .int (Int32.ofNat o), .ref b])) := c6.trans (by
    refine XS.ifNo X5.here hexec rfl (hb hbytes d30) rfl (i0_eq_f hz) ?_
    refine XS.aloadN X5.here hexec rfl (hb hbytes d33) rfl rfl ?_
    refine XS.iloadN X5.here hexec rfl (hb hbytes d34) rfl ?_
    refine XS.iloadN X5.here hexec rfl (hb hbytes d35) rfl ?_
    exact Steps.refl _)
  obtain ⟨v8, T8, X8, E8, g8⟩ := X5.callS hexec (Cmp3.law l b A o len) hown (wks W (staticW "java/lang/String" 177 Cmp3.yN)) (wk W Cmp3.tab) (W := 0) (Nat.le_of_ble_eq_true rfl) (Nat.le_of_ble_eq_true rfl) (Nat.le_refl _) (by show 0 + len ≤ len; omega) (g := (mkF m 36 #[.val (.ref a), .val (.ref b), .val (.int (Int32.ofNat o)), .val (.int (Int32.ofNat len)), .val .null, .unset] [.int (Int32.ofNat len), .int (Int32.ofNat o), .ref b])) rfl (by rw [hml]; rfl) c7 (argsL := [.ref b, .int (Int32.ofNat o), .int (Int32.ofNat len)]) (rest := []) rfl rfl (by show 2 * 0 + 0 ≤ _; decide) (hb hbytes d36) (⟨rfl, hA.mv X5.warmed.alike hh5, l1, l2, hp⟩)
  obtain ⟨e8, z8⟩ := E8
  obtain ⟨rfl, N, n1, n2, n3, n4, n5, n6⟩ := NewArr.mv _ T5 s _ _ hh5.symm (Vm.Alike.refl _) rfl e8
  rw [hh5] at z8
  have hB1 := hB.keep X8.warmed.alike (n6 _ _ hB.1)
  have hne : s.heap.size ≠ a := (Nat.ne_of_lt (Array.getElem?_eq_some_iff.mp hB.1).1).symm
  have c9 : Steps p.tables e below (s₁.setTop (entryFrame m #[.ref a, .ref b, .int (Int32.ofNat o), .int (Int32.ofNat len), .null] 6)) (T8.setTop (mkF m 39 #[.val (.ref a), .val (.ref b), .val (.int (Int32.ofNat o)), .val (.int (Int32.ofNat len)), .val .null, .unset] [.ref s.heap.size])) := g8
  have c10 : Steps p.tables e below (s₁.setTop (entryFrame m #[.ref a, .ref b, .int (Int32.ofNat o), .int (Int32.ofNat len), .null] 6)) (T8.setTop (mkF m 45 #[.val (.ref a), .val (.ref b), .val (.int (Int32.ofNat o)), .val (.int (Int32.ofNat len)), .val .null, .val (.ref s.heap.size)] [.int (Int32.ofNat N.slots.size), .ref s.heap.size, .ref a])) := by
    have hc : Steps p.tables e below (s₁.setTop (entryFrame m #[.ref a, .ref b, .int (Int32.ofNat o), .int (Int32.ofNat len), .null] 6)) (T8.setTop (mkF m 45 #[.val (.ref a), .val (.ref b), .val (.int (Int32.ofNat o)), .val (.int (Int32.ofNat len)), .val .null, .val (.ref s.heap.size)] [.int (Int32.ofNat len), .ref s.heap.size, .ref a])) := c9.trans (by
      refine XS.astore X8.here hexec rfl (hb hbytes d39) rfl rfl rfl ?_
      refine XS.aloadN X8.here hexec rfl (hb hbytes d41) rfl rfl ?_
      refine XS.aload X8.here hexec rfl (hb hbytes d42) rfl rfl ?_
      refine XS.iloadN X8.here hexec rfl (hb hbytes d44) rfl ?_
      exact Steps.refl _)
    rw [n4]; exact hc
  obtain ⟨v11, T11, X11, E11, g11⟩ := X8.callS hexec (CodL.law l s.heap.size N) hown (wks W (staticW "java/lang/String" 47 CodL.yN)) (wk W CodL.tab) (W := 1) (Nat.le_of_ble_eq_true rfl) (Nat.le_of_ble_eq_true rfl) (Nat.le_refl _) (by show 0 + len + 0 ≤ len; omega) (g := (mkF m 45 #[.val (.ref a), .val (.ref b), .val (.int (Int32.ofNat o)), .val (.int (Int32.ofNat len)), .val .null, .val (.ref s.heap.size)] [.int (Int32.ofNat N.slots.size), .ref s.heap.size, .ref a])) rfl (by rw [hml]; rfl) c10 (argsL := [.ref s.heap.size, .int (Int32.ofNat N.slots.size)]) (rest := [.ref a]) rfl rfl (by show 2 * 0 + (1 + 0) ≤ _; decide) (hb hbytes d45) (⟨rfl, n1⟩)
  obtain ⟨rfl, q11⟩ := E11
  have hB11 := hB1.mv (X8.warmed.alike.symm.trans X11.warmed.alike) q11
  have c12 : Steps p.tables e below (s₁.setTop (entryFrame m #[.ref a, .ref b, .int (Int32.ofNat o), .int (Int32.ofNat len), .null] 6)) (T11.setTop (mkF m 48 #[.val (.ref a), .val (.ref b), .val (.int (Int32.ofNat o)), .val (.int (Int32.ofNat len)), .val .null, .val (.ref s.heap.size)] [.int 0, .ref a])) := g11
  obtain ⟨T13, X13, p13, bl13, sl13, st13⟩ := X11.finit hexec hown (wk W (.fieldLink "java/lang/String" 15 "java/lang/String" "coder" "B")) (Or.inr ⟨_, (wk W (.laysFinal "java/lang/String" "java/lang/String" "coder" "B"))⟩) (Or.inl ⟨rfl, hnm⟩) f2 (Or.inl rfl) hB11 (t := .byte) (by decide +kernel) rfl (g := (mkF m 48 #[.val (.ref a), .val (.ref b), .val (.int (Int32.ofNat o)), .val (.int (Int32.ofNat len)), .val .null, .val (.ref s.heap.size)] [.int 0, .ref a])) rfl (rest := []) rfl (hb hbytes d48)
  have c14 : Steps p.tables e below (s₁.setTop (entryFrame m #[.ref a, .ref b, .int (Int32.ofNat o), .int (Int32.ofNat len), .null] 6)) (T13.setTop (mkF m 54 #[.val (.ref a), .val (.ref b), .val (.int (Int32.ofNat o)), .val (.int (Int32.ofNat len)), .val .null, .val (.ref s.heap.size)] [.ref s.heap.size, .ref a])) := (c12.trans (st13 _ (Steps.refl _))).trans (by
    refine XS.aloadN X13.here hexec rfl (hb hbytes d51) rfl rfl ?_
    refine XS.aload X13.here hexec rfl (hb hbytes d52) rfl rfl ?_
    exact Steps.refl _)
  obtain ⟨T15, X15, p15, bl15, sl15, st15⟩ := X13.finit hexec hown (wk W (.fieldLink "java/lang/String" 9 "java/lang/String" "value" "[B")) (Or.inr ⟨_, (wk W (.laysFinal "java/lang/String" "java/lang/String" "value" "[B"))⟩) (Or.inl ⟨rfl, hnm⟩) f1 (Or.inl rfl) bl13 (t := (.array .byte)) (by decide +kernel) rfl (g := (mkF m 54 #[.val (.ref a), .val (.ref b), .val (.int (Int32.ofNat o)), .val (.int (Int32.ofNat len)), .val .null, .val (.ref s.heap.size)] [.ref s.heap.size, .ref a])) rfl (rest := []) rfl (hb hbytes d54)
  have c16 : Steps p.tables e below (s₁.setTop (entryFrame m #[.ref a, .ref b, .int (Int32.ofNat o), .int (Int32.ofNat len), .null] 6)) (T15.setTop (mkF m 57 #[.val (.ref a), .val (.ref b), .val (.int (Int32.ofNat o)), .val (.int (Int32.ofNat len)), .val .null, .val (.ref s.heap.size)] [])) := c14.trans (st15 _ (Steps.refl _))
  have ap := apart (Or.inr ⟨_, (wk W (.laysFinal "java/lang/String" "java/lang/String" "value" "[B"))⟩) (Or.inr ⟨_, (wk W (.laysFinal "java/lang/String" "java/lang/String" "coder" "B"))⟩) f1 f2 (t₁ := .array .byte) (t₂ := .byte) (by decide +kernel) (by decide +kernel) (by decide)
  have al := X8.warmed.alike.symm.trans X15.warmed.alike
  have n7 : T11.heap[s.heap.size]? = some N := by rw [q11]; exact n1.1
  exact ⟨T15, none, _, _, _, X15, by simp, rfl, by omega, (fun _ => rfl), ⟨rfl, _, N, bl15, ((Same.refl D _).set _ (by simp)).set _ (by simp), sl15, (Cell.slots_setSlot_ne _ ap).trans sl13, n1.keep al (p15.other hne (p13.other hne n7)), n2, by rw [al.findClass]; exact n3, n4, n5, fun y c h1 h2 => p15.other h1 (p13.other h1 (by rw [q11]; exact n6 y c h2)), by rw [p15.2.2, p13.2.2, q11]; exact z8⟩, fun fs hl => c16.trans (X15.returnOut hexec hret (hb hbytes d57) hl)⟩
end New4
namespace New1
def yN : MethodName := ⟨"java/lang/String", "<init>", "([C)V"⟩
abbrev yB : ByteArray := jdk_42_method_3_code
theorem d0 : decode yB 0 = .ok (.aload_n 0, 1) := by decide +kernel
theorem d1 : decode yB 1 = .ok (.aload_n 1, 1) := by decide +kernel
theorem d2 : decode yB 2 = .ok (.iconst 0, 1) := by decide +kernel
theorem d3 : decode yB 3 = .ok (.aload_n 1, 1) := by decide +kernel
theorem d4 : decode yB 4 = .ok (.arraylength, 1) := by decide +kernel
theorem d5 : decode yB 5 = .ok (.aconst_null, 1) := by decide +kernel
theorem d6 : decode yB 6 = .ok (.invokespecial 27, 3) := by decide +kernel
theorem d9 : decode yB 9 = .ok (.return_, 1) := by decide +kernel
def site : List Cond := [New4.tab] ++ initW "java/lang/String" 27 New4.yN
def tab : Cond := tabOf yN yB 2 none site
def P (a : Addr) (D : Cell) (fV fC : Field) (b : Addr) (A : Cell) (z : Int32) (args : Array Value) (s : State) : Prop := args = #[.ref a, .ref b] ∧ Blank "java/lang/String" a D s ∧ Found "java/lang/String" "value" "[B" fV s ∧ Found "java/lang/String" "coder" "B" fC s ∧ Ch b A s ∧ StaticIs s "java/lang/String" "COMPACT_STRINGS" "Z" (.int z) ∧ ¬ z = 0 ∧ 0 < A.slots.size ∧ A.slots.size ≤ 536870912 ∧ ∀ i, i < A.slots.size → ¬ 255 < cv A i
def E (a : Addr) (D : Cell) (fV fC : Field) (A : Cell) (r : Option Value) (s u : State) : Prop := Got a D fV fC A 0 A.slots.size r s u
/-- new String(chars), not empty, no char above 255: a Latin-1 String of their low bytes -/
theorem law (l : Launch) (a : Addr) (D : Cell) (fV fC : Field) (b : Addr) (A : Cell) (z : Int32) : Law l yN 2 1 3 52 yB 2 none site (P a D fV fC b A z) (E a D fV fC A) [⟨a, fC.slot⟩, ⟨a, fV.slot⟩] 1 A.slots.size := by
  refine Law.of_walk (plainFor_of_name (by decide +kernel)) (by decide +kernel) (by decide +kernel) (by decide) (fun _ _ h => by rw [h.1]; rfl) (fun _ U U' hal hh h => ⟨h.1, h.2.1.mv hal hh, h.2.2.1.al hal, h.2.2.2.1.al hal, h.2.2.2.2.1.mv hal hh, h.2.2.2.2.2.1.there hal hh, h.2.2.2.2.2.2⟩) (fun r U U' V V' h1 hal h2 h => Got.mv r U U' V V' h1 hal h2 h) ?_
  intro p e s m args below meth c s₁ X0 hexec hbytes hml hret hlk hnm hown hh0 W hP
  obtain ⟨rfl, hB, f1, f2, hA, s1, hz, l0, l2, hp⟩ := hP
  have c1 : Steps p.tables e below (s₁.setTop (entryFrame m #[.ref a, .ref b] 2)) (s₁.setTop (mkF m 0 #[.val (.ref a), .val (.ref b)] [])) := entry rfl
  have c2 : Steps p.tables e below (s₁.setTop (entryFrame m #[.ref a, .ref b] 2)) (s₁.setTop (mkF m 6 #[.val (.ref a), .val (.ref b)] [.null, .int (Int32.ofNat A.slots.size), .int 0, .ref b, .ref a])) := c1.trans (by
    refine XS.aloadN X0.here hexec rfl (hb hbytes d0) rfl rfl ?_
    refine XS.aloadN X0.here hexec rfl (hb hbytes d1) rfl rfl ?_
    refine iconstV X0.here hexec rfl 0 (hb hbytes d2) (by decide) ?_
    refine XS.aloadN X0.here hexec rfl (hb hbytes d3) rfl rfl ?_
    refine X0.alen hexec (hA.1.mv X0.warmed.alike hh0) rfl rfl (hb hbytes d4) ?_
    refine XS.aconstNull X0.here hexec rfl (hb hbytes d5) ?_
    exact Steps.refl _)
  obtain ⟨v3, T3, X3, E3, g3⟩ := X0.callN hexec (New4.law l a D fV fC b A z 0 A.slots.size) rfl hown (wks W (initW "java/lang/String" 27 New4.yN)) (W New4.tab (by simp only [site, List.mem_cons, List.mem_append, true_or, or_true])) (W := 0) (Nat.le_of_ble_eq_true rfl) (Nat.le_of_ble_eq_true rfl) (Nat.le_refl _) (by show 0 + A.slots.size ≤ A.slots.size; omega) (g := (mkF m 6 #[.val (.ref a), .val (.ref b)] [.null, .int (Int32.ofNat A.slots.size), .int (Int32.ofNat 0), .ref b, .ref a])) rfl (by rw [hml]; rfl) c2 (argsL := [.ref b, .int (Int32.ofNat 0), .int (Int32.ofNat A.slots.size), .null]) (rest := []) rfl rfl (by show 2 * 0 + 0 ≤ _; decide) (hb hbytes d6) (⟨rfl, hB.mv X0.warmed.alike hh0, f1.al X0.warmed.alike, f2.al X0.warmed.alike, hA.mv X0.warmed.alike hh0, s1.there X0.warmed.alike hh0, hz, l0, by omega, l2, fun i hi => by rw [Nat.zero_add]; exact hp i hi⟩)
  have e0 := Got.mv _ s₁ s _ _ hh0.symm (Vm.Alike.refl _) rfl E3
  obtain rfl := e0.1
  have c4 : Steps p.tables e below (s₁.setTop (entryFrame m #[.ref a, .ref b] 2)) (T3.setTop (mkF m 9 #[.val (.ref a), .val (.ref b)] [])) := g3
  exact ⟨T3, none, _, _, _, X3, by simp, rfl, by omega, (fun _ => rfl), e0, fun fs hl => c4.trans (X3.returnOut hexec hret (hb hbytes d9) hl)⟩
theorem pays {l : Launch} {R : Room} {p : Program} {e : Env} {below : List Frame} {s : State} {sargs : Array Value} {len W : Nat} (a : Addr) (D : Cell) (fV fC : Field) (b : Addr) (A : Cell) (z : Int32) (htab : tab.before sargs s = true) (hfr : 4 ≤ R.frames) (hlo : W + 65 ≤ R.locals) :
    Back l R p e below s sargs yN len W (fun A₁ a₁ => A₁.cells + 1 ≤ R.cells ∧ A₁.slots + A.slots.size ≤ R.slots ∧ P a D fV fC b A z a₁ A₁.U) (fun A₁ _ v₁ B₁ => E a D fV fC A v₁ A₁.U B₁.U ∧ B₁.locs = A₁.locs ++ [⟨a, fC.slot⟩, ⟨a, fV.slot⟩] ∧ B₁.cells = A₁.cells + 1 ∧ B₁.slots = A₁.slots + A.slots.size) :=
  (law l a D fV fC b A z).pays htab hfr (by omega)
end New1
end StrChars
namespace StrChars.Road
open Jvm Sem ClassFile Op Lib Jvm.Stand Jvm.Free Jvm.Free.XT
open Jvm.Lib.Cold (StaticIs)
abbrev ST : String := "java/lang/String"
/-- every table word that New1's law asks, flat -/
abbrev words : List Jvm.Cond := [.code New1.yN New1.yB 2 none, .initialized ST, .methodLink ST 27 New4.yN, .instanceMethod New4.yN,
  .code New4.yN New4.yB 6 none, .fieldLink ST 38 ST "COMPACT_STRINGS" "Z", .laysFinal ST ST "value" "[B", .fieldLink ST 9 ST "value" "[B", .laysFinal ST ST "coder" "B", .fieldLink ST 15 ST "coder" "B",
  .methodLink ST 1 Lib.objectInit, .instanceMethod Lib.objectInit, .code Lib.objectInit ⟨#[0xb1]⟩ 1 none, .methodLink ST 177 Cmp3.yN, .static Cmp3.yN, .methodLink ST 47 CodL.yN, .static CodL.yN,
  .code Cmp3.yN Cmp3.yB 6 (some (.array .byte)), .initialized U16, .arrayClass .byte, .methodLink U16 115 Cmp5.yN, .static Cmp5.yN, .code Cmp5.yN Cmp5.yB 7 (some .int), .code CodL.yN CodL.yB 2 (some .byte)]
theorem tab_of {a : Array Value} {s : State} (h : ∀ w ∈ words, w.before a s = true) : New1.tab.before a s = true := by
  have h5 : Cmp5.tab.before a s = true := unparts (wk h (.code Cmp5.yN Cmp5.yB 7 (some .int))) (wks h (.initialized Cmp5.yN.cls :: Cmp5.site))
  have hc : CodL.tab.before a s = true := unparts (wk h (.code CodL.yN CodL.yB 2 (some .byte))) (wks h (.initialized CodL.yN.cls :: CodL.site))
  have q5 : ∀ w ∈ Cmp5.tab :: words, w.before a s = true := fun w hw => (List.mem_cons.mp hw).elim (fun e => e ▸ h5) (h w)
  have h3 : Cmp3.tab.before a s = true := unparts (wk q5 (.code Cmp3.yN Cmp3.yB 6 (some (.array .byte)))) (wks q5 (.initialized Cmp3.yN.cls :: Cmp3.site))
  have q3 : ∀ w ∈ Cmp3.tab :: CodL.tab :: words, w.before a s = true := fun w hw => (List.mem_cons.mp hw).elim (fun e => e ▸ h3) fun hw => (List.mem_cons.mp hw).elim (fun e => e ▸ hc) (h w)
  have h4 : New4.tab.before a s = true := unparts (wk q3 (.code New4.yN New4.yB 6 none)) (wks q3 (.initialized New4.yN.cls :: New4.site))
  have q4 : ∀ w ∈ New4.tab :: words, w.before a s = true := fun w hw => (List.mem_cons.mp hw).elim (fun e => e ▸ h4) (h w)
  exact unparts (wk q4 (.code New1.yN New1.yB 2 none)) (wks q4 (.initialized New1.yN.cls :: New1.site))
/-- the words ride from the start Z to the walk's own state -/
theorem moved {Z s : State} {a0 args : Array Value} (hZ : Z.Warmed39 s.vm) (hw : ∀ d ∈ words, d.before a0 Z = true) : ∀ d ∈ words, d.before args s = true := fun d hd => by
  have q := hw d hd
  have t : ∀ d ∈ words, d = .arrayClass .byte ∨ (d.onTables && d.keepsFace) = true := by decide +kernel
  rcases t d hd with rfl | t
  · exact RoadKit.mvA hZ q
  · exact RoadKit.mv hZ q t
/-- WHAT COMES BACK, over the tables of the start Z: h the heap at the call, h' behind it -/
def Q (Z : State) (x : Addr) (A : Cell) (h : Heap) (v : Option Value) (h' : Heap) (L : List Loc) : Prop := v = none ∧ (∀ y ∈ L, y.base = x) ∧ RoadKit.Keep h h' [x] ∧ h'.size = h.size + 1 ∧ RoadKit.Exa Z h' x ST ∧ RoadKit.Fld Z h' x ST "value" "[B" (.ref h.size) ∧ RoadKit.Fld Z h' x ST "coder" "B" (.int 0) ∧
  (∃ V : Cell, RoadKit.Arr Z h' h.size V .byte ∧ V.vm = .none ∧ Z.vm.findClass "[B" = some V.cls ∧ V.slots.size = A.slots.size ∧ ∀ j, j < A.slots.size → V.slots[j]? = some (.int (lo8 (cv A j)))) ∧
  ∀ (O n d : String) (w : Value), RoadKit.Fld Z h x O n d w → RoadKit.slotOf Z O n d ≠ RoadKit.slotOf Z ST "value" "[B" → RoadKit.slotOf Z O n d ≠ RoadKit.slotOf Z ST "coder" "B" → RoadKit.Fld Z h' x O n d w
/-- **new String(chars) AT A CALL, IN THE ROAD'S FORM**: for specialBack behind newO: x the fresh String, b the char[] with the cell A -/
theorem back {p : Program} {l : Launch} {e : Env} {R : Room} {s : State} {args : Array Value} {below : List Frame} {len W : Nat} {Z : State} {a0 : Array Value} {h : Heap} (hZ : Z.Warmed39 s.vm) (hw : ∀ d ∈ words, d.before a0 Z = true) {kI : Nat} (wi : (Jvm.Cond.instantiable ST kI).before a0 Z = true)
    {x b : Addr} {A : Cell} {z : Int32} {v0 c0 : Value} (E : RoadKit.Exa Z h x ST) (V : RoadKit.Fld Z h x ST "value" "[B" v0) (C : RoadKit.Fld Z h x ST "coder" "B" c0) (K : RoadKit.Arr Z h b A .char) (hty : Typed .char A) (S : RoadKit.Sta Z h ST "COMPACT_STRINGS" "Z" (.int z)) (hz : ¬ z = 0)
    (l0 : 0 < A.slots.size) (l2 : A.slots.size ≤ 536870912) (hp : ∀ i, i < A.slots.size → ¬ 255 < cv A i) (hfr : 4 ≤ R.frames) (hlo : W + 65 ≤ R.locals) :
    Back l R p e below s args New1.yN len W (fun P a => a = #[.ref x, .ref b] ∧ P.U.heap = h ∧ P.cells + 1 ≤ R.cells ∧ P.slots + A.slots.size ≤ R.slots)
      (fun P _ v B => ∃ L, Q Z x A h v B.U.heap L ∧ B.locs = P.locs ++ L ∧ B.cells = P.cells + 1 ∧ B.slots = P.slots + A.slots.size) := by
  intro m meth c P g ig mk a X hg hsize hdg hW hn hp'
  obtain ⟨rfl, rfl, r1, r2⟩ := hp'
  have al : Z.vm.Alike P.U.vm := hZ.alike.trans X.warmed.alike
  obtain ⟨D, cfV, kV, iV, fV, hD, gV, stV, knV, obV, asV, slV⟩ := id V
  obtain ⟨D', cfC, kC, iC, fC, hD', gC, stC, -, -, asC, slC⟩ := id C
  cases hD.symm.trans hD'
  obtain ⟨D2, kD, e1, e2, e3, e4, e5⟩ := id E
  cases hD.symm.trans e1
  obtain ⟨c2, k2, i1, i2, i3, -⟩ := Cond.instantiable_spec wi
  cases e2.symm.trans i1
  cases e3.symm.trans i2
  obtain ⟨kU, u1, u2⟩ := al.2.2 _ _ e3
  have hB : Blank ST x D P.U := ⟨hD, ⟨knV, fun q hq => by rw [hq] at obV; cases obV⟩, by rw [al.findClass]; exact e2, kU, u1, by rw [u2]; exact i3, by rw [u2]; exact e5 i3⟩
  have F1 : Found ST "value" "[B" fV P.U := ⟨SBG.found_only al ⟨cfV, kV, iV, gV⟩, stV⟩
  have F2 : Found ST "coder" "B" fC P.U := ⟨SBG.found_only al ⟨cfC, kC, iC, gC⟩, stC⟩
  have hA : Ch b A P.U := ⟨⟨K.1, State.isArrayOf_alike al K.2.1, K.2.2, by omega⟩, hty⟩
  have hS : StaticIs P.U ST "COMPACT_STRINGS" "Z" (.int z) := by
    obtain ⟨cfS, iS, kS, fS, st, cS, t1, t2, t3, t4, t5, t6, t7⟩ := S
    exact StaticIs.there (s := { Z with heap := P.U.heap }) ⟨cfS, iS, kS, fS, st, cS, t1, t2, t3, t4, t5, (fun q => by rw [q] at t6; cases t6), t7⟩ al rfl
  obtain ⟨v, B, X', ⟨⟨hv, E', V', q1, q2, q3, q4, q5, q6, q7, q8, q9, q10, q11⟩, hl, hc, hs⟩, st⟩ := New1.pays x D fV fC b A z (tab_of (moved hZ hw)) hfr hlo m meth c P g ig mk _ X hg hsize hdg hW hn ⟨r1, r2, rfl, hB, F1, F2, hA, hS, hz, l0, l2, hp⟩
  have al' : Z.vm.Alike B.U.vm := hZ.alike.trans X'.warmed.alike
  have hsz : E'.slots.size = D.slots.size := by
    obtain ⟨-, -, -, kB, w1, w2, w3⟩ := q1
    obtain ⟨kB', y1, y2⟩ := al'.2.2 _ _ e3
    rw [q2.2.1] at w1
    cases w1.symm.trans y1
    rw [w3, e5 i3, y2]
  refine ⟨v, B, X', ⟨_, ⟨hv, ?_, ⟨by omega, fun y cy hy hn' => q10 y cy (by simpa using hn') hy, fun y cy hy => ?_⟩, q11, ⟨E', _, q1.1, by rw [q2.2.1]; exact e2, by rw [q2.2.1]; exact e3, by rw [q2.1]; exact obV, fun _ => by rw [hsz]; exact e5 i3⟩,
    ⟨E', cfV, kV, iV, fV, q1.1, gV, stV, by rw [q2.1]; exact knV, by rw [q2.1]; exact obV, by rw [q2.2.1]; exact asV, q3⟩, ⟨E', cfC, kC, iC, fC, q1.1, gC, stC, by rw [q2.1]; exact knV, by rw [q2.1]; exact obV, by rw [q2.2.1]; exact asC, q4⟩,
    ⟨V', ⟨q5.1, State.isArrayOf_alike al'.symm q5.2.1, q5.2.2.1⟩, q6, by rw [← al'.findClass]; exact q7, q8, fun j hj => by have := q9 j hj; rwa [Nat.zero_add] at this⟩, fun O n d w F n1 n2 => ?_⟩, hl, hc, hs⟩, st⟩
  · intro y hy
    simp only [List.mem_cons, List.not_mem_nil, or_false] at hy
    rcases hy with rfl | rfl <;> rfl
  · by_cases q : y = x
    · subst q
      cases hD.symm.trans hy
      exact ⟨E', q1.1, q2.2.1, q2.1, hsz⟩
    · exact ⟨cy, q10 y cy q hy, rfl, rfl, rfl⟩
  · obtain ⟨D3, cf, k, i, f, g1, g2, g3, g4, g5, g6, g7⟩ := F
    cases hD.symm.trans g1
    simp only [RoadKit.slotOf, g2, gV, gC, Option.map_some, Option.getD_some] at n1 n2
    exact ⟨E', cf, k, i, f, q1.1, g2, g3, by rw [q2.1]; exact g4, by rw [q2.1]; exact g5, by rw [q2.2.1]; exact g6, by rw [q2.2.2 f.slot (by simp [n1, n2])]; exact g7⟩
end StrChars.Road
namespace StrChars.Road
open Jvm Sem ClassFile Op Lib Jvm.Stand Jvm.Free Jvm.Free.XT
/-- WHAT COMES BACK, the byte[] as a list of values -/
def QA (Z : State) (x : Addr) (zn : Int32) (cs : List Int32) (h : Heap) (v : Option Value) (h' : Heap) (L : List Loc) : Prop := v = none ∧ (∀ y ∈ L, y.base = x) ∧ RoadKit.Keep h h' [x] ∧ h'.size = h.size + 1 ∧ RoadKit.Exa Z h' x ST ∧ RoadKit.Fld Z h' x ST "value" "[B" (.ref h.size) ∧ RoadKit.Fld Z h' x ST "coder" "B" (.int 0) ∧
  (∃ kb, Z.vm.findClass "[B" = some kb ∧ RoadKit.Arv Z h' h.size kb .byte zn (cs.map fun c => .int (lo8 c)) (.int 0)) ∧
  ∀ (O n d : String) (w : Value), RoadKit.Fld Z h x O n d w → RoadKit.slotOf Z O n d ≠ RoadKit.slotOf Z ST "value" "[B" → RoadKit.slotOf Z O n d ≠ RoadKit.slotOf Z ST "coder" "B" → RoadKit.Fld Z h' x O n d w
/-- **new String(chars) AT A CALL, THE ARRAYS AS LISTS**: the char[] at b holds cs, not empty, no char above 255 -/
theorem backArv {p : Program} {l : Launch} {e : Env} {R : Room} {s : State} {args : Array Value} {below : List Frame} {len W : Nat} {Z : State} {a0 : Array Value} {h : Heap} (hZ : Z.Warmed39 s.vm) (hw : ∀ d ∈ words, d.before a0 Z = true) {kI : Nat} (wi : (Jvm.Cond.instantiable ST kI).before a0 Z = true)
    {x b : Addr} {k : ClassId} {zn z : Int32} {cs : List Int32} {dv v0 c0 : Value} (E : RoadKit.Exa Z h x ST) (V : RoadKit.Fld Z h x ST "value" "[B" v0) (C : RoadKit.Fld Z h x ST "coder" "B" c0) (K : RoadKit.Arv Z h b k .char zn (cs.map Value.int) dv) (S : RoadKit.Sta Z h ST "COMPACT_STRINGS" "Z" (.int z)) (hz : ¬ z = 0)
    (hlen : zn.toNatClampNeg = cs.length) (h0 : 0 < cs.length) (hbig : cs.length ≤ 536870912) (hall : ∀ c ∈ cs, ¬ 255 < c) (hfr : 4 ≤ R.frames) (hlo : W + 65 ≤ R.locals) :
    Back l R p e below s args New1.yN len W (fun P a => a = #[.ref x, .ref b] ∧ P.U.heap = h ∧ P.cells + 1 ≤ R.cells ∧ P.slots + cs.length ≤ R.slots)
      (fun P _ v B => ∃ L, QA Z x zn cs h v B.U.heap L ∧ B.locs = P.locs ++ L ∧ B.cells = P.cells + 1 ∧ B.slots = P.slots + cs.length) := by
  obtain ⟨A, K1, K2, K3, K4, K5, K6⟩ := K
  have e : A.slots.size = cs.length := K3.trans hlen
  have hat : ∀ (i : Nat) (hi : i < cs.length), A.slots[i]? = some (.int cs[i]) := fun i hi => by rw [K5 i (by omega)]; simp [List.getD_eq_getElem?_getD, hi]
  have hcv : ∀ (i : Nat) (hi : i < cs.length), cv A i = cs[i] := fun i hi => by unfold cv; rw [hat i hi]
  have hty : Typed .char A := fun i v hv => by
    have hi : i < A.slots.size := (Array.getElem?_eq_some_iff.mp hv).1
    have q := K5 i hi
    rw [hv] at q
    rw [Option.some.inj q]
    exact K6 i hi
  refine Back.mono (back hZ hw wi E V C K1 hty S hz (by omega) (by omega) (fun i hi => by rw [hcv i (by omega)]; exact hall _ (List.getElem_mem _)) hfr hlo) (fun P a hp => ⟨hp.1, hp.2.1, hp.2.2.1, by rw [e]; exact hp.2.2.2⟩) (fun P a v B hp hq => ?_)
  obtain ⟨L, ⟨q1, q2, q3, q4, q5, q6, q7, ⟨V', v1, v2, v3, v4, v5⟩, q9⟩, hl, hc, hs⟩ := hq
  refine ⟨L, ⟨q1, q2, q3, q4, q5, q6, q7, ⟨V'.cls, v3, V', v1, rfl, by rw [v4, e, hlen], K4, fun i hi => ?_, fun i hi => ?_⟩, q9⟩, hl, hc, by rw [hs, e]⟩
  · have hi' : i < cs.length := by omega
    rw [v5 i (by omega), hcv i hi']; simp [List.getD_eq_getElem?_getD, hi']
  · have hi' : i < cs.length := by omega
    simp only [List.getD_eq_getElem?_getD, List.getElem?_map, List.getElem?_eq_getElem hi', Option.map_some, Option.getD_some]
    exact fits_lo8 _
end StrChars.Road
namespace StrChars.Road
open Jvm Sem ClassFile Op Lib Jvm.Stand Jvm.Free Jvm.Free.XT
/-- WHAT COMES BACK, in the writer's own shape -/
def QV (Z : State) (x : Addr) (N : Int32) (bs : List Int32) (h : Heap) (n0 : Nat) (v : Option Value) (h' : Heap) (L : List Loc) : Prop := v = none ∧ RoadKit.Fr n0 L ∧ RoadKit.Keep h h' [x] ∧ RoadKit.Exa Z h' x ST ∧ RoadKit.Fld Z h' x ST "coder" "B" (.int 0) ∧
  ∃ (t : Addr) (kb : ClassId), n0 ≤ t ∧ h.size ≤ t ∧ ¬ t = x ∧ RoadKit.Fld Z h' x ST "value" "[B" (.ref t) ∧ RoadKit.Arv Z h' t kb .byte N (bs.map Value.int) (.int 0)
/-- **new String(chars) AT A CALL, FOR THE WRITER**: a char[] of n known ints, each 0 to 255 -/
theorem backV {p : Program} {l : Launch} {e : Env} {R : Room} {s : State} {args : Array Value} {below : List Frame} {len W : Nat} {Z : State} {a0 : Array Value} {h : Heap} (hZ : Z.Warmed39 s.vm) (hw : ∀ d ∈ words, d.before a0 Z = true) {kI : Nat} (wi : (Jvm.Cond.instantiable ST kI).before a0 Z = true)
    {x b : Addr} {kC : ClassId} {cs bs : List Int32} {d v0 c0 : Value} {z N : Int32} {n n0 : Nat} (hx0 : n0 ≤ x) (hh0 : n0 ≤ h.size) (E : RoadKit.Exa Z h x ST) (V : RoadKit.Fld Z h x ST "value" "[B" v0) (C : RoadKit.Fld Z h x ST "coder" "B" c0) (K : RoadKit.Arv Z h b kC .char N (cs.map Value.int) d) (S : RoadKit.Sta Z h ST "COMPACT_STRINGS" "Z" (.int z)) (hz : ¬ z = 0)
    (hn : cs.length = n) (hN : N = Int32.ofNat n) (l0 : 0 < n) (l2 : n ≤ 4000) (hp : ∀ c ∈ cs, ¬ c < 0 ∧ ¬ (255 : Int32) < c) (hb : bs = cs.map (fun c => c.toInt8.toInt32)) (hfr : 4 ≤ R.frames) (hlo : W + 65 ≤ R.locals) :
    Back l R p e below s args (⟨"java/lang/String", "<init>", "([C)V"⟩ : MethodName) len W (fun P a => a = #[.ref x, .ref b] ∧ P.U.heap = h ∧ P.cells + 1 ≤ R.cells ∧ P.slots + n ≤ R.slots)
      (fun P _ v B => ∃ L, QV Z x N bs h n0 v B.U.heap L ∧ B.locs = P.locs ++ L ∧ B.cells = P.cells + 1 ∧ B.slots = P.slots + n) := by
  subst hn hN hb
  refine Back.mono (backArv hZ hw wi E V C K S hz (n32 (by omega)) l0 (by omega) (fun c hc => (hp c hc).2) hfr hlo) (fun P a hp => hp) (fun P a v B hp hq => ?_)
  obtain ⟨L, ⟨q1, q2, q3, q4, q5, q6, q7, ⟨kb, v1, v2⟩, q9⟩, hl, hc, hs⟩ := hq
  exact ⟨L, ⟨q1, fun y hy => by rw [q2 y hy]; exact hx0, q3, q5, q7, h.size, kb, hh0, Nat.le_refl _, Nat.ne_of_gt E.lt, q6, by rw [List.map_map]; exact v2⟩, hl, hc, hs⟩
end StrChars.Road
end Jvm.Pilot.@@N@@
namespace Jvm.Pilot.@@N@@
open Jvm Jvm.ClassFile Sem Op Lib Jvm.Free Jvm.Stand Jvm.LawKit Jvm.RoadKit Bundle Jvm.Pilot.@@N@@.Jvm.D
section Own
variable {p : Program} {l : Launch} {e : Env} {R : Room} {s : State} {m : MethodId} {args : Array Value} {below : List Frame} {meth : Method} {c : Code} {T T' : State} {locs : List Loc} {cells slots : Nat} {G : Outcome → State → Prop} {g g' : JFrame}
/-- from here the walk ends, and ends as G says -/
def OwnGoes (p : Program) (e : Env) (below : List Frame) (G : Outcome → State → Prop) (T : State) (g : JFrame) : Prop := ∃ s₂ o, Steps p.tables e below (T.setTop g) s₂ ∧ s₂.status = .running ∧ Ended s₂ below o ∧ G o s₂
abbrev vI (x : Int32) : Slot := .val (.int x)
abbrev oR (a b c d : Nat) : Room := { frames := a, cells := b, slots := c, locals := d }
abbrev vU : Slot := .unset
theorem own_w {d : Jvm.Cond} {a0 : Array Value} {Z : State} (hw : ∀ d ∈ tables_1, d.before a0 Z = true) (i : Nat) (h : tables_1[i]? = some d) : d.before a0 Z = true := hw _ (List.mem_of_getElem? h)
abbrev vR (a : Addr) : Slot := .val (.ref a)
abbrev OwnG (p : Program) (e : Env) (b : List Frame) (T : State) (m : MethodId) (pc : Nat) (L : Array Slot) (S : List Value) (t : State) : Prop := Steps p.tables e b (T.setTop (mkF m pc L S)) t
theorem OwnGoes.step (h : ∀ t, Steps p.tables e below (T'.setTop g') t → Steps p.tables e below (T.setTop g) t) (k : OwnGoes p e below G T' g') : OwnGoes p e below G T g := by
  obtain ⟨s2, o, h1, r⟩ := k
  exact ⟨s2, o, h _ h1, r⟩
theorem OwnGoes.tr (h : Steps p.tables e below (T.setTop g) (T'.setTop g')) (k : OwnGoes p e below G T' g') : OwnGoes p e below G T g := by
  obtain ⟨s2, o, h1, r⟩ := k
  exact ⟨s2, o, h.trans h1, r⟩
theorem og (T' : State) (m' : MethodId) (pc : Nat) (L : Array Slot) (S : List Value) (h : ∀ t, Steps p.tables e below (T'.setTop (mkF m' pc L S)) t → Steps p.tables e below (T.setTop g) t) (k : OwnGoes p e below G T' (mkF m' pc L S)) : OwnGoes p e below G T g := OwnGoes.step h k
theorem own_leave (X : Stand p l e R s m args below meth c T locs cells slots) (hlk : meth.locks = false) {v : Option Value} (hv : meth.sig.returnType = none → v = none)
    (hret : ∀ fs, (∀ (f : JFrame) (acts : List Action), f.method = m → f.locked = none → f.entered = [] → (doReturn e (T.setTop f) acts v).1 = T.setFrames fs) → Steps p.tables e below (T.setTop g) (T.setFrames fs))
    {k n : Nat} (hc : cells ≤ k) (hs : slots ≤ n) {Q : Option Value → Heap → List Loc → Prop} (hQ : Q v T.heap locs) :
    OwnGoes p e below (fun o U' => ∃ v L, o = .returned v ∧ Q v U'.heap L ∧ FrameEnd s o U' L k n) T g := by
  obtain ⟨fs, hr, hrun, hended, hW, hsame⟩ := X.leave (v := v) hv hlk
  exact ⟨_, _, hret fs hr, hrun, hended, v, locs, rfl, hQ, ⟨_, rfl⟩, hW, hsame.mono hc hs⟩
theorem own_leaveW {Z : State} {EL : List (String × Nat)} {vm1 : Vm} (X : Stand p l e R (s.setVm vm1) m args below meth c T locs cells slots) {n1 : Nat} (hS : s.Since vm1 n1) (hn : n1 ≤ T.heap.size) (hlk : meth.locks = false) {v : Option Value} (hv : meth.sig.returnType = none → v = none)
    (hret : ∀ fs, (∀ (f : JFrame) (acts : List Action), f.method = m → f.locked = none → f.entered = [] → (doReturn e (T.setTop f) acts v).1 = T.setFrames fs) → Steps p.tables e below (T.setTop g) (T.setFrames fs))
    {k n : Nat} (hc : cells ≤ k) (hs : slots ≤ n) {Q : Option Value → Heap → List Loc → Prop} (hR : CHr Z EL s.vm s.heap T.vm T.heap) (hQ : Q v T.heap locs) :
    OwnGoes p e below (fun o U' => ∃ v L, o = .returned v ∧ Q v U'.heap L ∧ CHr Z EL s.vm s.heap U'.vm U'.heap ∧ ReturnedEndW s o U' L k n) T g := by
  obtain ⟨fs, hr, hrun, hended, a1, a2, a3, a4⟩ := X.leaveW hS hn (v := v) hv hlk
  exact ⟨_, _, hret fs hr, hrun, hended, v, locs, rfl, hQ, hR, a1, a2, a3, a4.mono hc hs⟩
theorem own_cls {s : State} {args : Array Value} {C : String} {y y' : MethodName} {m : MethodId} (hn : s.methodNamed? y = some m) (hs : (Cond.selects C y' y').before args s = true) (hc : y'.cls = y.cls) : ∃ mk, s.vm.classes[m.cls]? = some mk ∧ mk.isInterface = false := by
  obtain ⟨c2, r2, m2, q1, q2, q3, q4, kP, hkP, hkPi⟩ := Cond.selects_spec hs
  have a := findClass_of_methodNamed hn
  have b := findClass_of_methodNamed q3
  rw [hc, a] at b
  rw [Option.some.inj b]
  exact ⟨kP, hkP, hkPi⟩
theorem own_notface {s : State} {args : Array Value} {C : String} {y y' : MethodName} (hs : (Cond.selects C y' y').before args s = true) (hc : y'.cls = y.cls) : NotFace s y := fun r0 h0 => own_cls h0 hs hc
theorem own_same {s : State} {args : Array Value} {C : String} {y y' : MethodName} (hd : (Cond.declares y).before args s = true) (hs : (Cond.selects C y' y').before args s = true) (hc : y'.cls = y.cls) (hx : y.cls ≠ "java/lang/invoke/MethodHandle" ∧ y.cls ≠ "java/lang/invoke/VarHandle") : (Cond.sameMethod y.cls y.cls y.name y.desc).before args s = true := by
  obtain ⟨m, meth, h1, -⟩ := Cond.declares_spec hd
  obtain ⟨mk, k1, k2⟩ := own_cls h1 hs hc
  have a := findClass_of_methodNamed h1
  have b := State.methodFound?_of_named h1 hx
  have h1' : s.methodNamed? ⟨y.cls, y.name, y.desc⟩ = some m := h1
  simp [Cond.before, Cond.holds, Cond.value, a, b, h1', k1, k2]
theorem own_decl {s : State} {args : Array Value} {y : MethodName} {bytes : ByteArray} {maxL : Nat} {ret : Option FieldType} (h1 : (Cond.instanceMethod y).before args s = true) (h2 : (Cond.code y bytes maxL ret).before args s = true) : (Cond.declares y).before args s = true := by
  obtain ⟨mk, meth, hn, hm, hst, -⟩ := Cond.instanceMethod_spec h1
  obtain ⟨m2, cM, q1, -, -, -, -, -, -, hsig⟩ := Cond.code_spec hn h2
  cases hm.symm.trans q1
  simp [Cond.before, Cond.holds, Cond.value, hn, hm, hst, hsig]
theorem own_arv_ty {Z : State} {h : Heap} {a b : Addr} {k k' : ClassId} {ty ty' : FieldType} {n n' : Int32} {vs vs' : List Value} {d d' : Value} (A : Arv Z h a k ty n vs d) (B : Arv Z h b k' ty' n' vs' d') (q : ty ≠ ty') : a ≠ b := fun e => by
  subst e
  obtain ⟨c1, ⟨a1, ⟨-, k1, a2, c1', a3⟩, -⟩, -⟩ := A
  obtain ⟨c2, ⟨b1, ⟨-, k2, b2, c2', b3⟩, -⟩, -⟩ := B
  cases a1.symm.trans b1
  cases a2.symm.trans b2
  have := a3.symm.trans b3
  injection this with _ e
  exact q e
theorem own_nar2_char (x : Int32) : nar .char (nar .char x) = nar .char x := by simp only [nar, UInt32.toUInt32_toInt32, UInt16.toUInt16_toUInt32]
theorem own_nar2_byte (x : Int32) : nar .byte (nar .byte x) = nar .byte x := by simp [nar]
theorem own_nar2_boolean (x : Int32) : nar .boolean (nar .boolean x) = nar .boolean x := by simp [nar, Int32.and_assoc]
theorem own_toInt32_lt (x y : Int32) : x < y ↔ x.toInt < y.toInt := Int32.lt_iff_toInt_lt
theorem own_lat255 (x : Int32) : ¬ nar .char (x &&& (255 : Int32)) < 0 ∧ ¬ (255 : Int32) < nar .char (x &&& (255 : Int32)) := by
  have t : ∀ k : Fin 256, ¬ nar .char (Int32.ofNat k.val) < 0 ∧ ¬ (255 : Int32) < nar .char (Int32.ofNat k.val) := by decide +kernel
  have h : (x &&& 255).toBitVec.toNat < 256 := by
    simp only [Int32.toBitVec_and, BitVec.toNat_and]
    exact Nat.lt_succ_of_le Nat.and_le_right
  have e : (x &&& 255) = Int32.ofNat (x &&& 255).toBitVec.toNat := by
    apply Int32.toBitVec_inj.mp
    show _ = BitVec.ofNat 32 _
    rw [BitVec.ofNat_toNat]; simp
  rw [e]
  exact t ⟨_, h⟩
theorem own_nar_lat {x : Int32} (h : ¬ x < 0 ∧ ¬ (255 : Int32) < x) : nar .char x = x := by
  have h1 : ∀ k : Fin 256, nar .char (Int32.ofNat k.val) = Int32.ofNat k.val := by decide +kernel
  obtain ⟨a, b⟩ := h
  rw [Int32.lt_iff_toInt_lt] at a b
  have e1 : (0 : Int32).toInt = 0 := rfl
  have e2 : (255 : Int32).toInt = 255 := rfl
  have e : x = Int32.ofNat x.toInt.toNat := by
    apply Int32.toInt_inj.mp
    rw [Int32.toInt_ofNat_of_lt (by omega)]
    omega
  rw [e]
  exact h1 ⟨x.toInt.toNat, by omega⟩
theorem own_up (cs : List Int32) (h : ∀ c ∈ cs, ¬ c < 0 ∧ ¬ (255 : Int32) < c) : ∀ c ∈ cs, ¬ c < 0 ∧ ¬ (65535 : Int32) < c := fun c hc => ⟨(h c hc).1, fun q => (h c hc).2 (by rw [Int32.lt_iff_toInt_lt] at q ⊢; have e1 : (65535 : Int32).toInt = 65535 := rfl; have e2 : (255 : Int32).toInt = 255 := rfl; omega)⟩
end Own
theorem own_mk {s : State} {vm1 : Vm} {n : Nat} (hS : s.Since vm1 n) (h : s.vm.MethodsKnown) : vm1.MethodsKnown := Vm.MethodsKnown.alikeC hS.1.alike h
theorem own_fk {s : State} {vm1 : Vm} {n : Nat} {fs : List Frame} (hS : s.Since vm1 n) (h : s.vm.FramesKnown fs) : vm1.FramesKnown fs := Vm.FramesKnown.alikeC hS.1.alike h
theorem own_ths {Z : State} {n0 : Nat} {h : Heap} (O : Old Z n0 h) : ThS Z h := fun st k cl cell _ _ _ q _ => O.2.2 st cell q
theorem own_mem0 {P : Int32 → Prop} : ∀ c ∈ ([] : List Int32), P c := fun _ h => nomatch h
theorem own_memS {P : Int32 → Prop} {x : Int32} {L : List Int32} (h : P x) (r : ∀ c ∈ L, P c) : ∀ c ∈ x :: L, P c := fun c q => by
  rcases List.mem_cons.mp q with rfl | q
  · exact h
  · exact r c q
theorem own_safe_null {Z : State} {EL : List (String × Nat)} {vm : Vm} {h : Heap} {a : Addr} {a0 : Array Value} {n : Nat} (hal : Z.vm.Alike vm) (wi : (Jvm.Cond.instantiable "java/lang/String" n).before a0 Z = true) (E : Exa Z h a "java/lang/String") (F : Fld Z h a "java/lang/String" "value" "[B" .null) : Safe Z EL vm h a := fun B => by
  obtain ⟨cell, k, e1, e2, e3, -, -⟩ := E
  obtain ⟨p, -, u, b, -, q, -, G, rfl | rfl⟩ := B
  · obtain ⟨cS, ⟨⟨s1, -, -, ⟨cv, kv, iv, s4, -⟩, -, -, -, s8, -⟩, -⟩, -⟩ := G
    obtain ⟨c2, cf, k2, i2, f2, g1, g2, -, -, -, -, g7⟩ := F
    obtain ⟨kv', z4⟩ := ff_back (U := Wst Z vm h) hal s4
    cases g2.symm.trans z4
    cases (show h[q.sa]? = some q.sC from s1).symm.trans g1
    rw [s8] at g7
    cases g7
  · have hd : h[q.sd]? = some q.SA := G.hd
    cases hd.symm.trans e1
    obtain ⟨cS, -, -, f, -⟩ := G
    have f' : vm.findClass "[B" = some q.SA.cls := f
    rw [hal.findClass] at f'
    obtain ⟨k1, q1, q2⟩ := Vm.findClass_spec f'
    obtain ⟨k2, q3, q4⟩ := Vm.findClass_spec e2
    cases q1.symm.trans q3
    exact absurd (q2.symm.trans q4) (by decide)
theorem own_ins_keep {Z : State} {h h' : Heap} {a : Addr} {C : String} {ws : List Addr} (F : Ins Z h a C true) (K : Keep h h' ws) : Ins Z h' a C true := by
  obtain ⟨c, cT, h1, h2, h3⟩ := F
  obtain ⟨c', q1, q2, q3, -⟩ := K.2.2 _ _ h1
  exact ⟨c', cT, q1, h2, by rw [q2, q3]; exact h3⟩
abbrev mN0 : MethodName := (⟨"java/lang/String", "<init>", "([CIILjava/lang/Void;)V"⟩ : MethodName)
abbrev mN1 : MethodName := (⟨"java/lang/String", "<init>", "([C)V"⟩ : MethodName)
abbrev mN2 : MethodName := (⟨"java/lang/Throwable", "<init>", "(Ljava/lang/String;)V"⟩ : MethodName)
abbrev mN3 : MethodName := (⟨"java/lang/Exception", "<init>", "(Ljava/lang/String;)V"⟩ : MethodName)
abbrev mN4 : MethodName := (⟨"com/example/seekret/seekret/server/KeystoreException", "<init>", "(ILjava/lang/String;)V"⟩ : MethodName)
abbrev mN5 : MethodName := (⟨"com/example/seekret/seekret/server/KeystoreException", "refused", "(Ljava/lang/String;)Lcom/example/seekret/seekret/server/KeystoreException;"⟩ : MethodName)
abbrev mN6 : MethodName := (⟨"com/example/seekret/seekret/server/KeystoreException", "status", "()I"⟩ : MethodName)
abbrev mN7 : MethodName := (⟨"java/lang/Throwable", "getMessage", "()Ljava/lang/String;"⟩ : MethodName)
abbrev mN8 : MethodName := (⟨"java/lang/String", "equals", "(Ljava/lang/Object;)Z"⟩ : MethodName)
abbrev mN9 : MethodName := (⟨"com/example/seekret/seekret/server/KeystoreException", "getMessage", "()Ljava/lang/String;"⟩ : MethodName)
theorem own_refarr {t : Term} {ty : FieldType} {args : Array Value} {s : State} (h : (Cond.arrayOf t ty).value args s none s [] = some true) : ∃ a : Addr, t.eval args s none [] s = some (.ref a) := by
  simp only [Cond.value] at h
  cases q : t.eval args s none [] s with
  | none => simp [q] at h
  | some v => cases v <;> simp [q] at h ⊢
section Fill
open Bundle Jvm.Free.Exc
/-- Throwable's own tables, by the words that the sheet bears of the exception's class -/
theorem own_links {args : Array Value} {s : State} {pl : Platform} (o1 : pl.frameOwnsMonitors = true) (o2 : pl.finalization = false) (o3 : pl.magicAccessors = ({} : Platform).magicAccessors) (W : ∀ d ∈ tables_1, xOk d = true → d.before args s = true) :
    ∃ (T : ThrowableC) (B : BackC) (iD : Nat) (fD : Field), T.Links pl s ∧ B.Links T pl s ∧ s.vm.findClass "java/lang/Throwable" = some T.cT ∧ s.methodNamed? tFill = some T.fill ∧ s.methodNamed? tFill0 = some T.fill0 ∧
      s.fieldFound? "java/lang/Throwable" "stackTrace" "[Ljava/lang/StackTraceElement;" = some (T.cT, T.kT, T.i17, T.fStack) ∧ s.fieldFound? "java/lang/Throwable" "UNASSIGNED_STACK" "[Ljava/lang/StackTraceElement;" = some (T.cT, T.kT, T.i13, T.fUnassigned) ∧
      s.fieldFound? "java/lang/Throwable" "backtrace" "Ljava/lang/Object;" = some (T.cT, T.kT, B.i198, B.fBack) ∧ s.fieldFound? "java/lang/Throwable" "depth" "I" = some (T.cT, T.kT, iD, fD) ∧ fD.isStatic = false := by
  obtain ⟨⟨c, j⟩, mN, p1, p2, p3, p4, p5, p6⟩ := Cond.native_spec (x := tFill0) (W _ (List.mem_of_getElem? (i := 61) rfl) rfl)
  have fc : s.vm.findClass "java/lang/Throwable" = some c := findClass_of_methodNamed p1
  obtain ⟨_, k, _, -, ck, -, -, -, -, ki⟩ := Cond.superclass_spec fc (W _ (List.mem_of_getElem? (i := 58) rfl) rfl)
  obtain ⟨_, ck2, kn⟩ := Vm.findClass_spec fc
  cases ck.symm.trans ck2
  obtain ⟨jF, mF, f1, f2, f3, f4, f5, -, -⟩ := Cond.ownMethod (x := tFill) fc ck (W _ (List.mem_of_getElem? (i := 53) rfl) rfl)
  obtain ⟨_, cF, g1, g2, g3, g4, g5, g6, -, g8⟩ := Cond.codeSync_spec f1 (W _ (List.mem_of_getElem? (i := 59) rfl) rfl)
  cases f2.symm.trans g1
  obtain ⟨_, _, u1, u2, u3, u4, u5, u6, u7⟩ := Cond.ownMethod (x := tFill0) fc ck (W _ (List.mem_of_getElem? (i := 60) rfl) rfl)
  cases p1.symm.trans u1
  cases p2.symm.trans u2
  obtain ⟨mO, me, r1, r2, r3, r4⟩ := Cond.instanceMethod_spec (x := oInit) (W _ (List.mem_of_getElem? (i := 12) rfl) rfl)
  obtain ⟨_, cO, w1, w2, w3, -, -, w6, -, w8⟩ := Cond.code_spec r1 (W _ (List.mem_of_getElem? (i := 13) rfl) rfl)
  cases r2.symm.trans w1
  obtain ⟨kO, kO1, kO2⟩ := Vm.findClass_spec (findClass_of_methodNamed r1)
  obtain ⟨nm1, nm2⟩ := name_of_methodNamed r1 r2
  obtain ⟨a1, b1, cf, L1, R1, C1, P1⟩ := Cond.linkedMethod fc ck r1 (W _ (List.mem_of_getElem? (i := 42) rfl) rfl) pl o3
  obtain ⟨a27, b27, _, L27, R27, C27, P27⟩ := Cond.linkedMethod fc ck f1 (W _ (List.mem_of_getElem? (i := 51) rfl) rfl) pl o3
  cases C1.symm.trans C27
  obtain ⟨a202, b202, _, L202, R202, C202, P202⟩ := Cond.linkedMethod fc ck p1 (W _ (List.mem_of_getElem? (i := 64) rfl) rfl) pl o3
  cases C1.symm.trans C202
  obtain ⟨c7, i7, f7, m7, n7, t7, s7, z7, -, -, -⟩ := Cond.ownField (t := .object "java/lang/Throwable") fc ck (by decide +kernel) (W _ (List.mem_of_getElem? (i := 43) rfl) rfl) (W _ (List.mem_of_getElem? (i := 44) rfl) rfl) pl o3
  obtain ⟨c17, i17, f17, m17, n17, t17, s17, z17, e17, -, q17⟩ := Cond.ownField (t := .array (.object "java/lang/StackTraceElement")) fc ck (by decide +kernel) (W _ (List.mem_of_getElem? (i := 46) rfl) rfl) (W _ (List.mem_of_getElem? (i := 47) rfl) rfl) pl o3
  obtain ⟨c24, i24, f24, m24, n24, t24, s24, z24, e24, -, q24⟩ := Cond.ownField (t := .object "java/util/List") fc ck (by decide +kernel) (W _ (List.mem_of_getElem? (i := 49) rfl) rfl) (W _ (List.mem_of_getElem? (i := 50) rfl) rfl) pl o3
  obtain ⟨c198, i198, f198, m198, n198, t198, s198, -, -, -, q198⟩ := Cond.ownField (t := .object "java/lang/Object") fc ck (by decide +kernel) (W _ (List.mem_of_getElem? (i := 69) rfl) rfl) (W _ (List.mem_of_getElem? (i := 75) rfl) rfl) pl o3
  obtain ⟨c13, i13, f13, aS, _, m13, n13, t13, s13, -, -, sta, -, -, -, -, q13⟩ := Cond.ownStatic (t := .array (.object "java/lang/StackTraceElement")) fc ck (by decide +kernel) (W _ (List.mem_of_getElem? (i := 45) rfl) rfl) (W _ (List.mem_of_getElem? (i := 71) rfl) rfl) pl o3
  obtain ⟨c20, i20, f20, _, _, m20, n20, t20, s20, -, -, -, -, -, -, -, -⟩ := Cond.ownStatic (t := .object "java/util/List") fc ck (by decide +kernel) (W _ (List.mem_of_getElem? (i := 48) rfl) rfl) (W _ (List.mem_of_getElem? (i := 72) rfl) rfl) pl o3
  obtain ⟨_, _, cD, kD, iD, fD, -, -, qD, sD, -⟩ := Cond.lays_spec (W _ (List.mem_of_getElem? (i := 76) rfl) rfl)
  cases (Cond.lays_declared (W _ (List.mem_of_getElem? (i := 76) rfl) rfl) qD).symm.trans fc
  cases (State.fieldFound?_spec qD).1.symm.trans ck
  have apart : f17.slot ≠ f24.slot := Cond.lays_apart (W _ (List.mem_of_getElem? (i := 47) rfl) rfl) (W _ (List.mem_of_getElem? (i := 50) rfl) rfl) q17 q24 (by rw [e17, e24]; decide)
  have pF : mF.sig.parameters = [] := by
    have z : (parseMethodDescriptor tFill.desc).map (·.parameters) = some [] := by decide +kernel
    rw [g8] at z; exact Option.some.inj z
  have p0 : mN.sig.parameters = [.int] := by
    have z : (parseMethodDescriptor tFill0.desc).map (·.parameters) = some [.int] := by decide +kernel
    rw [p6] at z; exact Option.some.inj z
  have pO : me.sig.parameters.length = 0 := by
    have z : (parseMethodDescriptor oInit.desc).map (·.parameters.length) = some 0 := by decide +kernel
    rw [w8] at z; exact Option.some.inj z
  have bF : cF.code = LibCode.Throwable.Fill.code := g3.trans (by decide +kernel)
  have bO : cO.code = ⟨#[0xb1]⟩ := w3.trans (by decide +kernel)
  have oF : lookupSpecial s.vm mO.cls "<init>" me.desc = .method mO := by rw [nm2]; exact lookupSpecial_of_named r1 r2 r3
  have ini := Cond.initialized_spec fc ck (W _ (List.mem_of_getElem? (i := 40) rfl) rfl)
  exact ⟨{ cT := c, kT := k, cO := c, aS := aS, fillIdx := jF, fill0Idx := j, initSIdx := jF, obj := mO, kObj := kO, methFill := mF, methFill0 := mN, methInitS := mF, methObj := me, codeFill := cF, codeInitS := cF, codeObj := cO, fBack := f198, fDepth := fD, fStack := f17, fCause := f7, fSupp := f24, fMsg := f7, fUnassigned := f13, fSentinel := f20, cfT := cf, ci1 := a1, n1 := b1, ci27 := a27, n27 := b27, ci202 := a202, n202 := b202, ci7 := c7, i7 := i7, ci13 := c13, i13 := i13, ci17 := c17, i17 := i17, ci20 := c20, i20 := i20, ci24 := c24, i24 := i24 }, { ci198 := c198, i198 := i198, fBack := f198 }, iD, fD,
    { owns := o1, noFinalization := o2, cls := ck, name := kn, boot := Vm.findClass_boot fc ck, notInterface := ki, initialized := ini, statics := sta, fillAt := f3, fillCode := g2, fillBytes := bF, fillLocals := g4, fillLocks := g6, fillStatic := f4, fillAbstract := f5, fillReturns := g5, fillParams := pF,
      fill0At := u3, fill0Name := u6, fill0Desc := u7, fill0Params := p0, fill0Static := u4, fill0Native := p3, fill0Code := p4, fill0Locks := p5, fill0Abstract := u5, stackInstance := s17, stackNotFinal := z17, unassignedStatic := s13,
      objClass := kO1, objClassName := kO2, objMethod := r2, objName := nm1, objStatic := r3, objAbstract := r4, objFound := oF, objParams := pO, objCode := w2, objBytes := bO, objLocks := w6, causeInstance := s7, causeNotFinal := z7, sentinelStatic := s20, suppInstance := s24, suppNotFinal := z24,
      msgInstance := s7, msgNotFinal := z7, stackApartSupp := apart, file := C1, mlink1 := L1, mright1 := R1, pool1 := P1, mlink27 := L27, mright27 := R27, pool27 := P27, mlink202 := L202, mright202 := R202, pool202 := P202,
      link7 := m7, right7 := n7, at7 := t7, link13 := m13, right13 := n13, at13 := t13, link17 := m17, right17 := n17, at17 := t17, link20 := m20, right20 := n20, at20 := t20, link24 := m24, right24 := n24, at24 := t24 },
    ⟨m198, n198, t198, s198⟩, fc, f1, p1, q17, q13, q198, qD, sD⟩
theorem own_ps {h : Heap} {t x : Cell} {a : Addr} (ha : a < h.size) : ((h.push t).setIfInBounds a x)[a]? = some x := Array.getElem?_setIfInBounds_self_of_lt (by rw [Array.size_push]; exact Nat.lt_succ_of_lt ha)
theorem own_ps_ne {h : Heap} {t x c : Cell} {a b : Addr} (hne : a ≠ b) (q : h[b]? = some c) : ((h.push t).setIfInBounds a x)[b]? = some c := by
  obtain ⟨z, r⟩ := Array.getElem?_eq_some_iff.mp q
  rw [Array.getElem?_setIfInBounds_ne hne, Array.getElem?_push_lt z, r]
set_option maxHeartbeats 4000000 in
/-- invokevirtual fillInStackTrace() on the exception that the walk has made -/
theorem own_fill {p : Program} {l : Launch} {e : Env} {R : Room} {s : State} {m : MethodId} {args : Array Value} {below : List Frame} {meth : Method} {c : Code} {T : State} {locs : List Loc} {cells slots : Nat} {Z : State} {a0 : Array Value} {h : Heap}
    (X : Stand p l e R s m args below meth c T locs cells slots) (hx : p.tables.exec = Jvm.exec) (hl : l.stackTraces = true) (hZ : Z.Warmed39 s.vm) (hown : s.vm.findClass "java/lang/Throwable" = some m.cls) (hw : ∀ d ∈ tables_1, d.before a0 Z = true) (hT0 : ThS Z s.heap)
    (hTK : s.vm.MethodsKnown) (hBelow : s.vm.FramesKnown below) (eT : T.heap = h) {a u : Addr} (E : Exa Z h a "com/example/seekret/seekret/server/KeystoreException") (N : Unt h a) (B : Fld Z h a "java/lang/Throwable" "backtrace" "Ljava/lang/Object;" .null) (S : Fld Z h a "java/lang/Throwable" "stackTrace" "[Ljava/lang/StackTraceElement;" (.ref u)) (hS : Sta Z h "java/lang/Throwable" "UNASSIGNED_STACK" "[Ljava/lang/StackTraceElement;" (.ref u))
    {g : JFrame} (hg : g.method = m) (hsize : g.locals.size = c.maxLocals) {rest : List Value} (hs : g.stack = .ref a :: rest) (hWd : 2 * g.monitorRoom + (rest.map fun v => v.category).sum + 42 ≤ R.locals) (hd : decode c.code g.pc = .ok (.invokevirtual 27, 3)) (hf : 2 < R.frames) (hc : cells + 1 ≤ R.cells) (hsl : slots + 2752 ≤ R.slots) :
    ∃ (T' : State) (h' : Heap) (L : List Loc), (∀ x ∈ L, x.base = a) ∧ Stand p l e R s m args below meth c T' (locs ++ L) (cells + 1) (slots + 2752) ∧ T'.heap = h' ∧ Keep h h' [a] ∧ Unt h' a ∧
      (∀ (O n d : String) (t : FieldType) (v : Value), Fld Z h a O n d v → Laid Z a0 "com/example/seekret/seekret/server/KeystoreException" O n d → parseFieldDescriptor d = some t → n ≠ "backtrace" → n ≠ "depth" → n ≠ "stackTrace" → Fld Z h' a O n d v) ∧
      ∀ target, Steps p.tables e below (T'.setTop { g with pc := g.pc + 3, stack := .ref a :: rest }) target → Steps p.tables e below (T.setTop g) target := by
  have W : ∀ d ∈ tables_1, xOk d = true → d.before args s = true := fun d hd ok => mvX hT0 hZ ok (hw d hd)
  obtain ⟨Tc, Bc, iD, fD, LK, LB, fc, nF, n0, qS, qU, qB, qD, sD⟩ := own_links (args := args) (s := s) (pl := e.platform) (by rw [X.admits.platform]) (by rw [X.admits.platform]) (by rw [X.admits.platform]) W
  have hal := hZ.alike
  obtain ⟨cell, kc, h1, h2, h3, h4, h5⟩ := E
  obtain ⟨_, u1, u2, u3⟩ := N
  cases h1.symm.trans u1
  obtain ⟨_, _, i1, i2, i3, -⟩ := Cond.instantiable_spec (own_w hw 27 rfl)
  cases h2.symm.trans i1
  cases h3.symm.trans i2
  obtain ⟨k', k1, k2⟩ := hal.2.2 _ _ h3
  have fX : s.vm.findClass "com/example/seekret/seekret/server/KeystoreException" = some cell.cls := by rw [hal.findClass]; exact h2
  have ho : k'.kind = .ordinary := by rw [k2]; exact i3
  have sz : cell.slots.size = k'.instanceTypes.size := by rw [k2]; exact h5 i3
  have tk : ∀ {f : Field} {v : Value}, k'.instanceTypes[f.slot]? = some f.type → fits f.type v = true → Jvm.Takes s cell f v := fun {f v} y1 y2 => by
    obtain ⟨z1, z2⟩ := Takes.of_laid (v := v) k1 ho y1 y2
    exact ⟨by rw [sz]; simpa using z1, by rw [u2]; exact z2⟩
  obtain ⟨_, _, _, _, f1, y1, y2, -, -, -, -, y7⟩ := S
  cases h1.symm.trans y1
  obtain ⟨_, z1, -⟩ := State.fieldFound?_setVm (s := Z) hal y2
  cases (show s.fieldFound? "java/lang/Throwable" "stackTrace" "[Ljava/lang/StackTraceElement;" = _ from z1).symm.trans qS
  obtain ⟨_, _, _, _, f2, b1, b2, -, -, -, -, b7⟩ := B
  cases h1.symm.trans b1
  obtain ⟨_, z2, -⟩ := State.fieldFound?_setVm (s := Z) hal b2
  cases (show s.fieldFound? "java/lang/Throwable" "backtrace" "Ljava/lang/Object;" = _ from z2).symm.trans qB
  obtain ⟨_, _, kS, fS, aS, cS, t1, -, -, t4, t5, t6, t7⟩ := hS
  obtain ⟨k5, z5, e5⟩ := State.fieldFound?_setVm (s := Z) hal t1
  cases (show s.fieldFound? "java/lang/Throwable" "UNASSIGNED_STACK" "[Ljava/lang/StackTraceElement;" = _ from z5).symm.trans qU
  have hst : Tc.kT.statics = some aS := by rw [e5]; exact t4
  cases hst.symm.trans LK.statics
  have knS : cS.vm ≠ .unknown := fun z => by rw [z] at t6; cases t6
  have neS : Tc.aS ≠ a := fun z => by
    rw [z, h1] at t5
    cases t5
    rw [u2] at t6; cases t6
  have sel0 : selectMethod e.platform s.vm cell.cls Tc.fill0 = .method Tc.fill0 := by
    obtain ⟨_, _, _, v1, v2, v3, v4, -⟩ := Cond.selects_spec (cls := "com/example/seekret/seekret/server/KeystoreException") (x := tFill0) (y := tFill0) (W _ (List.mem_of_getElem? (i := 73) rfl) rfl)
    cases v1.symm.trans fX
    cases v2.symm.trans (State.methodFound?_of_named n0 (by decide))
    cases v3.symm.trans n0
    rw [Launch.admits_selectMethod X.admits]; exact v4
  have tyS := (Cond.laysAt fX k1 qS (W _ (List.mem_of_getElem? (i := 47) rfl) rfl)).1
  have tyB := (Cond.laysAt fX k1 qB (W _ (List.mem_of_getElem? (i := 75) rfl) rfl)).1
  have tyD := (Cond.laysAt fX k1 qD (W _ (List.mem_of_getElem? (i := 76) rfl) rfl)).1
  obtain ⟨nS, xS⟩ := State.fieldFound?_type qS (t := .array (.object "java/lang/StackTraceElement")) (by decide +kernel)
  obtain ⟨nB, xB⟩ := State.fieldFound?_type qB (t := .object "java/lang/Object") (by decide +kernel)
  obtain ⟨nD, xD⟩ := State.fieldFound?_type qD (t := .int) (by decide +kernel)
  have fB := Cond.soleField_find fc LK.cls (W _ (List.mem_of_getElem? (i := 56) rfl) rfl) LB.at198 nB LB.backInstance
  have fD' := Cond.soleField_find fc LK.cls (W _ (List.mem_of_getElem? (i := 57) rfl) rfl) (State.fieldFound?_spec qD).2 nD sD
  obtain ⟨_, cO, kO, -, -, kO1, kO2, hO⟩ := Cond.arrayOver_spec (W _ (List.mem_of_getElem? (i := 55) rfl) rfl)
  have hSE : (Cond.selects "com/example/seekret/seekret/server/KeystoreException" tFill tFill).before args s = true := (W _ (List.mem_of_getElem? (i := 54) rfl) rfl)
  obtain ⟨v6, vm6, ⟨T6, L6, c6, n6⟩, hW6, X6, ⟨hv6, vm7, lines, hl7, hW7, hU6, hL6, hc6, hn6⟩, come⟩ := X.virtualBack hx (own := "java/lang/Throwable") (C := "com/example/seekret/seekret/server/KeystoreException") (index := 27) (y := tFill) (z := tFill) hown (W _ (List.mem_of_getElem? (i := 51) rfl) rfl) (W _ (List.mem_of_getElem? (i := 52) rfl) rfl) (notFace_of_selects hSE) hSE (W _ (List.mem_of_getElem? (i := 53) rfl) rfl) (by decide)
    (Jvm.Free.Str.fillPays (l := l) (R := R) (W := 2 * g.monitorRoom + (rest.map fun v => v.category).sum) hx (by rw [X.admits.platform]; exact hl) Tc LK nF (u0 := ⟨.ref u, rfl⟩) (by simp) (self := a) (cell := cell) (cellS := cS) (fun _ => by rw [u2]; simp) (by rw [u2]; simp) (by rw [u3]) (by rw [u3]) y7 sel0 neS knS t7
      (tk tyS (by rw [xS]; rfl)) ⟨Bc, LB, b7⟩ hTK hBelow fc hO kO1 kO2 fB fD' (fun x => tk tyB (by rw [xB]; rfl)) (fun x => tk tyD (by rw [xD]; rfl)) hf hWd)
    (b := a) (cB := cell.cls) fX ⟨cell, by rw [eT]; exact h1, rfl, by rw [u2]; rfl⟩ (g := g) hg hsize (Steps.refl _) (argsL := []) (rest := rest)
    (fun sig z => by rw [show parseMethodDescriptor tFill.desc = some ⟨[], some (.object tN)⟩ from by decide +kernel] at z; rw [← Option.some.inj z]; rfl) hs (Nat.le_refl _) hd
    (fun vmx _ => ⟨rfl, hc, hsl, by show T.heap[a]? = _; rw [eT]; exact h1, by show T.heap[Tc.aS]? = _; rw [eT]; exact t5⟩)
  dsimp only [Pt.U, Pt.locs, Pt.cells, Pt.slots] at X6 hU6 hL6 hc6 hn6 come
  subst hv6 hL6 hc6 hn6
  obtain ⟨C6, hC6⟩ : ∃ z, z = Jvm.Free.Str.filledOn Tc.toThrowableT Bc.fBack fD cell ⟨.ref u, rfl⟩ (T.setVm vm6).heap.size lines.length.toInt32 := ⟨_, rfl⟩
  have hT6 : T6.heap = (h.push (traceHolder cO lines)).setIfInBounds a C6 := by rw [hU6, hC6, ← eT]; rfl
  have hlt := (Array.getElem?_eq_some_iff.mp h1).1
  have c6a : C6.cls = cell.cls := by rw [hC6]; rfl
  have c6b : C6.vm = cell.vm := by rw [hC6]; rfl
  have c6c : C6.monitor = cell.monitor := by rw [hC6]; rfl
  have c6d : C6.slots.size = cell.slots.size := by rw [hC6]; simp [Cell.setSlot]
  have slo : ∀ {n d : String} {f : Field}, (∃ c k i, s.fieldFound? "java/lang/Throwable" n d = some (c, k, i, f)) → Jvm.RoadKit.slotOf Z "java/lang/Throwable" n d = f.slot := fun {n d f} z => by
    obtain ⟨_, _, _, z'⟩ := Jvm.Free.BdW.found_ride (U := s) (U' := Z) hal.symm z
    simp [Jvm.RoadKit.slotOf, z']
  refine ⟨T6, _, [⟨a, Bc.fBack.slot⟩, ⟨a, fD.slot⟩, ⟨a, Tc.fStack.slot⟩], ?_, X6.more (Nat.le_refl _) (Nat.add_le_add_left (traceHolder_size_le cO hl7) _), hT6, ⟨?_, ?_, ?_⟩, ⟨C6, own_ps hlt, c6b.trans u2, c6c.trans u3⟩, ?_, fun target z => come.trans z⟩
  · intro x hx'
    simp only [List.mem_cons, List.not_mem_nil, or_false] at hx'
    rcases hx' with rfl | rfl | rfl <;> rfl
  · rw [Array.size_setIfInBounds, Array.size_push]; exact Nat.le_succ _
  · intro x cx z r
    exact own_ps_ne (fun z' => r (by rw [z']; exact List.mem_cons_self ..)) z
  · intro x cx z
    by_cases y : a = x
    · subst y
      cases h1.symm.trans z
      exact ⟨C6, own_ps hlt, c6a, c6b, c6d⟩
    · exact ⟨cx, own_ps_ne y z, rfl, rfl, rfl⟩
  · intro O n d t v F Lf ht d1 d2 d3
    have x1 := slot_ne Lf (Or.inl (own_w hw 75 rfl)) d1 ht (t' := .object "java/lang/Object") (by decide)
    have x2 := slot_ne Lf (Or.inl (own_w hw 76 rfl)) d2 ht (t' := .int) (by decide)
    have x3 := slot_ne Lf (Or.inl (own_w hw 47 rfl)) d3 ht (t' := .array (.object "java/lang/StackTraceElement")) (by decide)
    rw [slo ⟨_, _, _, qB⟩] at x1
    rw [slo ⟨_, _, _, qD⟩] at x2
    rw [slo ⟨_, _, _, qS⟩] at x3
    obtain ⟨_, cf, k, i, f, w1, w2, w3, w4, w5, w6, w7⟩ := F
    cases h1.symm.trans w1
    have ef : Jvm.RoadKit.slotOf Z O n d = f.slot := by simp [Jvm.RoadKit.slotOf, w2]
    rw [ef] at x1 x2 x3
    refine ⟨C6, cf, k, i, f, own_ps hlt, w2, w3, by rw [c6b]; exact w4, by rw [c6b]; exact w5, by rw [c6a]; exact w6, ?_⟩
    rw [hC6]
    show (((cell.setSlot Bc.fBack.slot _).setSlot fD.slot _).setSlot Tc.fStack.slot _).slots[f.slot]? = some v
    simp only [Cell.setSlot, Array.getElem?_setIfInBounds_ne (Ne.symm x1), Array.getElem?_setIfInBounds_ne (Ne.symm x2), Array.getElem?_setIfInBounds_ne (Ne.symm x3)]
    exact w7
end Fill
theorem ef_si6e (m : MethodId) (x0 : Addr) (x1 : Addr) : entryFrame m #[(.ref x0), (.ref x1), (.int 0), (.int 0), .null] 6 = mkF m 0 #[vR x0, vR x1, vI 0, vI 0, .val .null, vU] [] := by
  first | (simp [entryFrame, mkF, argsToLocals, Value.category]; done) | rfl
def Q_si6e (Z : State) (a1 : Addr) (b1 : Addr) (h0 : Heap) (n0 : Nat) (v : Option Value) (h : Heap) (L : List Loc) : Prop := ∃ (t : Addr), ∃ (k : ClassId), v = none ∧ Fr n0 L ∧ Keep h0 h ([a1] : List Addr) ∧ Exa Z h a1 "java/lang/String" ∧ Fld Z h a1 "java/lang/String" "value" "[B" (.ref t) ∧ Fld Z h a1 "java/lang/String" "coder" "B" (.int 0) ∧ Arv Z h t k .byte (0 : Int32) [] (.int 0)
theorem pn_52039224 : plainName "java/lang/String" = true := by first | (simp [plainName, overriddenIn]; done) | decide +kernel
theorem d0_0 : decode jdk_42_method_149_code 0 = .ok (.aload_n 0, 1) := by decide +kernel
theorem d0_1 : decode jdk_42_method_149_code 1 = .ok (.invokespecial 1, 3) := by decide +kernel
theorem d0_4 : decode jdk_42_method_149_code 4 = .ok (.iload_n 3, 1) := by decide +kernel
theorem d0_5 : decode jdk_42_method_149_code 5 = .ok (.ifCond .ne 22, 3) := by decide +kernel
theorem d0_8 : decode jdk_42_method_149_code 8 = .ok (.aload_n 0, 1) := by decide +kernel
theorem d0_9 : decode jdk_42_method_149_code 9 = .ok (.ldc 7, 2) := by decide +kernel
theorem d0_11 : decode jdk_42_method_149_code 11 = .ok (.getfield 9, 3) := by decide +kernel
theorem d0_14 : decode jdk_42_method_149_code 14 = .ok (.putfield 9, 3) := by decide +kernel
theorem d0_17 : decode jdk_42_method_149_code 17 = .ok (.aload_n 0, 1) := by decide +kernel
theorem d0_18 : decode jdk_42_method_149_code 18 = .ok (.ldc 7, 2) := by decide +kernel
theorem d0_20 : decode jdk_42_method_149_code 20 = .ok (.getfield 15, 3) := by decide +kernel
theorem d0_23 : decode jdk_42_method_149_code 23 = .ok (.putfield 15, 3) := by decide +kernel
theorem d0_26 : decode jdk_42_method_149_code 26 = .ok (.return_, 1) := by decide +kernel
set_option maxRecDepth 65536 in
set_option maxHeartbeats 40000000 in
theorem rm_si6e (l : Launch) (Z : State) (a0 : Array Value) (hw : ∀ d ∈ tables_1, d.before a0 Z = true) (ws : List Jvm.Cond) (wG1 : Int32) (wO2 : Sta Z Z.heap "java/lang/String" "COMPACT_STRINGS" "Z" (.int wG1)) (wP5 : ¬ (wG1 = (0 : Int32))) (wG3 : Value) (wO4 : Sta Z Z.heap "jdk/internal/util/Preconditions" "SIOOBE_FORMATTER" "Ljava/util/function/BiFunction;" wG3) (wrG3 : wG3.isRef = true) (hstr : ∀ a ∈ Bundle.stringAtoms, a.before a0 Z = true) (hl : l.stackTraces = true) (wG7 : Addr) (wO7 : Sta Z Z.heap "java/lang/Throwable" "UNASSIGNED_STACK" "[Ljava/lang/StackTraceElement;" (.ref wG7)) (wG8 : Addr) (wO8 : Sta Z Z.heap "java/lang/Throwable" "SUPPRESSED_SENTINEL" "Ljava/util/List;" (.ref wG8)) (hEL : EW Z a0 consts_1) (h0 : Heap) (n0 : Nat) (X00 : Old Z n0 h0) (a1 : Addr) (b1 : Addr) (f0 : Exa Z h0 a1 "java/lang/String") (f1 : Fld Z h0 a1 "java/lang/String" "value" "[B" .null) (f2 : Fld Z h0 a1 "java/lang/String" "coder" "B" (.int 0)) (f3 : n0 ≤ a1) :
    MetFree l mN0 (head1 (Jvm.Cond.code mN0 jdk_42_method_149_code 6 none :: ws) (oR 1 4 8 12)) (fun a U => a = #[(.ref a1), (.ref b1), (.int 0), (.int 0), .null] ∧ Z.Warmed39 U.vm ∧ U.heap = h0 ∧ CHv Z consts_1 U.vm h0) (fun _ _ _ _ _ => True) (fun _ U o U' => ∃ v L, o = .returned v ∧ Q_si6e Z a1 b1 h0 n0 v U'.heap L ∧ CHr Z consts_1 U.vm U.heap U'.vm U'.heap ∧ ReturnedEndW U o U' L (oR 1 4 8 12).cells (oR 1 4 8 12).slots) := by
  refine MetFree.of_bodySF (plainFor_of_name pn_52039224) hisR ?_
  intro p e s m args below meth c s₁ Bd hml0 hP hK
  obtain ⟨rfl, hZ, hh, hH⟩ := hP
  have hx := Bd.exec
  have hby := Bd.bytes
  have hlk := Bd.notSynchronized
  have hml : c.maxLocals = 6 := hml0
  have hown : s.vm.findClass "java/lang/String" = some m.cls := findClass_of_methodNamed Bd.named
  have hnm := (name_of_methodNamed Bd.named Bd.method).1
  have X0 : Stand p l e (oR 1 4 8 12) (s.setVm s.vm) m #[(.ref a1), (.ref b1), (.int 0), (.int 0), .null] below meth c s₁ [] 0 0 := Stand.of_body Bd
  have e0 : s₁.heap = h0 := by rw [← hh, Bd.state]; rfl
  have N0 := Fr.nil n0
  have Z0 : n0 ≤ h0.size := X00.1 ▸ X00.2.1
  have K0 : Keep h0 h0 ([a1] : List Addr) := Keep.refl _ _
  have R0 : CHr Z consts_1 s.vm h0 s.vm h0 := CHr.refl hH
  have hS0 : s.Since s.vm h0.size := State.WarmedH.since (State.WarmedH.refl s) _
  have hk0 : h0.size ≤ h0.size := Nat.le_refl _
  have Sf0_a1 : Safe Z consts_1 s.vm h0 a1 := (own_safe_null (vm := s.vm) hZ.alike (own_w hw 2 rfl) f0 f1)
  show OwnGoes p e below _ s₁ (entryFrame m _ _)
  refine og s₁ m 0 #[vR a1, vR b1, vI 0, vI 0, .val .null, vU] [] (fun tgt kgo => castTop (ef_si6e m a1 b1) kgo) ?_
  refine og s₁ m 1 #[vR a1, vR b1, vI 0, vI 0, .val .null, vU] [(.ref a1)] (fun tgt kgo => ?_) ?_
  · refine XS.aloadN X0.here hx rfl (hb hby d0_0) rfl rfl ?_
    exact kgo
  obtain ⟨T1, X1, e1, st1⟩ := initO X0 hx hZ hown (own_w hw 11 rfl) (own_w hw 12 rfl) (own_w hw 13 rfl) e0 (g := (mkF m 1 #[vR a1, vR b1, vI 0, vI 0, .val .null, vU] [(.ref a1)])) rfl (by rw [hml]; rfl) rfl (hb hby d0_1) (by decide) (W := 0) (Nat.le_of_eq rfl) (by decide)
  refine og T1 m 4 #[vR a1, vR b1, vI 0, vI 0, .val .null, vU] [] st1 ?_
  refine og T1 m 9 #[vR a1, vR b1, vI 0, vI 0, .val .null, vU] [(.ref a1)] (fun tgt kgo => ?_) ?_
  · refine XS.iloadN X1.here hx rfl (hb hby d0_4) rfl ?_
    show OwnG p e below T1 m 5 #[vR a1, vR b1, vI 0, vI 0, .val .null, vU] [(.int 0)] tgt
    refine XS.ifNo X1.here hx rfl (hb hby d0_5) rfl ((if0 _ _).trans (teq (by decide : (0 : Int32) = (0 : Int32))).2) ?_
    show OwnG p e below T1 m 8 #[vR a1, vR b1, vI 0, vI 0, .val .null, vU] [] tgt
    refine XS.aloadN X1.here hx rfl (hb hby d0_8) rfl rfl ?_
    exact kgo
  obtain ⟨b2, T2, h2, kk2, t2, k2, X2, e2, E2, hS2, hk2, hZ2, ho2, A2, Fc2, Fv2, V2, lt2, lu2, Rc2, Lt2, ns2, st2⟩ := ldcCH X1 hx hZ hown (own_w hw 14 rfl) hstr e1 hS0 hk0 hEL (by decide) R0.1 (vs := []) (z := (0 : Int32)) (by decide +kernel) (by decide) (by decide +kernel) (g := (mkF m 9 #[vR a1, vR b1, vI 0, vI 0, .val .null, vU] [(.ref a1)])) rfl (hb hby d0_9) (n := 0) (by decide) (by decide) (by decide) (by decide)
  refine og T2 m 11 #[vR a1, vR b1, vI 0, vI 0, .val .null, vU] [(.ref b2), (.ref a1)] st2 ?_
  have F2_1 := f0.ext E2
  have F2_2 := f1.ext E2
  have F2_3 := f2.ext E2
  have F2_4 := Rc2.safe f0.lt Sf0_a1
  have Ol2 := X00.ext E2
  have K2 : Keep h0 h2 ([a1] : List Addr) := K0.ext E2
  have R2 := R0.trans Rc2
  have nl2_a1 := ns2 _ F2_4
  obtain ⟨T3, X3, e3, st3⟩ := getF X2 hx hZ2 ho2 (host := "") (Or.inl (own_w hw 20 rfl)) Via.refl e2 Fv2 (g := (mkF m 11 #[vR a1, vR b1, vI 0, vI 0, .val .null, vU] [(.ref b2), (.ref a1)])) rfl rfl (hb hby d0_11)
  refine og T3 m 14 #[vR a1, vR b1, vI 0, vI 0, .val .null, vU] [(.ref t2), (.ref a1)] st3 ?_
  obtain ⟨T4, h4, X4, e4, W4, st4⟩ := putF X3 hx hZ2 ho2 (host := "") (Or.inl (own_w hw 20 rfl)) Via.refl e3 F2_2 F2_1 (Or.inr ⟨(own_w hw 16 rfl), rfl, hnm⟩) (own_w hw 2 rfl) (ty := (.array .byte)) (by decide) rfl rfl (g := (mkF m 14 #[vR a1, vR b1, vI 0, vI 0, .val .null, vU] [(.ref t2), (.ref a1)])) rfl rfl (hb hby d0_14)
  refine og T4 m 17 #[vR a1, vR b1, vI 0, vI 0, .val .null, vU] [] st4 ?_
  have Fw4 := F2_2.same W4
  have F4_5 := F2_1.wr W4
  have F4_6 := F2_3.other W4 (Or.inr (slot_ne (Or.inr (own_w hw 17 rfl)) (Or.inr (own_w hw 16 rfl)) (by decide) (t := .byte) (t' := (.array .byte)) (by decide) (by decide)))
  have F4_7 := Safe.wr W4 F2_4 R2.1 F2_4
  have F4_8 := A2.wr W4
  have F4_9 := Fc2.other W4 (Or.inl (Ne.symm nl2_a1.1))
  have F4_10 := Fv2.other W4 (Or.inl (Ne.symm nl2_a1.1))
  have F4_11 := V2.other W4 (Ne.symm nl2_a1.2)
  have Ol4 := Ol2.wr W4 f3
  have K4 : Keep h0 h4 ([a1] : List Addr) := K2.wr W4 (Or.inl (List.mem_of_getElem? (i := 0) rfl))
  have R4 := R2.trans (CHr.wr W4 F2_4 R2.1)
  have hk4 := Nat.le_trans hk2 (Keep.of_wr W4).1
  have N4 := Fr.snoc X4 N0 f3
  refine og T4 m 18 #[vR a1, vR b1, vI 0, vI 0, .val .null, vU] [(.ref a1)] (fun tgt kgo => ?_) ?_
  · refine XS.aloadN X4.here hx rfl (hb hby d0_17) rfl rfl ?_
    exact kgo
  obtain ⟨b5, T5, h5, kk5, t5, k5, X5, e5, E5, hS5, hk5, hZ5, ho5, A5, Fc5, Fv5, V5, lt5, lu5, Rc5, Lt5, ns5, st5⟩ := ldcCH X4 hx hZ2 ho2 (own_w hw 14 rfl) hstr e4 hS2 hk4 hEL (by decide) R4.1 (vs := []) (z := (0 : Int32)) (by decide +kernel) (by decide) (by decide +kernel) (g := (mkF m 18 #[vR a1, vR b1, vI 0, vI 0, .val .null, vU] [(.ref a1)])) rfl (hb hby d0_18) (n := 0) (by decide) (by decide) (by decide) (by decide)
  refine og T5 m 20 #[vR a1, vR b1, vI 0, vI 0, .val .null, vU] [(.ref b5), (.ref a1)] st5 ?_
  have F5_12 := F4_5.ext E5
  have F5_13 := Fw4.ext E5
  have F5_14 := F4_6.ext E5
  have F5_15 := Rc5.safe F4_5.lt F4_7
  have F5_16 := F4_8.ext E5
  have F5_17 := F4_9.ext E5
  have F5_18 := F4_10.ext E5
  have F5_19 := F4_11.ext E5
  have Ol5 := Ol4.ext E5
  have K5 : Keep h0 h5 ([a1] : List Addr) := K4.ext E5
  have R5 := R4.trans Rc5
  have nl5_a1 := ns5 _ F5_15
  obtain ⟨T6, X6, e6, st6⟩ := getF X5 hx hZ5 ho5 (host := "") (Or.inl (own_w hw 21 rfl)) Via.refl e5 Fc5 (g := (mkF m 20 #[vR a1, vR b1, vI 0, vI 0, .val .null, vU] [(.ref b5), (.ref a1)])) rfl rfl (hb hby d0_20)
  refine og T6 m 23 #[vR a1, vR b1, vI 0, vI 0, .val .null, vU] [(.int 0), (.ref a1)] st6 ?_
  obtain ⟨T7, h7, X7, e7, W7, st7⟩ := putFN X6 hx hZ5 ho5 (own_w hw 21 rfl) Via.refl e6 F5_14 F5_12 (Or.inr ⟨(own_w hw 17 rfl), rfl, hnm⟩) (own_w hw 2 rfl) (ty := .byte) (v' := (.int (nar .byte (0 : Int32)))) (by decide) rfl (fits_nar_byte _) (g := (mkF m 23 #[vR a1, vR b1, vI 0, vI 0, .val .null, vU] [(.int 0), (.ref a1)])) rfl rfl (hb hby d0_23)
  refine og T7 m 26 #[vR a1, vR b1, vI 0, vI 0, .val .null, vU] [] st7 ?_
  have Fw7 := F5_14.same W7
  rw [(by decide : nar .byte (0 : Int32) = (0 : Int32))] at Fw7
  have F7_20 := F5_12.wr W7
  have F7_21 := F5_13.other W7 (Or.inr (slot_ne (Or.inr (own_w hw 16 rfl)) (Or.inr (own_w hw 17 rfl)) (by decide) (t := (.array .byte)) (t' := .byte) (by decide) (by decide)))
  have F7_22 := Safe.wr W7 F5_15 R5.1 F5_15
  have F7_23 := F5_16.wr W7
  have F7_24 := F5_17.other W7 (Or.inl (Ne.symm nl2_a1.1))
  have F7_25 := F5_18.other W7 (Or.inl (Ne.symm nl2_a1.1))
  have F7_26 := F5_19.other W7 (Ne.symm nl2_a1.2)
  have F7_27 := A5.wr W7
  have F7_28 := Fc5.other W7 (Or.inl (Ne.symm nl5_a1.1))
  have F7_29 := Fv5.other W7 (Or.inl (Ne.symm nl5_a1.1))
  have F7_30 := V5.other W7 (Ne.symm nl5_a1.2)
  have Ol7 := Ol5.wr W7 f3
  have K7 : Keep h0 h7 ([a1] : List Addr) := K5.wr W7 (Or.inl (List.mem_of_getElem? (i := 0) rfl))
  have R7 := R5.trans (CHr.wr W7 F5_15 R5.1)
  have hk7 := Nat.le_trans hk5 (Keep.of_wr W7).1
  have N7 := Fr.snoc X7 N4 f3
  refine own_leaveW (Z := Z) (EL := consts_1) X7 hS5 (e7 ▸ hk7) hlk (v := none) (fun _ => rfl) (fun fs hr => X7.returnOut hx Bd.returns (hb hby d0_26) hr) (by decide) (by decide) ?_ ?_
  · rw [hh, e7]
    exact R7.trans (CHv.at X7 hZ5 hEL R7.1)
  show Q_si6e Z a1 b1 h0 n0 _ T7.heap _
  rw [e7]
  exact ⟨t2, k2, rfl, N7, K7, F7_20, F7_21, Fw7, F7_26⟩
theorem ef_si2e (m : MethodId) (x0 : Addr) (x1 : Addr) : entryFrame m #[(.ref x0), (.ref x1)] 2 = mkF m 0 #[vR x0, vR x1] [] := by
  first | (simp [entryFrame, mkF, argsToLocals, Value.category]; done) | rfl
def Q_si2e (Z : State) (a1 : Addr) (b1 : Addr) (kc : ClassId) (h0 : Heap) (n0 : Nat) (v : Option Value) (h : Heap) (L : List Loc) : Prop := ∃ (t : Addr), ∃ (k : ClassId), v = none ∧ Fr n0 L ∧ Keep h0 h ([a1] : List Addr) ∧ Exa Z h a1 "java/lang/String" ∧ Fld Z h a1 "java/lang/String" "value" "[B" (.ref t) ∧ Fld Z h a1 "java/lang/String" "coder" "B" (.int 0) ∧ Arv Z h t k .byte (0 : Int32) [] (.int 0)
theorem d1_0 : decode jdk_42_method_3_code 0 = .ok (.aload_n 0, 1) := by decide +kernel
theorem d1_1 : decode jdk_42_method_3_code 1 = .ok (.aload_n 1, 1) := by decide +kernel
theorem d1_2 : decode jdk_42_method_3_code 2 = .ok (.iconst 0, 1) := by decide +kernel
theorem d1_3 : decode jdk_42_method_3_code 3 = .ok (.aload_n 1, 1) := by decide +kernel
theorem d1_4 : decode jdk_42_method_3_code 4 = .ok (.arraylength, 1) := by decide +kernel
theorem d1_5 : decode jdk_42_method_3_code 5 = .ok (.aconst_null, 1) := by decide +kernel
theorem d1_6 : decode jdk_42_method_3_code 6 = .ok (.invokespecial 27, 3) := by decide +kernel
theorem pd_10261703 : parseMethodDescriptor "([CIILjava/lang/Void;)V" = some ⟨[(.array .char), .int, .int, (.object "java/lang/Void")], none⟩ := by decide +kernel
theorem d1_9 : decode jdk_42_method_3_code 9 = .ok (.return_, 1) := by decide +kernel
set_option maxRecDepth 65536 in
set_option maxHeartbeats 40000000 in
theorem rm_si2e (l : Launch) (Z : State) (a0 : Array Value) (hw : ∀ d ∈ tables_1, d.before a0 Z = true) (ws : List Jvm.Cond) (wG1 : Int32) (wO2 : Sta Z Z.heap "java/lang/String" "COMPACT_STRINGS" "Z" (.int wG1)) (wP5 : ¬ (wG1 = (0 : Int32))) (wG3 : Value) (wO4 : Sta Z Z.heap "jdk/internal/util/Preconditions" "SIOOBE_FORMATTER" "Ljava/util/function/BiFunction;" wG3) (wrG3 : wG3.isRef = true) (hstr : ∀ a ∈ Bundle.stringAtoms, a.before a0 Z = true) (hl : l.stackTraces = true) (wG7 : Addr) (wO7 : Sta Z Z.heap "java/lang/Throwable" "UNASSIGNED_STACK" "[Ljava/lang/StackTraceElement;" (.ref wG7)) (wG8 : Addr) (wO8 : Sta Z Z.heap "java/lang/Throwable" "SUPPRESSED_SENTINEL" "Ljava/util/List;" (.ref wG8)) (hEL : EW Z a0 consts_1) (h0 : Heap) (n0 : Nat) (X00 : Old Z n0 h0) (a1 : Addr) (b1 : Addr) (kc : ClassId) (f0 : Exa Z h0 a1 "java/lang/String") (f1 : Fld Z h0 a1 "java/lang/String" "value" "[B" .null) (f2 : Fld Z h0 a1 "java/lang/String" "coder" "B" (.int 0)) (f3 : n0 ≤ a1) (f4 : Arv Z h0 b1 kc .char (0 : Int32) [] (.int 0)) :
    MetFree l mN1 (head1 (Jvm.Cond.code mN1 jdk_42_method_3_code 2 none :: ws) (oR 2 4 8 29)) (fun a U => a = #[(.ref a1), (.ref b1)] ∧ Z.Warmed39 U.vm ∧ U.heap = h0 ∧ CHv Z consts_1 U.vm h0) (fun _ _ _ _ _ => True) (fun _ U o U' => ∃ v L, o = .returned v ∧ Q_si2e Z a1 b1 kc h0 n0 v U'.heap L ∧ CHr Z consts_1 U.vm U.heap U'.vm U'.heap ∧ ReturnedEndW U o U' L (oR 2 4 8 29).cells (oR 2 4 8 29).slots) := by
  refine MetFree.of_bodySF (plainFor_of_name pn_52039224) hisR ?_
  intro p e s m args below meth c s₁ Bd hml0 hP hK
  obtain ⟨rfl, hZ, hh, hH⟩ := hP
  have hx := Bd.exec
  have hby := Bd.bytes
  have hlk := Bd.notSynchronized
  have hml : c.maxLocals = 2 := hml0
  have hown : s.vm.findClass "java/lang/String" = some m.cls := findClass_of_methodNamed Bd.named
  have hnm := (name_of_methodNamed Bd.named Bd.method).1
  have X0 : Stand p l e (oR 2 4 8 29) (s.setVm s.vm) m #[(.ref a1), (.ref b1)] below meth c s₁ [] 0 0 := Stand.of_body Bd
  have e0 : s₁.heap = h0 := by rw [← hh, Bd.state]; rfl
  have N0 := Fr.nil n0
  have Z0 : n0 ≤ h0.size := X00.1 ▸ X00.2.1
  have K0 : Keep h0 h0 ([a1] : List Addr) := Keep.refl _ _
  have R0 : CHr Z consts_1 s.vm h0 s.vm h0 := CHr.refl hH
  have hS0 : s.Since s.vm h0.size := State.WarmedH.since (State.WarmedH.refl s) _
  have hk0 : h0.size ≤ h0.size := Nat.le_refl _
  have Sf0_a1 : Safe Z consts_1 s.vm h0 a1 := (own_safe_null (vm := s.vm) hZ.alike (own_w hw 2 rfl) f0 f1)
  show OwnGoes p e below _ s₁ (entryFrame m _ _)
  refine og s₁ m 0 #[vR a1, vR b1] [] (fun tgt kgo => castTop (ef_si2e m a1 b1) kgo) ?_
  refine og s₁ m 6 #[vR a1, vR b1] [.null, (.int 0), (.int 0), (.ref b1), (.ref a1)] (fun tgt kgo => ?_) ?_
  · refine XS.aloadN X0.here hx rfl (hb hby d1_0) rfl rfl ?_
    show OwnG p e below s₁ m 1 #[vR a1, vR b1] [(.ref a1)] tgt
    refine XS.aloadN X0.here hx rfl (hb hby d1_1) rfl rfl ?_
    show OwnG p e below s₁ m 2 #[vR a1, vR b1] [(.ref b1), (.ref a1)] tgt
    refine XS.iconst X0.here hx rfl (hb hby d1_2) ?_
    show OwnG p e below s₁ m 3 #[vR a1, vR b1] [(.int 0), (.ref b1), (.ref a1)] tgt
    refine XS.aloadN X0.here hx rfl (hb hby d1_3) rfl rfl ?_
    show OwnG p e below s₁ m 4 #[vR a1, vR b1] [(.ref b1), (.int 0), (.ref b1), (.ref a1)] tgt
    obtain ⟨cl1, Ar1, q1, S1, M1, -, -⟩ := f4
    refine X0.arraylength hx (by rw [e0]; exact Ar1.1) (State.isArrayOf_alike hZ.alike Ar1.2.1) (g := (mkF m 4 #[vR a1, vR b1] [(.ref b1), (.int 0), (.ref b1), (.ref a1)])) rfl rfl (hb hby d1_4) _ ?_
    rw [len_of S1 M1]
    show OwnG p e below s₁ m 5 #[vR a1, vR b1] [(.int 0), (.int 0), (.ref b1), (.ref a1)] tgt
    refine XS.aconstNull X0.here hx rfl (hb hby d1_5) ?_
    exact kgo
  obtain ⟨_, _, ⟨T2, L2, k2, n2⟩, -, X2, Si2, Gr2, ⟨Lc2, hQ2, l2, y2, z2, Rc2⟩, st2⟩ := X0.specialBackS hx (y := mN0) rfl hown (mvT hZ (own_w hw 7 rfl)) (mvT hZ (own_w hw 8 rfl)) (mvT hZ (own_w hw 10 rfl)) (by decide) (backOfSH (W := 0) (rm_si6e l Z a0 hw [] wG1 wO2 wP5 wG3 wO4 wrG3 hstr hl wG7 wO7 wG8 wO8 hEL h0 n0 X00 a1 b1 f0 f1 f2 f3) hZ (own_w hw 10 rfl) (own_w hw 3 rfl) (by decide) (by decide) hEL R0.1) (g := (mkF m 6 #[vR a1, vR b1] [.null, (.int 0), (.int 0), (.ref b1), (.ref a1)])) rfl (by rw [hml]; rfl) (Steps.refl _) (a := a1) (argsL := [(.ref b1), (.int 0), (.int 0), .null]) (rest := []) (lenOf pd_10261703 rfl) rfl (Nat.le_of_eq rfl) (hb hby d1_6) (fun _ _ => ⟨rfl, e0, (by decide : 0 + 4 ≤ _), (by decide : 0 + 8 ≤ _)⟩)
  dsimp only [Pt.U, Pt.locs, Pt.cells, Pt.slots] at X2 l2 y2 z2 st2 hQ2 Si2 Gr2 Rc2
  subst l2 y2 z2
  obtain ⟨t_2, k_2, rfl, Nq2, Kq2, fq2_0, fq2_1, fq2_2, fq2_3⟩ := hQ2
  refine OwnGoes.tr (T' := T2) (g' := (mkF m 9 #[vR a1, vR b1] [])) st2 ?_
  have N2 := Fr.app N0 Nq2
  have gz2 : h0.size ≤ T2.heap.size := Rc2.2.1
  obtain ⟨X2, hS2, hZ2, ho2⟩ := rebS hS0 hk0 X2 Si2 gz2 hZ hown
  have F2_1 := f0.keep Kq2
  have F2_2 := f4.keep Kq2 (ninS (Ne.symm (Exa.neArv f0 f4 (own_w hw 2 rfl))) nin0)
  have F2_3 := Rc2.safe f0.lt Sf0_a1
  have Ol2 := X00.keep Kq2 (allS f3 all0)
  have K2 : Keep h0 T2.heap ([a1] : List Addr) := K0.trans Kq2 (allS (Or.inl (List.mem_of_getElem? (i := 0) rfl)) all0)
  have R2 := R0.trans Rc2
  refine own_leaveW (Z := Z) (EL := consts_1) X2 hS2 (Nat.le_refl _) hlk (v := none) (fun _ => rfl) (fun fs hr => X2.returnOut hx Bd.returns (hb hby d1_9) hr) (by decide) (by decide) ?_ ?_
  · rw [hh]
    exact R2.trans (CHv.at X2 hZ2 hEL R2.1)
  show Q_si2e Z a1 b1 kc h0 n0 _ T2.heap _
  exact ⟨t_2, k_2, rfl, N2, K2, fq2_0, fq2_1, fq2_2, fq2_3⟩
theorem ef_tini (m : MethodId) (x0 : Addr) (x1 : Addr) : entryFrame m #[(.ref x0), (.ref x1)] 2 = mkF m 0 #[vR x0, vR x1] [] := by
  first | (simp [entryFrame, mkF, argsToLocals, Value.category]; done) | rfl
def Q_tini (Z : State) (a1 : Addr) (a2 : Addr) (h0 : Heap) (n0 : Nat) (v : Option Value) (h : Heap) (L : List Loc) : Prop := v = none ∧ Fr n0 L ∧ Keep h0 h ([a1] : List Addr) ∧ Exa Z h a1 "com/example/seekret/seekret/server/KeystoreException" ∧ Fld Z h a1 "com/example/seekret/seekret/server/KeystoreException" "status" "I" (.int 0) ∧ Fld Z h a1 "java/lang/Throwable" "detailMessage" "Ljava/lang/String;" (.ref a2)
theorem pn_62233765 : plainName "java/lang/Throwable" = true := by first | (simp [plainName, overriddenIn]; done) | decide +kernel
theorem d2_0 : decode jdk_78_method_2_code 0 = .ok (.aload_n 0, 1) := by decide +kernel
theorem d2_1 : decode jdk_78_method_2_code 1 = .ok (.invokespecial 1, 3) := by decide +kernel
theorem d2_4 : decode jdk_78_method_2_code 4 = .ok (.aload_n 0, 1) := by decide +kernel
theorem d2_5 : decode jdk_78_method_2_code 5 = .ok (.aload_n 0, 1) := by decide +kernel
theorem d2_6 : decode jdk_78_method_2_code 6 = .ok (.putfield 7, 3) := by decide +kernel
theorem d2_9 : decode jdk_78_method_2_code 9 = .ok (.aload_n 0, 1) := by decide +kernel
theorem d2_10 : decode jdk_78_method_2_code 10 = .ok (.getstatic 13, 3) := by decide +kernel
theorem d2_13 : decode jdk_78_method_2_code 13 = .ok (.putfield 17, 3) := by decide +kernel
theorem d2_16 : decode jdk_78_method_2_code 16 = .ok (.aload_n 0, 1) := by decide +kernel
theorem d2_17 : decode jdk_78_method_2_code 17 = .ok (.getstatic 20, 3) := by decide +kernel
theorem d2_20 : decode jdk_78_method_2_code 20 = .ok (.putfield 24, 3) := by decide +kernel
theorem d2_23 : decode jdk_78_method_2_code 23 = .ok (.aload_n 0, 1) := by decide +kernel
theorem d2_24 : decode jdk_78_method_2_code 24 = .ok (.invokevirtual 27, 3) := by decide +kernel
theorem d2_27 : decode jdk_78_method_2_code 27 = .ok (.pop, 1) := by decide +kernel
theorem d2_28 : decode jdk_78_method_2_code 28 = .ok (.aload_n 0, 1) := by decide +kernel
theorem d2_29 : decode jdk_78_method_2_code 29 = .ok (.aload_n 1, 1) := by decide +kernel
theorem d2_30 : decode jdk_78_method_2_code 30 = .ok (.putfield 31, 3) := by decide +kernel
theorem d2_33 : decode jdk_78_method_2_code 33 = .ok (.return_, 1) := by decide +kernel
set_option maxRecDepth 65536 in
set_option maxHeartbeats 40000000 in
theorem rm_tini (l : Launch) (Z : State) (a0 : Array Value) (hw : ∀ d ∈ tables_1, d.before a0 Z = true) (ws : List Jvm.Cond) (wG1 : Int32) (wO2 : Sta Z Z.heap "java/lang/String" "COMPACT_STRINGS" "Z" (.int wG1)) (wP5 : ¬ (wG1 = (0 : Int32))) (wG3 : Value) (wO4 : Sta Z Z.heap "jdk/internal/util/Preconditions" "SIOOBE_FORMATTER" "Ljava/util/function/BiFunction;" wG3) (wrG3 : wG3.isRef = true) (hstr : ∀ a ∈ Bundle.stringAtoms, a.before a0 Z = true) (hl : l.stackTraces = true) (wG7 : Addr) (wO7 : Sta Z Z.heap "java/lang/Throwable" "UNASSIGNED_STACK" "[Ljava/lang/StackTraceElement;" (.ref wG7)) (wG8 : Addr) (wO8 : Sta Z Z.heap "java/lang/Throwable" "SUPPRESSED_SENTINEL" "Ljava/util/List;" (.ref wG8)) (hEL : EW Z a0 consts_1) (h0 : Heap) (n0 : Nat) (X00 : Old Z n0 h0) (a1 : Addr) (a2 : Addr) (f0 : Exa Z h0 a1 "com/example/seekret/seekret/server/KeystoreException") (f1 : Unt h0 a1) (f2 : Fld Z h0 a1 "java/lang/Throwable" "backtrace" "Ljava/lang/Object;" .null) (f3 : Fld Z h0 a1 "java/lang/Throwable" "detailMessage" "Ljava/lang/String;" .null) (f4 : Fld Z h0 a1 "java/lang/Throwable" "cause" "Ljava/lang/Throwable;" .null) (f5 : Fld Z h0 a1 "java/lang/Throwable" "stackTrace" "[Ljava/lang/StackTraceElement;" .null) (f6 : Fld Z h0 a1 "java/lang/Throwable" "suppressedExceptions" "Ljava/util/List;" .null) (f7 : Fld Z h0 a1 "com/example/seekret/seekret/server/KeystoreException" "status" "I" (.int 0)) (f8 : n0 ≤ a1) :
    MetFree l mN2 (head1 (Jvm.Cond.code mN2 jdk_78_method_2_code 2 none :: ws) (oR 3 1 2752 42)) (fun a U => a = #[(.ref a1), (.ref a2)] ∧ Z.Warmed39 U.vm ∧ U.heap = h0) (fun _ _ bl s _ => s.vm.MethodsKnown ∧ s.vm.FramesKnown bl) (fun _ U o U' => ∃ v L, o = .returned v ∧ Q_tini Z a1 a2 h0 n0 v U'.heap L ∧ FrameEnd U o U' L (oR 3 1 2752 42).cells (oR 3 1 2752 42).slots) := by
  refine MetFree.of_bodySF (plainFor_of_name pn_62233765) hisR ?_
  intro p e s m args below meth c s₁ Bd hml0 hP hK
  obtain ⟨rfl, hZ, hh⟩ := hP
  have hx := Bd.exec
  have hby := Bd.bytes
  have hlk := Bd.notSynchronized
  have hml : c.maxLocals = 2 := hml0
  have hown : s.vm.findClass "java/lang/Throwable" = some m.cls := findClass_of_methodNamed Bd.named
  have hnm := (name_of_methodNamed Bd.named Bd.method).1
  have X0 : Stand p l e (oR 3 1 2752 42) s m #[(.ref a1), (.ref a2)] below meth c s₁ [] 0 0 := Stand.of_body Bd
  have e0 : s₁.heap = h0 := by rw [← hh, Bd.state]; rfl
  have N0 := Fr.nil n0
  have Z0 : n0 ≤ h0.size := X00.1 ▸ X00.2.1
  have K0 : Keep h0 h0 ([a1] : List Addr) := Keep.refl _ _
  show OwnGoes p e below _ s₁ (entryFrame m _ _)
  refine og s₁ m 0 #[vR a1, vR a2] [] (fun tgt kgo => castTop (ef_tini m a1 a2) kgo) ?_
  refine og s₁ m 1 #[vR a1, vR a2] [(.ref a1)] (fun tgt kgo => ?_) ?_
  · refine XS.aloadN X0.here hx rfl (hb hby d2_0) rfl rfl ?_
    exact kgo
  obtain ⟨T1, X1, e1, st1⟩ := initO X0 hx hZ hown (own_w hw 42 rfl) (own_w hw 12 rfl) (own_w hw 13 rfl) e0 (g := (mkF m 1 #[vR a1, vR a2] [(.ref a1)])) rfl (by rw [hml]; rfl) rfl (hb hby d2_1) (by decide) (W := 0) (Nat.le_of_eq rfl) (by decide)
  refine og T1 m 4 #[vR a1, vR a2] [] st1 ?_
  refine og T1 m 6 #[vR a1, vR a2] [(.ref a1), (.ref a1)] (fun tgt kgo => ?_) ?_
  · refine XS.aloadN X1.here hx rfl (hb hby d2_4) rfl rfl ?_
    show OwnG p e below T1 m 5 #[vR a1, vR a2] [(.ref a1)] tgt
    refine XS.aloadN X1.here hx rfl (hb hby d2_5) rfl rfl ?_
    exact kgo
  obtain ⟨T2, h2, X2, e2, W2, st2⟩ := putF X1 hx hZ hown (host := "") (Or.inl (own_w hw 43 rfl)) Via.refl e1 f4 f0 (Or.inl (own_w hw 44 rfl)) (own_w hw 27 rfl) (ty := (.object "java/lang/Throwable")) (by decide) rfl rfl (g := (mkF m 6 #[vR a1, vR a2] [(.ref a1), (.ref a1)])) rfl rfl (hb hby d2_6)
  refine og T2 m 9 #[vR a1, vR a2] [] st2 ?_
  have Fw2 := f4.same W2
  have F2_1 := f0.wr W2
  have F2_2 := f1.wr W2
  have F2_3 := f2.other W2 (Or.inr (slot_ne (Or.inl (own_w hw 75 rfl)) (Or.inl (own_w hw 44 rfl)) (by decide) (t := (.object "java/lang/Object")) (t' := (.object "java/lang/Throwable")) (by decide) (by decide)))
  have F2_4 := f3.other W2 (Or.inr (slot_ne (Or.inl (own_w hw 74 rfl)) (Or.inl (own_w hw 44 rfl)) (by decide) (t := (.object "java/lang/String")) (t' := (.object "java/lang/Throwable")) (by decide) (by decide)))
  have F2_5 := f5.other W2 (Or.inr (slot_ne (Or.inl (own_w hw 47 rfl)) (Or.inl (own_w hw 44 rfl)) (by decide) (t := (.array (.object "java/lang/StackTraceElement"))) (t' := (.object "java/lang/Throwable")) (by decide) (by decide)))
  have F2_6 := f6.other W2 (Or.inr (slot_ne (Or.inl (own_w hw 50 rfl)) (Or.inl (own_w hw 44 rfl)) (by decide) (t := (.object "java/util/List")) (t' := (.object "java/lang/Throwable")) (by decide) (by decide)))
  have F2_7 := f7.other W2 (Or.inr (slot_ne (Or.inr (own_w hw 80 rfl)) (Or.inl (own_w hw 44 rfl)) (by decide) (t := .int) (t' := (.object "java/lang/Throwable")) (by decide) (by decide)))
  have Ol2 := X00.wr W2 f8
  have K2 : Keep h0 h2 ([a1] : List Addr) := K0.wr W2 (Or.inl (List.mem_of_getElem? (i := 0) rfl))
  have N2 := Fr.snoc X2 N0 f8
  refine og T2 m 10 #[vR a1, vR a2] [(.ref a1)] (fun tgt kgo => ?_) ?_
  · refine XS.aloadN X2.here hx rfl (hb hby d2_9) rfl rfl ?_
    exact kgo
  obtain ⟨T3, X3, e3, st3⟩ := getS2 X2 hx hZ hown (host := "") (Or.inl (own_w hw 45 rfl)) Via.refl e2 (wO7.ext Ol2.2) (g := (mkF m 10 #[vR a1, vR a2] [(.ref a1)])) rfl (hb hby d2_10)
  refine og T3 m 13 #[vR a1, vR a2] [(.ref wG7), (.ref a1)] st3 ?_
  obtain ⟨T4, h4, X4, e4, W4, st4⟩ := putF X3 hx hZ hown (host := "") (Or.inl (own_w hw 46 rfl)) Via.refl e3 F2_5 F2_1 (Or.inl (own_w hw 47 rfl)) (own_w hw 27 rfl) (ty := (.array (.object "java/lang/StackTraceElement"))) (by decide) rfl rfl (g := (mkF m 13 #[vR a1, vR a2] [(.ref wG7), (.ref a1)])) rfl rfl (hb hby d2_13)
  refine og T4 m 16 #[vR a1, vR a2] [] st4 ?_
  have Fw4 := F2_5.same W4
  have F4_8 := F2_1.wr W4
  have F4_9 := F2_2.wr W4
  have F4_10 := F2_3.other W4 (Or.inr (slot_ne (Or.inl (own_w hw 75 rfl)) (Or.inl (own_w hw 47 rfl)) (by decide) (t := (.object "java/lang/Object")) (t' := (.array (.object "java/lang/StackTraceElement"))) (by decide) (by decide)))
  have F4_11 := F2_4.other W4 (Or.inr (slot_ne (Or.inl (own_w hw 74 rfl)) (Or.inl (own_w hw 47 rfl)) (by decide) (t := (.object "java/lang/String")) (t' := (.array (.object "java/lang/StackTraceElement"))) (by decide) (by decide)))
  have F4_12 := Fw2.other W4 (Or.inr (slot_ne (Or.inl (own_w hw 44 rfl)) (Or.inl (own_w hw 47 rfl)) (by decide) (t := (.object "java/lang/Throwable")) (t' := (.array (.object "java/lang/StackTraceElement"))) (by decide) (by decide)))
  have F4_13 := F2_6.other W4 (Or.inr (slot_ne (Or.inl (own_w hw 50 rfl)) (Or.inl (own_w hw 47 rfl)) (by decide) (t := (.object "java/util/List")) (t' := (.array (.object "java/lang/StackTraceElement"))) (by decide) (by decide)))
  have F4_14 := F2_7.other W4 (Or.inr (slot_ne (Or.inr (own_w hw 80 rfl)) (Or.inl (own_w hw 47 rfl)) (by decide) (t := .int) (t' := (.array (.object "java/lang/StackTraceElement"))) (by decide) (by decide)))
  have Ol4 := Ol2.wr W4 f8
  have K4 : Keep h0 h4 ([a1] : List Addr) := K2.wr W4 (Or.inl (List.mem_of_getElem? (i := 0) rfl))
  have N4 := Fr.snoc X4 N2 f8
  refine og T4 m 17 #[vR a1, vR a2] [(.ref a1)] (fun tgt kgo => ?_) ?_
  · refine XS.aloadN X4.here hx rfl (hb hby d2_16) rfl rfl ?_
    exact kgo
  obtain ⟨T5, X5, e5, st5⟩ := getS2 X4 hx hZ hown (host := "") (Or.inl (own_w hw 48 rfl)) Via.refl e4 (wO8.ext Ol4.2) (g := (mkF m 17 #[vR a1, vR a2] [(.ref a1)])) rfl (hb hby d2_17)
  refine og T5 m 20 #[vR a1, vR a2] [(.ref wG8), (.ref a1)] st5 ?_
  obtain ⟨T6, h6, X6, e6, W6, st6⟩ := putF X5 hx hZ hown (host := "") (Or.inl (own_w hw 49 rfl)) Via.refl e5 F4_13 F4_8 (Or.inl (own_w hw 50 rfl)) (own_w hw 27 rfl) (ty := (.object "java/util/List")) (by decide) rfl rfl (g := (mkF m 20 #[vR a1, vR a2] [(.ref wG8), (.ref a1)])) rfl rfl (hb hby d2_20)
  refine og T6 m 23 #[vR a1, vR a2] [] st6 ?_
  have Fw6 := F4_13.same W6
  have F6_15 := F4_8.wr W6
  have F6_16 := F4_9.wr W6
  have F6_17 := F4_10.other W6 (Or.inr (slot_ne (Or.inl (own_w hw 75 rfl)) (Or.inl (own_w hw 50 rfl)) (by decide) (t := (.object "java/lang/Object")) (t' := (.object "java/util/List")) (by decide) (by decide)))
  have F6_18 := F4_11.other W6 (Or.inr (slot_ne (Or.inl (own_w hw 74 rfl)) (Or.inl (own_w hw 50 rfl)) (by decide) (t := (.object "java/lang/String")) (t' := (.object "java/util/List")) (by decide) (by decide)))
  have F6_19 := F4_12.other W6 (Or.inr (slot_ne (Or.inl (own_w hw 44 rfl)) (Or.inl (own_w hw 50 rfl)) (by decide) (t := (.object "java/lang/Throwable")) (t' := (.object "java/util/List")) (by decide) (by decide)))
  have F6_20 := Fw4.other W6 (Or.inr (slot_ne (Or.inl (own_w hw 47 rfl)) (Or.inl (own_w hw 50 rfl)) (by decide) (t := (.array (.object "java/lang/StackTraceElement"))) (t' := (.object "java/util/List")) (by decide) (by decide)))
  have F6_21 := F4_14.other W6 (Or.inr (slot_ne (Or.inr (own_w hw 80 rfl)) (Or.inl (own_w hw 50 rfl)) (by decide) (t := .int) (t' := (.object "java/util/List")) (by decide) (by decide)))
  have Ol6 := Ol4.wr W6 f8
  have K6 : Keep h0 h6 ([a1] : List Addr) := K4.wr W6 (Or.inl (List.mem_of_getElem? (i := 0) rfl))
  have N6 := Fr.snoc X6 N4 f8
  refine og T6 m 24 #[vR a1, vR a2] [(.ref a1)] (fun tgt kgo => ?_) ?_
  · refine XS.aloadN X6.here hx rfl (hb hby d2_23) rfl rfl ?_
    exact kgo
  obtain ⟨T7, h7, Lf7, hLf7, X7, e7, Kq7, Un7, fk7, st7⟩ := own_fill X6 hx hl hZ hown hw (own_ths (hh ▸ X00)) hK.1 hK.2 e6 F6_15 F6_16 F6_17 F6_20 (wO7.ext Ol6.2) (g := (mkF m 24 #[vR a1, vR a2] [(.ref a1)])) rfl (by rw [hml]; rfl) (rest := []) rfl (by show 2 * 0 + 0 + 42 ≤ _; decide) (hb hby d2_24) (by decide) (by decide) (by decide)
  refine og T7 m 27 #[vR a1, vR a2] [(.ref a1)] st7 ?_
  have N7 := N6.app (L' := Lf7) (fun y hy => by rw [hLf7 y hy]; exact f8)
  have Fk7_detailMessage := fk7 _ _ _ (.object "java/lang/String") _ F6_18 (Or.inl (own_w hw 74 rfl)) (by decide) (by decide) (by decide) (by decide)
  have Fk7_status := fk7 _ _ _ .int _ F6_21 (Or.inr (own_w hw 80 rfl)) (by decide) (by decide) (by decide) (by decide)
  have F7_22 := F6_15.keep Kq7
  have Ol7 := Ol6.keep Kq7 (allS f8 all0)
  have K7 : Keep h0 h7 ([a1] : List Addr) := K6.trans Kq7 (allS (Or.inl (List.mem_of_getElem? (i := 0) rfl)) all0)
  refine og T7 m 30 #[vR a1, vR a2] [(.ref a2), (.ref a1)] (fun tgt kgo => ?_) ?_
  · refine XS.pop X7.here hx rfl (hb hby d2_27) rfl rfl ?_
    show OwnG p e below T7 m 28 #[vR a1, vR a2] [] tgt
    refine XS.aloadN X7.here hx rfl (hb hby d2_28) rfl rfl ?_
    show OwnG p e below T7 m 29 #[vR a1, vR a2] [(.ref a1)] tgt
    refine XS.aloadN X7.here hx rfl (hb hby d2_29) rfl rfl ?_
    exact kgo
  obtain ⟨T8, h8, X8, e8, W8, st8⟩ := putF X7 hx hZ hown (host := "") (Or.inl (own_w hw 78 rfl)) Via.refl e7 Fk7_detailMessage F7_22 (Or.inl (own_w hw 74 rfl)) (own_w hw 27 rfl) (ty := (.object "java/lang/String")) (by decide) rfl rfl (g := (mkF m 30 #[vR a1, vR a2] [(.ref a2), (.ref a1)])) rfl rfl (hb hby d2_30)
  refine og T8 m 33 #[vR a1, vR a2] [] st8 ?_
  have Fw8 := Fk7_detailMessage.same W8
  have F8_23 := F7_22.wr W8
  have F8_24 := Un7.wr W8
  have F8_25 := Fk7_status.other W8 (Or.inr (slot_ne (Or.inr (own_w hw 80 rfl)) (Or.inl (own_w hw 74 rfl)) (by decide) (t := .int) (t' := (.object "java/lang/String")) (by decide) (by decide)))
  have Ol8 := Ol7.wr W8 f8
  have K8 : Keep h0 h8 ([a1] : List Addr) := K7.wr W8 (Or.inl (List.mem_of_getElem? (i := 0) rfl))
  have N8 := Fr.snoc X8 N7 f8
  refine own_leave X8 hlk (v := none) (fun _ => rfl) (fun fs hr => X8.returnOut hx Bd.returns (hb hby d2_33) hr) (by decide) (by decide) ?_
  show Q_tini Z a1 a2 h0 n0 _ T8.heap _
  rw [e8]
  exact ⟨rfl, N8, K8, F8_23, F8_25, Fw8⟩
theorem ef_exini (m : MethodId) (x0 : Addr) (x1 : Addr) : entryFrame m #[(.ref x0), (.ref x1)] 2 = mkF m 0 #[vR x0, vR x1] [] := by
  first | (simp [entryFrame, mkF, argsToLocals, Value.category]; done) | rfl
def Q_exini (Z : State) (a1 : Addr) (a2 : Addr) (h0 : Heap) (n0 : Nat) (v : Option Value) (h : Heap) (L : List Loc) : Prop := v = none ∧ Fr n0 L ∧ Keep h0 h ([a1] : List Addr) ∧ Exa Z h a1 "com/example/seekret/seekret/server/KeystoreException" ∧ Fld Z h a1 "com/example/seekret/seekret/server/KeystoreException" "status" "I" (.int 0) ∧ Fld Z h a1 "java/lang/Throwable" "detailMessage" "Ljava/lang/String;" (.ref a2)
theorem pn_8882615 : plainName "java/lang/Exception" = true := by first | (simp [plainName, overriddenIn]; done) | decide +kernel
theorem d3_0 : decode jdk_59_method_2_code 0 = .ok (.aload_n 0, 1) := by decide +kernel
theorem d3_1 : decode jdk_59_method_2_code 1 = .ok (.aload_n 1, 1) := by decide +kernel
theorem d3_2 : decode jdk_59_method_2_code 2 = .ok (.invokespecial 7, 3) := by decide +kernel
theorem pd_48551140 : parseMethodDescriptor "(Ljava/lang/String;)V" = some ⟨[(.object "java/lang/String")], none⟩ := by decide +kernel
theorem d3_5 : decode jdk_59_method_2_code 5 = .ok (.return_, 1) := by decide +kernel
set_option maxRecDepth 65536 in
set_option maxHeartbeats 40000000 in
theorem rm_exini (l : Launch) (Z : State) (a0 : Array Value) (hw : ∀ d ∈ tables_1, d.before a0 Z = true) (ws : List Jvm.Cond) (wG1 : Int32) (wO2 : Sta Z Z.heap "java/lang/String" "COMPACT_STRINGS" "Z" (.int wG1)) (wP5 : ¬ (wG1 = (0 : Int32))) (wG3 : Value) (wO4 : Sta Z Z.heap "jdk/internal/util/Preconditions" "SIOOBE_FORMATTER" "Ljava/util/function/BiFunction;" wG3) (wrG3 : wG3.isRef = true) (hstr : ∀ a ∈ Bundle.stringAtoms, a.before a0 Z = true) (hl : l.stackTraces = true) (wG7 : Addr) (wO7 : Sta Z Z.heap "java/lang/Throwable" "UNASSIGNED_STACK" "[Ljava/lang/StackTraceElement;" (.ref wG7)) (wG8 : Addr) (wO8 : Sta Z Z.heap "java/lang/Throwable" "SUPPRESSED_SENTINEL" "Ljava/util/List;" (.ref wG8)) (hEL : EW Z a0 consts_1) (h0 : Heap) (n0 : Nat) (X00 : Old Z n0 h0) (a1 : Addr) (a2 : Addr) (f0 : Exa Z h0 a1 "com/example/seekret/seekret/server/KeystoreException") (f1 : Unt h0 a1) (f2 : Fld Z h0 a1 "java/lang/Throwable" "backtrace" "Ljava/lang/Object;" .null) (f3 : Fld Z h0 a1 "java/lang/Throwable" "detailMessage" "Ljava/lang/String;" .null) (f4 : Fld Z h0 a1 "java/lang/Throwable" "cause" "Ljava/lang/Throwable;" .null) (f5 : Fld Z h0 a1 "java/lang/Throwable" "stackTrace" "[Ljava/lang/StackTraceElement;" .null) (f6 : Fld Z h0 a1 "java/lang/Throwable" "suppressedExceptions" "Ljava/util/List;" .null) (f7 : Fld Z h0 a1 "com/example/seekret/seekret/server/KeystoreException" "status" "I" (.int 0)) (f8 : n0 ≤ a1) :
    MetFree l mN3 (head1 (Jvm.Cond.code mN3 jdk_59_method_2_code 2 none :: ws) (oR 4 1 2752 55)) (fun a U => a = #[(.ref a1), (.ref a2)] ∧ Z.Warmed39 U.vm ∧ U.heap = h0) (fun _ _ bl s _ => s.vm.MethodsKnown ∧ s.vm.FramesKnown bl) (fun _ U o U' => ∃ v L, o = .returned v ∧ Q_exini Z a1 a2 h0 n0 v U'.heap L ∧ FrameEnd U o U' L (oR 4 1 2752 55).cells (oR 4 1 2752 55).slots) := by
  refine MetFree.of_bodySF (plainFor_of_name pn_8882615) hisR ?_
  intro p e s m args below meth c s₁ Bd hml0 hP hK
  obtain ⟨rfl, hZ, hh⟩ := hP
  have hx := Bd.exec
  have hby := Bd.bytes
  have hlk := Bd.notSynchronized
  have hml : c.maxLocals = 2 := hml0
  have hown : s.vm.findClass "java/lang/Exception" = some m.cls := findClass_of_methodNamed Bd.named
  have hnm := (name_of_methodNamed Bd.named Bd.method).1
  have X0 : Stand p l e (oR 4 1 2752 55) s m #[(.ref a1), (.ref a2)] below meth c s₁ [] 0 0 := Stand.of_body Bd
  have e0 : s₁.heap = h0 := by rw [← hh, Bd.state]; rfl
  have N0 := Fr.nil n0
  have Z0 : n0 ≤ h0.size := X00.1 ▸ X00.2.1
  have K0 : Keep h0 h0 ([a1] : List Addr) := Keep.refl _ _
  show OwnGoes p e below _ s₁ (entryFrame m _ _)
  refine og s₁ m 0 #[vR a1, vR a2] [] (fun tgt kgo => castTop (ef_exini m a1 a2) kgo) ?_
  refine og s₁ m 2 #[vR a1, vR a2] [(.ref a2), (.ref a1)] (fun tgt kgo => ?_) ?_
  · refine XS.aloadN X0.here hx rfl (hb hby d3_0) rfl rfl ?_
    show OwnG p e below s₁ m 1 #[vR a1, vR a2] [(.ref a1)] tgt
    refine XS.aloadN X0.here hx rfl (hb hby d3_1) rfl rfl ?_
    exact kgo
  obtain ⟨_, _, ⟨T1, L1, k1, n1⟩, -, X1, ⟨Lc1, hQ1, l1, y1, z1⟩, st1⟩ := X0.specialBack hx (y := mN2) rfl hown (mvT hZ (own_w hw 36 rfl)) (mvT hZ (own_w hw 37 rfl)) (mvT hZ (own_w hw 41 rfl)) (by decide) (backOfKL (W := 0) (rm_tini l Z a0 hw [] wG1 wO2 wP5 wG3 wO4 wrG3 hstr hl wG7 wO7 wG8 wO8 hEL h0 n0 X00 a1 a2 f0 f1 f2 f3 f4 f5 f6 f7 f8) hZ (own_w hw 41 rfl) (own_w hw 40 rfl) (by decide) (by decide) hK.1 hK.2) (g := (mkF m 2 #[vR a1, vR a2] [(.ref a2), (.ref a1)])) rfl (by rw [hml]; rfl) (Steps.refl _) (a := a1) (argsL := [(.ref a2)]) (rest := []) (lenOf pd_48551140 rfl) rfl (Nat.le_of_eq rfl) (hb hby d3_2) (fun _ _ => ⟨rfl, e0, (by decide : 0 + 1 ≤ _), (by decide : 0 + 2752 ≤ _)⟩)
  dsimp only [Pt.U, Pt.locs, Pt.cells, Pt.slots] at X1 l1 y1 z1 st1 hQ1
  subst l1 y1 z1
  obtain ⟨rfl, Nq1, Kq1, fq1_0, fq1_1, fq1_2⟩ := hQ1
  refine OwnGoes.tr (T' := T1) (g' := (mkF m 5 #[vR a1, vR a2] [])) st1 ?_
  have N1 := Fr.app N0 Nq1
  have F1_1 := f0.keep Kq1
  have Ol1 := X00.keep Kq1 (allS f8 all0)
  have K1 : Keep h0 T1.heap ([a1] : List Addr) := K0.trans Kq1 (allS (Or.inl (List.mem_of_getElem? (i := 0) rfl)) all0)
  refine own_leave X1 hlk (v := none) (fun _ => rfl) (fun fs hr => X1.returnOut hx Bd.returns (hb hby d3_5) hr) (by decide) (by decide) ?_
  show Q_exini Z a1 a2 h0 n0 _ T1.heap _
  exact ⟨rfl, N1, K1, fq1_0, fq1_1, fq1_2⟩
theorem ef_kini (m : MethodId) (x0 : Addr) (x1 : Int32) (x2 : Addr) : entryFrame m #[(.ref x0), (.int x1), (.ref x2)] 3 = mkF m 0 #[vR x0, vI x1, vR x2] [] := by
  first | (simp [entryFrame, mkF, argsToLocals, Value.category]; done) | rfl
def Q_kini (Z : State) (a1 : Addr) (p1 : Int32) (a2 : Addr) (h0 : Heap) (n0 : Nat) (v : Option Value) (h : Heap) (L : List Loc) : Prop := v = none ∧ Fr n0 L ∧ Keep h0 h ([a1] : List Addr) ∧ Exa Z h a1 "com/example/seekret/seekret/server/KeystoreException" ∧ Fld Z h a1 "com/example/seekret/seekret/server/KeystoreException" "status" "I" (.int p1) ∧ Fld Z h a1 "java/lang/Throwable" "detailMessage" "Ljava/lang/String;" (.ref a2)
theorem pn_37824888 : plainName "com/example/seekret/seekret/server/KeystoreException" = true := by first | (simp [plainName, overriddenIn]; done) | decide +kernel
theorem d4_0 : decode prog_26_method_1_code 0 = .ok (.aload_n 0, 1) := by decide +kernel
theorem d4_1 : decode prog_26_method_1_code 1 = .ok (.aload_n 2, 1) := by decide +kernel
theorem d4_2 : decode prog_26_method_1_code 2 = .ok (.invokespecial 1, 3) := by decide +kernel
theorem d4_5 : decode prog_26_method_1_code 5 = .ok (.aload_n 0, 1) := by decide +kernel
theorem d4_6 : decode prog_26_method_1_code 6 = .ok (.iload_n 1, 1) := by decide +kernel
theorem d4_7 : decode prog_26_method_1_code 7 = .ok (.putfield 7, 3) := by decide +kernel
theorem d4_10 : decode prog_26_method_1_code 10 = .ok (.return_, 1) := by decide +kernel
set_option maxRecDepth 65536 in
set_option maxHeartbeats 40000000 in
theorem rm_kini (l : Launch) (Z : State) (a0 : Array Value) (hw : ∀ d ∈ tables_1, d.before a0 Z = true) (ws : List Jvm.Cond) (wG1 : Int32) (wO2 : Sta Z Z.heap "java/lang/String" "COMPACT_STRINGS" "Z" (.int wG1)) (wP5 : ¬ (wG1 = (0 : Int32))) (wG3 : Value) (wO4 : Sta Z Z.heap "jdk/internal/util/Preconditions" "SIOOBE_FORMATTER" "Ljava/util/function/BiFunction;" wG3) (wrG3 : wG3.isRef = true) (hstr : ∀ a ∈ Bundle.stringAtoms, a.before a0 Z = true) (hl : l.stackTraces = true) (wG7 : Addr) (wO7 : Sta Z Z.heap "java/lang/Throwable" "UNASSIGNED_STACK" "[Ljava/lang/StackTraceElement;" (.ref wG7)) (wG8 : Addr) (wO8 : Sta Z Z.heap "java/lang/Throwable" "SUPPRESSED_SENTINEL" "Ljava/util/List;" (.ref wG8)) (hEL : EW Z a0 consts_1) (h0 : Heap) (n0 : Nat) (X00 : Old Z n0 h0) (a1 : Addr) (p1 : Int32) (a2 : Addr) (f0 : Exa Z h0 a1 "com/example/seekret/seekret/server/KeystoreException") (f1 : Unt h0 a1) (f2 : Fld Z h0 a1 "java/lang/Throwable" "backtrace" "Ljava/lang/Object;" .null) (f3 : Fld Z h0 a1 "java/lang/Throwable" "detailMessage" "Ljava/lang/String;" .null) (f4 : Fld Z h0 a1 "java/lang/Throwable" "cause" "Ljava/lang/Throwable;" .null) (f5 : Fld Z h0 a1 "java/lang/Throwable" "stackTrace" "[Ljava/lang/StackTraceElement;" .null) (f6 : Fld Z h0 a1 "java/lang/Throwable" "suppressedExceptions" "Ljava/util/List;" .null) (f7 : Fld Z h0 a1 "com/example/seekret/seekret/server/KeystoreException" "status" "I" (.int 0)) (f8 : n0 ≤ a1) :
    MetFree l mN4 (head1 (Jvm.Cond.code mN4 prog_26_method_1_code 3 none :: ws) (oR 5 1 2752 68)) (fun a U => a = #[(.ref a1), (.int p1), (.ref a2)] ∧ Z.Warmed39 U.vm ∧ U.heap = h0) (fun _ _ bl s _ => s.vm.MethodsKnown ∧ s.vm.FramesKnown bl) (fun _ U o U' => ∃ v L, o = .returned v ∧ Q_kini Z a1 p1 a2 h0 n0 v U'.heap L ∧ FrameEnd U o U' L (oR 5 1 2752 68).cells (oR 5 1 2752 68).slots) := by
  refine MetFree.of_bodySF (plainFor_of_name pn_37824888) hisR ?_
  intro p e s m args below meth c s₁ Bd hml0 hP hK
  obtain ⟨rfl, hZ, hh⟩ := hP
  have hx := Bd.exec
  have hby := Bd.bytes
  have hlk := Bd.notSynchronized
  have hml : c.maxLocals = 3 := hml0
  have hown : s.vm.findClass "com/example/seekret/seekret/server/KeystoreException" = some m.cls := findClass_of_methodNamed Bd.named
  have hnm := (name_of_methodNamed Bd.named Bd.method).1
  have X0 : Stand p l e (oR 5 1 2752 68) s m #[(.ref a1), (.int p1), (.ref a2)] below meth c s₁ [] 0 0 := Stand.of_body Bd
  have e0 : s₁.heap = h0 := by rw [← hh, Bd.state]; rfl
  have N0 := Fr.nil n0
  have Z0 : n0 ≤ h0.size := X00.1 ▸ X00.2.1
  have K0 : Keep h0 h0 ([a1] : List Addr) := Keep.refl _ _
  show OwnGoes p e below _ s₁ (entryFrame m _ _)
  refine og s₁ m 0 #[vR a1, vI p1, vR a2] [] (fun tgt kgo => castTop (ef_kini m a1 p1 a2) kgo) ?_
  refine og s₁ m 2 #[vR a1, vI p1, vR a2] [(.ref a2), (.ref a1)] (fun tgt kgo => ?_) ?_
  · refine XS.aloadN X0.here hx rfl (hb hby d4_0) rfl rfl ?_
    show OwnG p e below s₁ m 1 #[vR a1, vI p1, vR a2] [(.ref a1)] tgt
    refine XS.aloadN X0.here hx rfl (hb hby d4_1) rfl rfl ?_
    exact kgo
  obtain ⟨_, _, ⟨T1, L1, k1, n1⟩, -, X1, ⟨Lc1, hQ1, l1, y1, z1⟩, st1⟩ := X0.specialBack hx (y := mN3) rfl hown (mvT hZ (own_w hw 31 rfl)) (mvT hZ (own_w hw 32 rfl)) (mvT hZ (own_w hw 35 rfl)) (by decide) (backOfKL (W := 0) (rm_exini l Z a0 hw [] wG1 wO2 wP5 wG3 wO4 wrG3 hstr hl wG7 wO7 wG8 wO8 hEL h0 n0 X00 a1 a2 f0 f1 f2 f3 f4 f5 f6 f7 f8) hZ (own_w hw 35 rfl) (own_w hw 34 rfl) (by decide) (by decide) hK.1 hK.2) (g := (mkF m 2 #[vR a1, vI p1, vR a2] [(.ref a2), (.ref a1)])) rfl (by rw [hml]; rfl) (Steps.refl _) (a := a1) (argsL := [(.ref a2)]) (rest := []) (lenOf pd_48551140 rfl) rfl (Nat.le_of_eq rfl) (hb hby d4_2) (fun _ _ => ⟨rfl, e0, (by decide : 0 + 1 ≤ _), (by decide : 0 + 2752 ≤ _)⟩)
  dsimp only [Pt.U, Pt.locs, Pt.cells, Pt.slots] at X1 l1 y1 z1 st1 hQ1
  subst l1 y1 z1
  obtain ⟨rfl, Nq1, Kq1, fq1_0, fq1_1, fq1_2⟩ := hQ1
  refine OwnGoes.tr (T' := T1) (g' := (mkF m 5 #[vR a1, vI p1, vR a2] [])) st1 ?_
  have N1 := Fr.app N0 Nq1
  have F1_1 := f0.keep Kq1
  have Ol1 := X00.keep Kq1 (allS f8 all0)
  have K1 : Keep h0 T1.heap ([a1] : List Addr) := K0.trans Kq1 (allS (Or.inl (List.mem_of_getElem? (i := 0) rfl)) all0)
  refine og T1 m 7 #[vR a1, vI p1, vR a2] [(.int p1), (.ref a1)] (fun tgt kgo => ?_) ?_
  · refine XS.aloadN X1.here hx rfl (hb hby d4_5) rfl rfl ?_
    show OwnG p e below T1 m 6 #[vR a1, vI p1, vR a2] [(.ref a1)] tgt
    refine XS.iloadN X1.here hx rfl (hb hby d4_6) rfl ?_
    exact kgo
  obtain ⟨T2, h2, X2, e2, W2, st2⟩ := putF X1 hx hZ hown (host := "") (Or.inl (own_w hw 79 rfl)) Via.refl rfl fq1_1 fq1_0 (Or.inr ⟨(own_w hw 80 rfl), rfl, hnm⟩) (own_w hw 27 rfl) (ty := .int) (by decide) rfl rfl (g := (mkF m 7 #[vR a1, vI p1, vR a2] [(.int p1), (.ref a1)])) rfl rfl (hb hby d4_7)
  refine og T2 m 10 #[vR a1, vI p1, vR a2] [] st2 ?_
  have Fw2 := fq1_1.same W2
  have F2_2 := fq1_0.wr W2
  have F2_3 := fq1_2.other W2 (Or.inr (slot_ne (Or.inl (own_w hw 74 rfl)) (Or.inr (own_w hw 80 rfl)) (by decide) (t := (.object "java/lang/String")) (t' := .int) (by decide) (by decide)))
  have Ol2 := Ol1.wr W2 f8
  have K2 : Keep h0 h2 ([a1] : List Addr) := K1.wr W2 (Or.inl (List.mem_of_getElem? (i := 0) rfl))
  have N2 := Fr.snoc X2 N1 f8
  refine own_leave X2 hlk (v := none) (fun _ => rfl) (fun fs hr => X2.returnOut hx Bd.returns (hb hby d4_10) hr) (by decide) (by decide) ?_
  show Q_kini Z a1 p1 a2 h0 n0 _ T2.heap _
  rw [e2]
  exact ⟨rfl, N2, K2, F2_2, Fw2, F2_3⟩
theorem ef_refused (m : MethodId) (x0 : Addr) : entryFrame m #[(.ref x0)] 1 = mkF m 0 #[vR x0] [] := by
  first | (simp [entryFrame, mkF, argsToLocals, Value.category]; done) | rfl
def Q_refused (Z : State) (a2 : Addr) (h0 : Heap) (n0 : Nat) (v : Option Value) (h : Heap) (L : List Loc) : Prop := ∃ (x : Addr), v = some (.ref x) ∧ Fr n0 L ∧ Keep h0 h ([] : List Addr) ∧ h0.size ≤ x ∧ Exa Z h x "com/example/seekret/seekret/server/KeystoreException" ∧ Fld Z h x "com/example/seekret/seekret/server/KeystoreException" "status" "I" (.int 401) ∧ Fld Z h x "java/lang/Throwable" "detailMessage" "Ljava/lang/String;" (.ref a2)
theorem d5_0 : decode prog_26_method_3_code 0 = .ok (.new 8, 3) := by decide +kernel
theorem d5_3 : decode prog_26_method_3_code 3 = .ok (.dup, 1) := by decide +kernel
theorem d5_4 : decode prog_26_method_3_code 4 = .ok (.sipush 401, 3) := by decide +kernel
theorem d5_7 : decode prog_26_method_3_code 7 = .ok (.aload_n 0, 1) := by decide +kernel
theorem d5_8 : decode prog_26_method_3_code 8 = .ok (.invokespecial 15, 3) := by decide +kernel
theorem pd_78914811 : parseMethodDescriptor "(ILjava/lang/String;)V" = some ⟨[.int, (.object "java/lang/String")], none⟩ := by decide +kernel
theorem d5_11 : decode prog_26_method_3_code 11 = .ok (.areturn, 1) := by decide +kernel
set_option maxRecDepth 65536 in
set_option maxHeartbeats 40000000 in
theorem rm_refused (l : Launch) (Z : State) (a0 : Array Value) (hw : ∀ d ∈ tables_1, d.before a0 Z = true) (ws : List Jvm.Cond) (wG1 : Int32) (wO2 : Sta Z Z.heap "java/lang/String" "COMPACT_STRINGS" "Z" (.int wG1)) (wP5 : ¬ (wG1 = (0 : Int32))) (wG3 : Value) (wO4 : Sta Z Z.heap "jdk/internal/util/Preconditions" "SIOOBE_FORMATTER" "Ljava/util/function/BiFunction;" wG3) (wrG3 : wG3.isRef = true) (hstr : ∀ a ∈ Bundle.stringAtoms, a.before a0 Z = true) (hl : l.stackTraces = true) (wG7 : Addr) (wO7 : Sta Z Z.heap "java/lang/Throwable" "UNASSIGNED_STACK" "[Ljava/lang/StackTraceElement;" (.ref wG7)) (wG8 : Addr) (wO8 : Sta Z Z.heap "java/lang/Throwable" "SUPPRESSED_SENTINEL" "Ljava/util/List;" (.ref wG8)) (hEL : EW Z a0 consts_1) (h0 : Heap) (n0 : Nat) (X00 : Old Z n0 h0) (a2 : Addr) :
    MetFree l mN5 (head1 (Jvm.Cond.code mN5 prog_26_method_3_code 1 (some (.object "com/example/seekret/seekret/server/KeystoreException")) :: ws) (oR 6 2 2759 83)) (fun a U => a = #[(.ref a2)] ∧ Z.Warmed39 U.vm ∧ U.heap = h0) (fun _ _ bl s _ => s.vm.MethodsKnown ∧ s.vm.FramesKnown bl) (fun _ U o U' => ∃ v L, o = .returned v ∧ Q_refused Z a2 h0 n0 v U'.heap L ∧ FrameEnd U o U' L (oR 6 2 2759 83).cells (oR 6 2 2759 83).slots) := by
  refine MetFree.of_bodySF (plainFor_of_name pn_37824888) hisR ?_
  intro p e s m args below meth c s₁ Bd hml0 hP hK
  obtain ⟨rfl, hZ, hh⟩ := hP
  have hx := Bd.exec
  have hby := Bd.bytes
  have hlk := Bd.notSynchronized
  have hml : c.maxLocals = 1 := hml0
  have hown : s.vm.findClass "com/example/seekret/seekret/server/KeystoreException" = some m.cls := findClass_of_methodNamed Bd.named
  have hnm := (name_of_methodNamed Bd.named Bd.method).1
  have X0 : Stand p l e (oR 6 2 2759 83) s m #[(.ref a2)] below meth c s₁ [] 0 0 := Stand.of_body Bd
  have e0 : s₁.heap = h0 := by rw [← hh, Bd.state]; rfl
  have N0 := Fr.nil n0
  have Z0 : n0 ≤ h0.size := X00.1 ▸ X00.2.1
  have K0 : Keep h0 h0 ([] : List Addr) := Keep.refl _ _
  show OwnGoes p e below _ s₁ (entryFrame m _ _)
  refine og s₁ m 0 #[vR a2] [] (fun tgt kgo => castTop (ef_refused m a2) kgo) ?_
  obtain ⟨T1, h1, X1, e1, E1, A1, D1, U1, st1⟩ := newO X0 hx hZ hown (own_w hw 26 rfl) (own_w hw 27 rfl) (own_w hw 24 rfl) e0 (g := (mkF m 0 #[vR a2] [])) rfl (hb hby d5_0) (by decide) (by decide)
  obtain ⟨b1, g1⟩ : ∃ z, z = h0.size := ⟨_, rfl⟩
  rw [← g1] at A1 D1 U1 st1
  refine og T1 m 3 #[vR a2] [(.ref b1)] st1 ?_
  have g_b1 : n0 ≤ b1 := Nat.le_trans (Nat.le_trans Z0 K0.1) (Nat.le_of_eq g1.symm)
  have s_b1 : h0.size ≤ b1 := Nat.le_trans K0.1 (Nat.le_of_eq g1.symm)
  have Ol1 := X00.ext E1
  have K1 : Keep h0 h1 ([] : List Addr) := K0.ext E1
  have F1_1 : Fld Z h1 b1 "java/lang/Throwable" "cause" "Ljava/lang/Throwable;" .null := D1 (Or.inl (own_w hw 44 rfl)) (ty := (.object "java/lang/Throwable")) (by decide)
  have F1_2 : Fld Z h1 b1 "java/lang/Throwable" "stackTrace" "[Ljava/lang/StackTraceElement;" .null := D1 (Or.inl (own_w hw 47 rfl)) (ty := (.array (.object "java/lang/StackTraceElement"))) (by decide)
  have F1_3 : Fld Z h1 b1 "java/lang/Throwable" "suppressedExceptions" "Ljava/util/List;" .null := D1 (Or.inl (own_w hw 50 rfl)) (ty := (.object "java/util/List")) (by decide)
  have F1_4 : Fld Z h1 b1 "java/lang/Throwable" "detailMessage" "Ljava/lang/String;" .null := D1 (Or.inl (own_w hw 74 rfl)) (ty := (.object "java/lang/String")) (by decide)
  have F1_5 : Fld Z h1 b1 "java/lang/Throwable" "backtrace" "Ljava/lang/Object;" .null := D1 (Or.inl (own_w hw 75 rfl)) (ty := (.object "java/lang/Object")) (by decide)
  have F1_6 : Fld Z h1 b1 "java/lang/Throwable" "depth" "I" (.int 0) := D1 (Or.inl (own_w hw 76 rfl)) (ty := .int) (by decide)
  have F1_7 : Fld Z h1 b1 "com/example/seekret/seekret/server/KeystoreException" "status" "I" (.int 0) := D1 (Or.inr (own_w hw 80 rfl)) (ty := .int) (by decide)
  refine og T1 m 8 #[vR a2] [(.ref a2), (.int 401), (.ref b1), (.ref b1)] (fun tgt kgo => ?_) ?_
  · refine XS.dup X1.here hx rfl (hb hby d5_3) rfl rfl ?_
    show OwnG p e below T1 m 4 #[vR a2] [(.ref b1), (.ref b1)] tgt
    refine XS.sipush X1.here hx rfl (hb hby d5_4) ?_
    show OwnG p e below T1 m 7 #[vR a2] [(.int 401), (.ref b1), (.ref b1)] tgt
    refine XS.aloadN X1.here hx rfl (hb hby d5_7) rfl rfl ?_
    exact kgo
  obtain ⟨_, _, ⟨T2, L2, k2, n2⟩, -, X2, ⟨Lc2, hQ2, l2, y2, z2⟩, st2⟩ := X1.specialBack hx (y := mN4) rfl hown (mvT hZ (own_w hw 28 rfl)) (mvT hZ (own_w hw 29 rfl)) (mvT hZ (own_w hw 30 rfl)) (by decide) (backOfKL (W := 1) (rm_kini l Z a0 hw [] wG1 wO2 wP5 wG3 wO4 wrG3 hstr hl wG7 wO7 wG8 wO8 hEL h1 n0 Ol1 b1 (401 : Int32) a2 A1 U1 F1_5 F1_4 F1_1 F1_2 F1_3 F1_7 g_b1) hZ (own_w hw 30 rfl) (own_w hw 24 rfl) (by decide) (by decide) hK.1 hK.2) (g := (mkF m 8 #[vR a2] [(.ref a2), (.int 401), (.ref b1), (.ref b1)])) rfl (by rw [hml]; rfl) (Steps.refl _) (a := b1) (argsL := [(.int 401), (.ref a2)]) (rest := [(.ref b1)]) (lenOf pd_78914811 rfl) rfl (Nat.le_of_eq rfl) (hb hby d5_8) (fun _ _ => ⟨rfl, e1, (by decide : 1 + 1 ≤ _), (by decide : 7 + 2752 ≤ _)⟩)
  dsimp only [Pt.U, Pt.locs, Pt.cells, Pt.slots] at X2 l2 y2 z2 st2 hQ2
  subst l2 y2 z2
  obtain ⟨rfl, Nq2, Kq2, fq2_0, fq2_1, fq2_2⟩ := hQ2
  refine OwnGoes.tr (T' := T2) (g' := (mkF m 11 #[vR a2] [(.ref b1)])) st2 ?_
  have N2 := Fr.app N0 Nq2
  have F2_8 := A1.keep Kq2
  have Ol2 := Ol1.keep Kq2 (allS g_b1 all0)
  have K2 : Keep h0 T2.heap ([] : List Addr) := K1.trans Kq2 (allS (Or.inr s_b1) all0)
  have hret : ∀ fs, (∀ (f : JFrame) (acts : List Action), f.method = m → f.locked = none → f.entered = [] → (doReturn e (T2.setTop f) acts (some (.ref b1))).1 = T2.setFrames fs) → Steps p.tables e below (T2.setTop (mkF m 11 #[vR a2] [(.ref b1)])) (T2.setFrames fs) := by
    intro fs hr
    jvm_step X2.here [X2.here.top, hx, (hb hby d5_11), X2.method', Bd.returns, Value.isRef, FieldType.isReference]
    first | (intro acts; rw [hr _ acts rfl rfl rfl]) | rw [hr _ _ rfl rfl rfl]
    exact Steps.refl _
  refine own_leave X2 hlk (v := some (.ref b1)) (fun h => by rw [Bd.returns] at h; cases h) hret (by decide) (by decide) ?_
  show Q_refused Z a2 h0 n0 _ T2.heap _
  exact ⟨b1, rfl, N2, K2, s_b1, fq2_0, fq2_1, fq2_2⟩
theorem ef_status (m : MethodId) (x0 : Addr) : entryFrame m #[(.ref x0)] 1 = mkF m 0 #[vR x0] [] := by
  first | (simp [entryFrame, mkF, argsToLocals, Value.category]; done) | rfl
def Q_status (Z : State) (a1 : Addr) (p1 : Int32) (h0 : Heap) (n0 : Nat) (v : Option Value) (h : Heap) (L : List Loc) : Prop := v = some (.int p1) ∧ Fr n0 L ∧ h = h0
theorem d6_0 : decode prog_26_method_5_code 0 = .ok (.aload_n 0, 1) := by decide +kernel
theorem d6_1 : decode prog_26_method_5_code 1 = .ok (.getfield 7, 3) := by decide +kernel
theorem d6_4 : decode prog_26_method_5_code 4 = .ok (.ireturn, 1) := by decide +kernel
set_option maxRecDepth 65536 in
set_option maxHeartbeats 40000000 in
theorem rm_status (l : Launch) (Z : State) (a0 : Array Value) (hw : ∀ d ∈ tables_1, d.before a0 Z = true) (ws : List Jvm.Cond) (wG1 : Int32) (wO2 : Sta Z Z.heap "java/lang/String" "COMPACT_STRINGS" "Z" (.int wG1)) (wP5 : ¬ (wG1 = (0 : Int32))) (wG3 : Value) (wO4 : Sta Z Z.heap "jdk/internal/util/Preconditions" "SIOOBE_FORMATTER" "Ljava/util/function/BiFunction;" wG3) (wrG3 : wG3.isRef = true) (hstr : ∀ a ∈ Bundle.stringAtoms, a.before a0 Z = true) (hl : l.stackTraces = true) (wG7 : Addr) (wO7 : Sta Z Z.heap "java/lang/Throwable" "UNASSIGNED_STACK" "[Ljava/lang/StackTraceElement;" (.ref wG7)) (wG8 : Addr) (wO8 : Sta Z Z.heap "java/lang/Throwable" "SUPPRESSED_SENTINEL" "Ljava/util/List;" (.ref wG8)) (hEL : EW Z a0 consts_1) (h0 : Heap) (n0 : Nat) (X00 : Old Z n0 h0) (a1 : Addr) (p1 : Int32) (f0 : Fld Z h0 a1 "com/example/seekret/seekret/server/KeystoreException" "status" "I" (.int p1)) :
    MetFree l mN6 (head1 (Jvm.Cond.code mN6 prog_26_method_5_code 1 (some .int) :: ws) (oR 0 0 0 0)) (fun a U => a = #[(.ref a1)] ∧ Z.Warmed39 U.vm ∧ U.heap = h0) (fun _ _ _ _ _ => True) (fun _ U o U' => ∃ v L, o = .returned v ∧ Q_status Z a1 p1 h0 n0 v U'.heap L ∧ FrameEnd U o U' L (oR 0 0 0 0).cells (oR 0 0 0 0).slots) := by
  refine MetFree.of_bodySF (plainFor_of_name pn_37824888) hisR ?_
  intro p e s m args below meth c s₁ Bd hml0 hP hK
  obtain ⟨rfl, hZ, hh⟩ := hP
  have hx := Bd.exec
  have hby := Bd.bytes
  have hlk := Bd.notSynchronized
  have hml : c.maxLocals = 1 := hml0
  have hown : s.vm.findClass "com/example/seekret/seekret/server/KeystoreException" = some m.cls := findClass_of_methodNamed Bd.named
  have hnm := (name_of_methodNamed Bd.named Bd.method).1
  have X0 : Stand p l e (oR 0 0 0 0) s m #[(.ref a1)] below meth c s₁ [] 0 0 := Stand.of_body Bd
  have e0 : s₁.heap = h0 := by rw [← hh, Bd.state]; rfl
  have N0 := Fr.nil n0
  have Z0 : n0 ≤ h0.size := X00.1 ▸ X00.2.1
  have K0 : Keep h0 h0 ([] : List Addr) := Keep.refl _ _
  show OwnGoes p e below _ s₁ (entryFrame m _ _)
  refine og s₁ m 0 #[vR a1] [] (fun tgt kgo => castTop (ef_status m a1) kgo) ?_
  refine og s₁ m 1 #[vR a1] [(.ref a1)] (fun tgt kgo => ?_) ?_
  · refine XS.aloadN X0.here hx rfl (hb hby d6_0) rfl rfl ?_
    exact kgo
  obtain ⟨T1, X1, e1, st1⟩ := getF X0 hx hZ hown (host := "") (Or.inl (own_w hw 79 rfl)) Via.refl e0 f0 (g := (mkF m 1 #[vR a1] [(.ref a1)])) rfl rfl (hb hby d6_1)
  refine og T1 m 4 #[vR a1] [(.int p1)] st1 ?_
  refine own_leave X1 hlk (v := some (.int p1)) (fun h => by rw [Bd.returns] at h; cases h) (fun fs hr => retI X1 hx Bd.returns (hb hby d6_4) hr) (by decide) (by decide) ?_
  show Q_status Z a1 p1 h0 n0 _ T1.heap _
  rw [e1]
  exact ⟨rfl, N0, rfl⟩
theorem ef_getMessage (m : MethodId) (x0 : Addr) : entryFrame m #[(.ref x0)] 1 = mkF m 0 #[vR x0] [] := by
  first | (simp [entryFrame, mkF, argsToLocals, Value.category]; done) | rfl
def Q_getMessage (Z : State) (a1 : Addr) (a2 : Addr) (h0 : Heap) (n0 : Nat) (v : Option Value) (h : Heap) (L : List Loc) : Prop := v = some (.ref a2) ∧ Fr n0 L ∧ h = h0
theorem d7_0 : decode jdk_78_method_6_code 0 = .ok (.aload_n 0, 1) := by decide +kernel
theorem d7_1 : decode jdk_78_method_6_code 1 = .ok (.getfield 31, 3) := by decide +kernel
theorem d7_4 : decode jdk_78_method_6_code 4 = .ok (.areturn, 1) := by decide +kernel
set_option maxRecDepth 65536 in
set_option maxHeartbeats 40000000 in
theorem rm_getMessage (l : Launch) (Z : State) (a0 : Array Value) (hw : ∀ d ∈ tables_1, d.before a0 Z = true) (ws : List Jvm.Cond) (wG1 : Int32) (wO2 : Sta Z Z.heap "java/lang/String" "COMPACT_STRINGS" "Z" (.int wG1)) (wP5 : ¬ (wG1 = (0 : Int32))) (wG3 : Value) (wO4 : Sta Z Z.heap "jdk/internal/util/Preconditions" "SIOOBE_FORMATTER" "Ljava/util/function/BiFunction;" wG3) (wrG3 : wG3.isRef = true) (hstr : ∀ a ∈ Bundle.stringAtoms, a.before a0 Z = true) (hl : l.stackTraces = true) (wG7 : Addr) (wO7 : Sta Z Z.heap "java/lang/Throwable" "UNASSIGNED_STACK" "[Ljava/lang/StackTraceElement;" (.ref wG7)) (wG8 : Addr) (wO8 : Sta Z Z.heap "java/lang/Throwable" "SUPPRESSED_SENTINEL" "Ljava/util/List;" (.ref wG8)) (hEL : EW Z a0 consts_1) (h0 : Heap) (n0 : Nat) (X00 : Old Z n0 h0) (a1 : Addr) (a2 : Addr) (f0 : Fld Z h0 a1 "java/lang/Throwable" "detailMessage" "Ljava/lang/String;" (.ref a2)) :
    MetFree l mN7 (head1 (Jvm.Cond.code mN7 jdk_78_method_6_code 1 (some (.object "java/lang/String")) :: ws) (oR 0 0 0 0)) (fun a U => a = #[(.ref a1)] ∧ Z.Warmed39 U.vm ∧ U.heap = h0) (fun _ _ _ _ _ => True) (fun _ U o U' => ∃ v L, o = .returned v ∧ Q_getMessage Z a1 a2 h0 n0 v U'.heap L ∧ FrameEnd U o U' L (oR 0 0 0 0).cells (oR 0 0 0 0).slots) := by
  refine MetFree.of_bodySF (plainFor_of_name pn_62233765) hisR ?_
  intro p e s m args below meth c s₁ Bd hml0 hP hK
  obtain ⟨rfl, hZ, hh⟩ := hP
  have hx := Bd.exec
  have hby := Bd.bytes
  have hlk := Bd.notSynchronized
  have hml : c.maxLocals = 1 := hml0
  have hown : s.vm.findClass "java/lang/Throwable" = some m.cls := findClass_of_methodNamed Bd.named
  have hnm := (name_of_methodNamed Bd.named Bd.method).1
  have X0 : Stand p l e (oR 0 0 0 0) s m #[(.ref a1)] below meth c s₁ [] 0 0 := Stand.of_body Bd
  have e0 : s₁.heap = h0 := by rw [← hh, Bd.state]; rfl
  have N0 := Fr.nil n0
  have Z0 : n0 ≤ h0.size := X00.1 ▸ X00.2.1
  have K0 : Keep h0 h0 ([] : List Addr) := Keep.refl _ _
  show OwnGoes p e below _ s₁ (entryFrame m _ _)
  refine og s₁ m 0 #[vR a1] [] (fun tgt kgo => castTop (ef_getMessage m a1) kgo) ?_
  refine og s₁ m 1 #[vR a1] [(.ref a1)] (fun tgt kgo => ?_) ?_
  · refine XS.aloadN X0.here hx rfl (hb hby d7_0) rfl rfl ?_
    exact kgo
  obtain ⟨T1, X1, e1, st1⟩ := getF X0 hx hZ hown (host := "") (Or.inl (own_w hw 78 rfl)) Via.refl e0 f0 (g := (mkF m 1 #[vR a1] [(.ref a1)])) rfl rfl (hb hby d7_1)
  refine og T1 m 4 #[vR a1] [(.ref a2)] st1 ?_
  have hret : ∀ fs, (∀ (f : JFrame) (acts : List Action), f.method = m → f.locked = none → f.entered = [] → (doReturn e (T1.setTop f) acts (some (.ref a2))).1 = T1.setFrames fs) → Steps p.tables e below (T1.setTop (mkF m 4 #[vR a1] [(.ref a2)])) (T1.setFrames fs) := by
    intro fs hr
    jvm_step X1.here [X1.here.top, hx, (hb hby d7_4), X1.method', Bd.returns, Value.isRef, FieldType.isReference]
    first | (intro acts; rw [hr _ acts rfl rfl rfl]) | rw [hr _ _ rfl rfl rfl]
    exact Steps.refl _
  refine own_leave X1 hlk (v := some (.ref a2)) (fun h => by rw [Bd.returns] at h; cases h) hret (by decide) (by decide) ?_
  show Q_getMessage Z a1 a2 h0 n0 _ T1.heap _
  rw [e1]
  exact ⟨rfl, N0, rfl⟩
theorem ef_eqsame (m : MethodId) (x0 : Addr) (x1 : Addr) : entryFrame m #[(.ref x0), (.ref x1)] 3 = mkF m 0 #[vR x0, vR x1, vU] [] := by
  first | (simp [entryFrame, mkF, argsToLocals, Value.category]; done) | rfl
def Q_eqsame (Z : State) (a1 : Addr) (h0 : Heap) (n0 : Nat) (v : Option Value) (h : Heap) (L : List Loc) : Prop := v = some (.int 1) ∧ Fr n0 L ∧ h = h0
theorem d8_0 : decode jdk_42_method_66_code 0 = .ok (.aload_n 0, 1) := by decide +kernel
theorem d8_1 : decode jdk_42_method_66_code 1 = .ok (.aload_n 1, 1) := by decide +kernel
theorem d8_2 : decode jdk_42_method_66_code 2 = .ok (.if_acmp .ne 5, 3) := by decide +kernel
theorem d8_5 : decode jdk_42_method_66_code 5 = .ok (.iconst 1, 1) := by decide +kernel
theorem d8_6 : decode jdk_42_method_66_code 6 = .ok (.ireturn, 1) := by decide +kernel
set_option maxRecDepth 65536 in
set_option maxHeartbeats 40000000 in
theorem rm_eqsame (l : Launch) (Z : State) (a0 : Array Value) (hw : ∀ d ∈ tables_1, d.before a0 Z = true) (ws : List Jvm.Cond) (wG1 : Int32) (wO2 : Sta Z Z.heap "java/lang/String" "COMPACT_STRINGS" "Z" (.int wG1)) (wP5 : ¬ (wG1 = (0 : Int32))) (wG3 : Value) (wO4 : Sta Z Z.heap "jdk/internal/util/Preconditions" "SIOOBE_FORMATTER" "Ljava/util/function/BiFunction;" wG3) (wrG3 : wG3.isRef = true) (hstr : ∀ a ∈ Bundle.stringAtoms, a.before a0 Z = true) (hl : l.stackTraces = true) (wG7 : Addr) (wO7 : Sta Z Z.heap "java/lang/Throwable" "UNASSIGNED_STACK" "[Ljava/lang/StackTraceElement;" (.ref wG7)) (wG8 : Addr) (wO8 : Sta Z Z.heap "java/lang/Throwable" "SUPPRESSED_SENTINEL" "Ljava/util/List;" (.ref wG8)) (hEL : EW Z a0 consts_1) (h0 : Heap) (n0 : Nat) (X00 : Old Z n0 h0) (a1 : Addr) :
    MetFree l mN8 (head1 (Jvm.Cond.code mN8 jdk_42_method_66_code 3 (some .boolean) :: ws) (oR 0 0 0 0)) (fun a U => a = #[(.ref a1), (.ref a1)] ∧ Z.Warmed39 U.vm ∧ U.heap = h0) (fun _ _ _ _ _ => True) (fun _ U o U' => ∃ v L, o = .returned v ∧ Q_eqsame Z a1 h0 n0 v U'.heap L ∧ FrameEnd U o U' L (oR 0 0 0 0).cells (oR 0 0 0 0).slots) := by
  refine MetFree.of_bodySF (plainFor_of_name pn_52039224) hisR ?_
  intro p e s m args below meth c s₁ Bd hml0 hP hK
  obtain ⟨rfl, hZ, hh⟩ := hP
  have hx := Bd.exec
  have hby := Bd.bytes
  have hlk := Bd.notSynchronized
  have hml : c.maxLocals = 3 := hml0
  have hown : s.vm.findClass "java/lang/String" = some m.cls := findClass_of_methodNamed Bd.named
  have hnm := (name_of_methodNamed Bd.named Bd.method).1
  have X0 : Stand p l e (oR 0 0 0 0) s m #[(.ref a1), (.ref a1)] below meth c s₁ [] 0 0 := Stand.of_body Bd
  have e0 : s₁.heap = h0 := by rw [← hh, Bd.state]; rfl
  have N0 := Fr.nil n0
  have Z0 : n0 ≤ h0.size := X00.1 ▸ X00.2.1
  have K0 : Keep h0 h0 ([] : List Addr) := Keep.refl _ _
  show OwnGoes p e below _ s₁ (entryFrame m _ _)
  refine og s₁ m 0 #[vR a1, vR a1, vU] [] (fun tgt kgo => castTop (ef_eqsame m a1 a1) kgo) ?_
  refine og s₁ m 6 #[vR a1, vR a1, vU] [(.int 1)] (fun tgt kgo => ?_) ?_
  · refine XS.aloadN X0.here hx rfl (hb hby d8_0) rfl rfl ?_
    show OwnG p e below s₁ m 1 #[vR a1, vR a1, vU] [(.ref a1)] tgt
    refine XS.aloadN X0.here hx rfl (hb hby d8_1) rfl rfl ?_
    show OwnG p e below s₁ m 2 #[vR a1, vR a1, vU] [(.ref a1), (.ref a1)] tgt
    refine Jvm.RoadKit.acmp (g := (mkF m 2 #[vR a1, vR a1, vU] [(.ref a1), (.ref a1)])) X0 hx rfl rfl rfl (pc0 := 2) (pc' := 5) (same := true) rfl (hb hby d8_2) rfl (decide_eq_true rfl) (by decide) (by decide) ?_
    show OwnG p e below s₁ m 5 #[vR a1, vR a1, vU] [] tgt
    refine XS.iconst X0.here hx rfl (hb hby d8_5) ?_
    exact kgo
  refine own_leave X0 hlk (v := some (.int 1)) (fun h => by rw [Bd.returns] at h; cases h) (fun fs hr => retN X0 hx (t := .boolean) Bd.returns (by simp) (hb hby d8_6) (by rw [(by decide : nar .boolean (1 : Int32) = (1 : Int32))]; exact hr)) (by decide) (by decide) ?_
  show Q_eqsame Z a1 h0 n0 _ s₁.heap _
  rw [e0]
  exact ⟨rfl, N0, rfl⟩
theorem ef_law (m : MethodId) (x0 : Int32) (x1 : Int32) (x2 : Int32) (x3 : Int32) : entryFrame m #[(.int x0), (.int x1), (.int x2), (.int x3)] maxLocals = mkF m 0 #[vI x0, vI x1, vI x2, vI x3, vU, vU, vU, vU, vU, vU, vU, vU] [] := by
  first | (simp [entryFrame, mkF, argsToLocals, Value.category, maxLocals]; done) | rfl
def Q_law (Z : State) (p1 : Int32) (p2 : Int32) (p3 : Int32) (p4 : Int32) (h0 : Heap) (n0 : Nat) (v : Option Value) (h : Heap) (L : List Loc) : Prop := v = some (.int 1) ∧ Fr n0 L
theorem pn_80509604 : plainName "com/example/seekret/seekret/server/KeystoreExceptionRefusedPinLaw" = true := by first | (simp [plainName, overriddenIn]; done) | decide +kernel
theorem pd_68446664 : parseMethodDescriptor "([C)V" = some ⟨[(.array .char)], none⟩ := by decide +kernel
theorem pd_77505385 : parseMethodDescriptor "(Ljava/lang/String;)Lcom/example/seekret/seekret/server/KeystoreException;" = some ⟨[(.object "java/lang/String")], some (.object "com/example/seekret/seekret/server/KeystoreException")⟩ := by decide +kernel
theorem pd_86913941 : parseMethodDescriptor "()I" = some ⟨[], some .int⟩ := by decide +kernel
theorem pd_24953479 : parseMethodDescriptor "()Ljava/lang/String;" = some ⟨[], some (.object "java/lang/String")⟩ := by decide +kernel
theorem pd_81697300 : parseMethodDescriptor "(Ljava/lang/Object;)Z" = some ⟨[(.object "java/lang/Object")], some .boolean⟩ := by decide +kernel
theorem own_hws : ∀ d ∈ StrChars.Road.words, d ∈ tables_1 := by decide +kernel
set_option maxRecDepth 65536 in
set_option maxHeartbeats 40000000 in
theorem rm_law (l : Launch) (Z : State) (a0 : Array Value) (hw : ∀ d ∈ tables_1, d.before a0 Z = true) (ws : List Jvm.Cond) (wG1 : Int32) (wO2 : Sta Z Z.heap "java/lang/String" "COMPACT_STRINGS" "Z" (.int wG1)) (wP5 : ¬ (wG1 = (0 : Int32))) (wG3 : Value) (wO4 : Sta Z Z.heap "jdk/internal/util/Preconditions" "SIOOBE_FORMATTER" "Ljava/util/function/BiFunction;" wG3) (wrG3 : wG3.isRef = true) (hstr : ∀ a ∈ Bundle.stringAtoms, a.before a0 Z = true) (hl : l.stackTraces = true) (wG7 : Addr) (wO7 : Sta Z Z.heap "java/lang/Throwable" "UNASSIGNED_STACK" "[Ljava/lang/StackTraceElement;" (.ref wG7)) (wG8 : Addr) (wO8 : Sta Z Z.heap "java/lang/Throwable" "SUPPRESSED_SENTINEL" "Ljava/util/List;" (.ref wG8)) (hEL : EW Z a0 consts_1) (h0 : Heap) (n0 : Nat) (X00 : Old Z n0 h0) (p1 : Int32) (p2 : Int32) (p3 : Int32) (p4 : Int32) :
    MetFree l x (head1 (Jvm.Cond.code x code maxLocals ret :: ws) room_1) (fun a U => a = #[(.int p1), (.int p2), (.int p3), (.int p4)] ∧ Z.Warmed39 U.vm ∧ U.heap = h0 ∧ CHv Z consts_1 U.vm h0) (fun _ _ _ s _ => framesKnown s = true ∧ tablesKnown s = true) (fun _ U o U' => ∃ v L, o = .returned v ∧ Q_law Z p1 p2 p3 p4 h0 n0 v U'.heap L ∧ CHr Z consts_1 U.vm U.heap U'.vm U'.heap ∧ ReturnedEndW U o U' L room_1.cells room_1.slots) := by
  refine MetFree.of_bodySF (plainFor_of_name pn_80509604) hisR ?_
  intro p e s m args below meth c s₁ Bd hml0 hP hK
  obtain ⟨rfl, hZ, hh, hH⟩ := hP
  have hx := Bd.exec
  have hby := Bd.bytes
  have hlk := Bd.notSynchronized
  have hml : c.maxLocals = 12 := hml0
  have hown : s.vm.findClass "com/example/seekret/seekret/server/KeystoreExceptionRefusedPinLaw" = some m.cls := findClass_of_methodNamed Bd.named
  have hnm := (name_of_methodNamed Bd.named Bd.method).1
  have X0 : Stand p l e room_1 (s.setVm s.vm) m #[(.int p1), (.int p2), (.int p3), (.int p4)] below meth c s₁ [] 0 0 := Stand.of_body Bd
  replace hK := X0.known hK.2 hK.1
  have e0 : s₁.heap = h0 := by rw [← hh, Bd.state]; rfl
  have N0 := Fr.nil n0
  have Z0 : n0 ≤ h0.size := X00.1 ▸ X00.2.1
  have K0 : Keep h0 h0 ([] : List Addr) := Keep.refl _ _
  have R0 : CHr Z consts_1 s.vm h0 s.vm h0 := CHr.refl hH
  have hS0 : s.Since s.vm h0.size := State.WarmedH.since (State.WarmedH.refl s) _
  have hk0 : h0.size ≤ h0.size := Nat.le_refl _
  show OwnGoes p e below _ s₁ (entryFrame m _ _)
  refine og s₁ m 0 #[vI p1, vI p2, vI p3, vI p4, vU, vU, vU, vU, vU, vU, vU, vU] [] (fun tgt kgo => castTop (ef_law m p1 p2 p3 p4) kgo) ?_
  refine og s₁ m 31 #[vI p1, vI p2, vI p3, vI p4, vI (p1 &&& (3 : Int32)), vI (nar .char (p2 &&& (255 : Int32))), vI (nar .char (p3 &&& (255 : Int32))), vI (nar .char (p4 &&& (255 : Int32))), vU, vU, vU, vU] [(.int (p1 &&& (3 : Int32)))] (fun tgt kgo => ?_) ?_
  · refine XS.iloadN X0.here hx rfl (hb hby at_0) rfl ?_
    show OwnG p e below s₁ m 1 #[vI p1, vI p2, vI p3, vI p4, vU, vU, vU, vU, vU, vU, vU, vU] [(.int p1)] tgt
    refine XS.iconst X0.here hx rfl (hb hby at_1) ?_
    show OwnG p e below s₁ m 2 #[vI p1, vI p2, vI p3, vI p4, vU, vU, vU, vU, vU, vU, vU, vU] [(.int 3), (.int p1)] tgt
    refine XS.iand X0.here hx rfl (hb hby at_2) rfl ?_
    show OwnG p e below s₁ m 3 #[vI p1, vI p2, vI p3, vI p4, vU, vU, vU, vU, vU, vU, vU, vU] [(.int (p1 &&& (3 : Int32)))] tgt
    refine XS.istore X0.here hx rfl (hb hby at_3) rfl (l' := #[vI p1, vI p2, vI p3, vI p4, vI (p1 &&& (3 : Int32)), vU, vU, vU, vU, vU, vU, vU]) rfl ?_
    show OwnG p e below s₁ m 5 #[vI p1, vI p2, vI p3, vI p4, vI (p1 &&& (3 : Int32)), vU, vU, vU, vU, vU, vU, vU] [] tgt
    refine XS.iloadN X0.here hx rfl (hb hby at_5) rfl ?_
    show OwnG p e below s₁ m 6 #[vI p1, vI p2, vI p3, vI p4, vI (p1 &&& (3 : Int32)), vU, vU, vU, vU, vU, vU, vU] [(.int p2)] tgt
    refine XS.sipush X0.here hx rfl (hb hby at_6) ?_
    show OwnG p e below s₁ m 9 #[vI p1, vI p2, vI p3, vI p4, vI (p1 &&& (3 : Int32)), vU, vU, vU, vU, vU, vU, vU] [(.int 255), (.int p2)] tgt
    refine XS.iand X0.here hx rfl (hb hby at_9) rfl ?_
    show OwnG p e below s₁ m 10 #[vI p1, vI p2, vI p3, vI p4, vI (p1 &&& (3 : Int32)), vU, vU, vU, vU, vU, vU, vU] [(.int (p2 &&& (255 : Int32)))] tgt
    refine XS.i2c X0.here hx rfl (hb hby at_10) rfl ?_
    show OwnG p e below s₁ m 11 #[vI p1, vI p2, vI p3, vI p4, vI (p1 &&& (3 : Int32)), vU, vU, vU, vU, vU, vU, vU] [(.int (nar .char (p2 &&& (255 : Int32))))] tgt
    refine XS.istore X0.here hx rfl (hb hby at_11) rfl (l' := #[vI p1, vI p2, vI p3, vI p4, vI (p1 &&& (3 : Int32)), vI (nar .char (p2 &&& (255 : Int32))), vU, vU, vU, vU, vU, vU]) rfl ?_
    show OwnG p e below s₁ m 13 #[vI p1, vI p2, vI p3, vI p4, vI (p1 &&& (3 : Int32)), vI (nar .char (p2 &&& (255 : Int32))), vU, vU, vU, vU, vU, vU] [] tgt
    refine XS.iloadN X0.here hx rfl (hb hby at_13) rfl ?_
    show OwnG p e below s₁ m 14 #[vI p1, vI p2, vI p3, vI p4, vI (p1 &&& (3 : Int32)), vI (nar .char (p2 &&& (255 : Int32))), vU, vU, vU, vU, vU, vU] [(.int p3)] tgt
    refine XS.sipush X0.here hx rfl (hb hby at_14) ?_
    show OwnG p e below s₁ m 17 #[vI p1, vI p2, vI p3, vI p4, vI (p1 &&& (3 : Int32)), vI (nar .char (p2 &&& (255 : Int32))), vU, vU, vU, vU, vU, vU] [(.int 255), (.int p3)] tgt
    refine XS.iand X0.here hx rfl (hb hby at_17) rfl ?_
    show OwnG p e below s₁ m 18 #[vI p1, vI p2, vI p3, vI p4, vI (p1 &&& (3 : Int32)), vI (nar .char (p2 &&& (255 : Int32))), vU, vU, vU, vU, vU, vU] [(.int (p3 &&& (255 : Int32)))] tgt
    refine XS.i2c X0.here hx rfl (hb hby at_18) rfl ?_
    show OwnG p e below s₁ m 19 #[vI p1, vI p2, vI p3, vI p4, vI (p1 &&& (3 : Int32)), vI (nar .char (p2 &&& (255 : Int32))), vU, vU, vU, vU, vU, vU] [(.int (nar .char (p3 &&& (255 : Int32))))] tgt
    refine XS.istore X0.here hx rfl (hb hby at_19) rfl (l' := #[vI p1, vI p2, vI p3, vI p4, vI (p1 &&& (3 : Int32)), vI (nar .char (p2 &&& (255 : Int32))), vI (nar .char (p3 &&& (255 : Int32))), vU, vU, vU, vU, vU]) rfl ?_
    show OwnG p e below s₁ m 21 #[vI p1, vI p2, vI p3, vI p4, vI (p1 &&& (3 : Int32)), vI (nar .char (p2 &&& (255 : Int32))), vI (nar .char (p3 &&& (255 : Int32))), vU, vU, vU, vU, vU] [] tgt
    refine XS.iloadN X0.here hx rfl (hb hby at_21) rfl ?_
    show OwnG p e below s₁ m 22 #[vI p1, vI p2, vI p3, vI p4, vI (p1 &&& (3 : Int32)), vI (nar .char (p2 &&& (255 : Int32))), vI (nar .char (p3 &&& (255 : Int32))), vU, vU, vU, vU, vU] [(.int p4)] tgt
    refine XS.sipush X0.here hx rfl (hb hby at_22) ?_
    show OwnG p e below s₁ m 25 #[vI p1, vI p2, vI p3, vI p4, vI (p1 &&& (3 : Int32)), vI (nar .char (p2 &&& (255 : Int32))), vI (nar .char (p3 &&& (255 : Int32))), vU, vU, vU, vU, vU] [(.int 255), (.int p4)] tgt
    refine XS.iand X0.here hx rfl (hb hby at_25) rfl ?_
    show OwnG p e below s₁ m 26 #[vI p1, vI p2, vI p3, vI p4, vI (p1 &&& (3 : Int32)), vI (nar .char (p2 &&& (255 : Int32))), vI (nar .char (p3 &&& (255 : Int32))), vU, vU, vU, vU, vU] [(.int (p4 &&& (255 : Int32)))] tgt
    refine XS.i2c X0.here hx rfl (hb hby at_26) rfl ?_
    show OwnG p e below s₁ m 27 #[vI p1, vI p2, vI p3, vI p4, vI (p1 &&& (3 : Int32)), vI (nar .char (p2 &&& (255 : Int32))), vI (nar .char (p3 &&& (255 : Int32))), vU, vU, vU, vU, vU] [(.int (nar .char (p4 &&& (255 : Int32))))] tgt
    refine XS.istore X0.here hx rfl (hb hby at_27) rfl (l' := #[vI p1, vI p2, vI p3, vI p4, vI (p1 &&& (3 : Int32)), vI (nar .char (p2 &&& (255 : Int32))), vI (nar .char (p3 &&& (255 : Int32))), vI (nar .char (p4 &&& (255 : Int32))), vU, vU, vU, vU]) rfl ?_
    show OwnG p e below s₁ m 29 #[vI p1, vI p2, vI p3, vI p4, vI (p1 &&& (3 : Int32)), vI (nar .char (p2 &&& (255 : Int32))), vI (nar .char (p3 &&& (255 : Int32))), vI (nar .char (p4 &&& (255 : Int32))), vU, vU, vU, vU] [] tgt
    refine XS.iload X0.here hx rfl (hb hby at_29) rfl ?_
    exact kgo
  by_cases cc1 : (p1 &&& (3 : Int32)) = (0 : Int32)
  · skip
    refine og s₁ m 35 #[vI p1, vI p2, vI p3, vI p4, vI (p1 &&& (3 : Int32)), vI (nar .char (p2 &&& (255 : Int32))), vI (nar .char (p3 &&& (255 : Int32))), vI (nar .char (p4 &&& (255 : Int32))), vU, vU, vU, vU] [(.int 0)] (fun tgt kgo => ?_) ?_
    · refine XS.ifNo X0.here hx rfl (hb hby at_31) rfl ((if0 _ _).trans (teq cc1).2) ?_
      show OwnG p e below s₁ m 34 #[vI p1, vI p2, vI p3, vI p4, vI (p1 &&& (3 : Int32)), vI (nar .char (p2 &&& (255 : Int32))), vI (nar .char (p3 &&& (255 : Int32))), vI (nar .char (p4 &&& (255 : Int32))), vU, vU, vU, vU] [] tgt
      refine XS.iconst X0.here hx rfl (hb hby at_34) ?_
      exact kgo
    obtain ⟨T2, h2, k2, X2, e2, E2, A2, st2⟩ := newP X0 hx hZ (own_w hw 0 rfl) e0 (g := (mkF m 35 #[vI p1, vI p2, vI p3, vI p4, vI (p1 &&& (3 : Int32)), vI (nar .char (p2 &&& (255 : Int32))), vI (nar .char (p3 &&& (255 : Int32))), vI (nar .char (p4 &&& (255 : Int32))), vU, vU, vU, vU] [(.int 0)])) rfl (hb hby at_35) rfl (by decide) (cap := 0) (by decide) (by decide) (by decide) (by decide)
    obtain ⟨b2, g2⟩ : ∃ z, z = h0.size := ⟨_, rfl⟩
    rw [← g2] at A2 st2
    refine og T2 m 37 #[vI p1, vI p2, vI p3, vI p4, vI (p1 &&& (3 : Int32)), vI (nar .char (p2 &&& (255 : Int32))), vI (nar .char (p3 &&& (255 : Int32))), vI (nar .char (p4 &&& (255 : Int32))), vU, vU, vU, vU] [(.ref b2)] st2 ?_
    have V2 : Arv Z h2 b2 k2 .char (0 : Int32) [] (.int 0) := (Arv.new A2 (by decide)).pad (pad_rep [] (.int 0) 0)
    have g_b2 : n0 ≤ b2 := Nat.le_trans (Nat.le_trans Z0 K0.1) (Nat.le_of_eq g2.symm)
    have s_b2 : h0.size ≤ b2 := Nat.le_trans K0.1 (Nat.le_of_eq g2.symm)
    have Sf2 : Safe Z consts_1 s.vm h2 b2 := Safe.ext E2 R0.1 (Safe.new (Nat.le_of_eq g2.symm))
    have Ol2 := X00.ext E2
    have K2 : Keep h0 h2 ([] : List Addr) := K0.ext E2
    have R2 := R0.trans (CHr.ext E2 R0.1)
    have hk2 := Nat.le_trans hk0 E2.1
    refine og T2 m 105 #[vI p1, vI p2, vI p3, vI p4, vI (p1 &&& (3 : Int32)), vI (nar .char (p2 &&& (255 : Int32))), vI (nar .char (p3 &&& (255 : Int32))), vI (nar .char (p4 &&& (255 : Int32))), vR b2, vU, vU, vU] [] (fun tgt kgo => ?_) ?_
    · refine XS.astore X2.here hx rfl (hb hby at_37) rfl rfl (l' := #[vI p1, vI p2, vI p3, vI p4, vI (p1 &&& (3 : Int32)), vI (nar .char (p2 &&& (255 : Int32))), vI (nar .char (p3 &&& (255 : Int32))), vI (nar .char (p4 &&& (255 : Int32))), vR b2, vU, vU, vU]) rfl ?_
      show OwnG p e below T2 m 39 #[vI p1, vI p2, vI p3, vI p4, vI (p1 &&& (3 : Int32)), vI (nar .char (p2 &&& (255 : Int32))), vI (nar .char (p3 &&& (255 : Int32))), vI (nar .char (p4 &&& (255 : Int32))), vR b2, vU, vU, vU] [] tgt
      refine XS.goto X2.here hx rfl (pc0 := 39) (pc' := 105) rfl (hb hby at_39) (by decide) (by decide) ?_
      exact kgo
    obtain ⟨T3, h3, X3, e3, E3, A3, D3, U3, st3⟩ := newO X2 hx hZ hown (own_w hw 1 rfl) (own_w hw 2 rfl) (own_w hw 3 rfl) e2 (g := (mkF m 105 #[vI p1, vI p2, vI p3, vI p4, vI (p1 &&& (3 : Int32)), vI (nar .char (p2 &&& (255 : Int32))), vI (nar .char (p3 &&& (255 : Int32))), vI (nar .char (p4 &&& (255 : Int32))), vR b2, vU, vU, vU] [])) rfl (hb hby at_105) (by decide) (by decide)
    obtain ⟨b3, g3⟩ : ∃ z, z = h2.size := ⟨_, rfl⟩
    rw [← g3] at A3 D3 U3 st3
    refine og T3 m 108 #[vI p1, vI p2, vI p3, vI p4, vI (p1 &&& (3 : Int32)), vI (nar .char (p2 &&& (255 : Int32))), vI (nar .char (p3 &&& (255 : Int32))), vI (nar .char (p4 &&& (255 : Int32))), vR b2, vU, vU, vU] [(.ref b3)] st3 ?_
    have ne_b2_b3 : b2 ≠ b3 := Nat.ne_of_lt (Nat.lt_of_lt_of_le V2.lt (Nat.le_of_eq g3.symm))
    have g_b3 : n0 ≤ b3 := Nat.le_trans (Nat.le_trans Z0 K2.1) (Nat.le_of_eq g3.symm)
    have s_b3 : h0.size ≤ b3 := Nat.le_trans K2.1 (Nat.le_of_eq g3.symm)
    have Sf3 : Safe Z consts_1 s.vm h3 b3 := Safe.ext E3 R2.1 (Safe.new (Nat.le_of_eq g3.symm))
    have F3_1 := Safe.ext E3 R2.1 Sf2
    have F3_2 := V2.ext E3
    have Ol3 := Ol2.ext E3
    have K3 : Keep h0 h3 ([] : List Addr) := K2.ext E3
    have R3 := R2.trans (CHr.ext E3 R2.1)
    have hk3 := Nat.le_trans hk2 E3.1
    have F3_3 : Fld Z h3 b3 "java/lang/String" "value" "[B" .null := D3 (Or.inr (own_w hw 16 rfl)) (ty := (.array .byte)) (by decide)
    have F3_4 : Fld Z h3 b3 "java/lang/String" "coder" "B" (.int 0) := D3 (Or.inr (own_w hw 17 rfl)) (ty := .byte) (by decide)
    refine og T3 m 111 #[vI p1, vI p2, vI p3, vI p4, vI (p1 &&& (3 : Int32)), vI (nar .char (p2 &&& (255 : Int32))), vI (nar .char (p3 &&& (255 : Int32))), vI (nar .char (p4 &&& (255 : Int32))), vR b2, vU, vU, vU] [(.ref b2), (.ref b3), (.ref b3)] (fun tgt kgo => ?_) ?_
    · refine XS.dup X3.here hx rfl (hb hby at_108) rfl rfl ?_
      show OwnG p e below T3 m 109 #[vI p1, vI p2, vI p3, vI p4, vI (p1 &&& (3 : Int32)), vI (nar .char (p2 &&& (255 : Int32))), vI (nar .char (p3 &&& (255 : Int32))), vI (nar .char (p4 &&& (255 : Int32))), vR b2, vU, vU, vU] [(.ref b3), (.ref b3)] tgt
      refine XS.aload X3.here hx rfl (hb hby at_109) rfl rfl ?_
      exact kgo
    obtain ⟨_, _, ⟨T4, L4, k4, n4⟩, -, X4, Si4, Gr4, ⟨Lc4, hQ4, l4, y4, z4, Rc4⟩, st4⟩ := X3.specialBackS hx (y := mN1) rfl hown (mvT hZ (own_w hw 4 rfl)) (mvT hZ (own_w hw 5 rfl)) (mvT hZ (own_w hw 6 rfl)) (by decide) (backOfSH (W := 1) (rm_si2e l Z a0 hw [] wG1 wO2 wP5 wG3 wO4 wrG3 hstr hl wG7 wO7 wG8 wO8 hEL h3 n0 Ol3 b3 b2 k2 A3 F3_3 F3_4 g_b3 F3_2) hZ (own_w hw 6 rfl) (own_w hw 3 rfl) (by decide) (by decide) hEL R3.1) (g := (mkF m 111 #[vI p1, vI p2, vI p3, vI p4, vI (p1 &&& (3 : Int32)), vI (nar .char (p2 &&& (255 : Int32))), vI (nar .char (p3 &&& (255 : Int32))), vI (nar .char (p4 &&& (255 : Int32))), vR b2, vU, vU, vU] [(.ref b2), (.ref b3), (.ref b3)])) rfl (by rw [hml]; rfl) (Steps.refl _) (a := b3) (argsL := [(.ref b2)]) (rest := [(.ref b3)]) (lenOf pd_68446664 rfl) rfl (Nat.le_of_eq rfl) (hb hby at_111) (fun _ _ => ⟨rfl, e3, (by decide : 2 + 4 ≤ _), (by decide : 4 + 8 ≤ _)⟩)
    dsimp only [Pt.U, Pt.locs, Pt.cells, Pt.slots] at X4 l4 y4 z4 st4 hQ4 Si4 Gr4 Rc4
    subst l4 y4 z4
    obtain ⟨t_4, k_4, rfl, Nq4, Kq4, fq4_0, fq4_1, fq4_2, fq4_3⟩ := hQ4
    refine OwnGoes.tr (T' := T4) (g' := (mkF m 114 #[vI p1, vI p2, vI p3, vI p4, vI (p1 &&& (3 : Int32)), vI (nar .char (p2 &&& (255 : Int32))), vI (nar .char (p3 &&& (255 : Int32))), vI (nar .char (p4 &&& (255 : Int32))), vR b2, vU, vU, vU] [(.ref b3)])) st4 ?_
    have N4 := Fr.app N0 Nq4
    have gz4 : h3.size ≤ T4.heap.size := Rc4.2.1
    obtain ⟨X4, hS4, hZ4, ho4⟩ := rebS hS0 hk3 X4 Si4 gz4 hZ hown
    have F4_5 := Rc4.safe F3_2.lt F3_1
    have F4_6 := F3_2.keep Kq4 (ninS ne_b2_b3 nin0)
    have F4_7 := Rc4.safe A3.lt Sf3
    have F4_8 := A3.keep Kq4
    have Ol4 := Ol3.keep Kq4 (allS g_b3 all0)
    have K4 : Keep h0 T4.heap ([] : List Addr) := K3.trans Kq4 (allS (Or.inr s_b3) all0)
    have R4 := R3.trans Rc4
    refine og T4 m 118 #[vI p1, vI p2, vI p3, vI p4, vI (p1 &&& (3 : Int32)), vI (nar .char (p2 &&& (255 : Int32))), vI (nar .char (p3 &&& (255 : Int32))), vI (nar .char (p4 &&& (255 : Int32))), vR b2, vR b3, vU, vU] [(.ref b3)] (fun tgt kgo => ?_) ?_
    · refine XS.astore X4.here hx rfl (hb hby at_114) rfl rfl (l' := #[vI p1, vI p2, vI p3, vI p4, vI (p1 &&& (3 : Int32)), vI (nar .char (p2 &&& (255 : Int32))), vI (nar .char (p3 &&& (255 : Int32))), vI (nar .char (p4 &&& (255 : Int32))), vR b2, vR b3, vU, vU]) rfl ?_
      show OwnG p e below T4 m 116 #[vI p1, vI p2, vI p3, vI p4, vI (p1 &&& (3 : Int32)), vI (nar .char (p2 &&& (255 : Int32))), vI (nar .char (p3 &&& (255 : Int32))), vI (nar .char (p4 &&& (255 : Int32))), vR b2, vR b3, vU, vU] [] tgt
      refine XS.aload X4.here hx rfl (hb hby at_116) rfl rfl ?_
      exact kgo
    obtain ⟨_, _, ⟨T5, L5, k5, n5⟩, -, X5, ⟨Lc5, hQ5, l5, y5, z5⟩, st5⟩ := Jvm.LawKit.callS X4 hx (y := mN5) ho4 (mvT hZ4 (own_w hw 22 rfl)) (mvT hZ4 (own_w hw 23 rfl)) (mvT hZ4 (own_w hw 24 rfl)) (mvT hZ4 (own_w hw 25 rfl)) (by decide) (backOfKL (W := 0) (rm_refused l Z a0 hw [] wG1 wO2 wP5 wG3 wO4 wrG3 hstr hl wG7 wO7 wG8 wO8 hEL T4.heap n0 Ol4 b3) hZ4 (own_w hw 25 rfl) (own_w hw 24 rfl) (by decide) (by decide) (own_mk (s := s) hS4 hK.1) (own_fk (s := s) hS4 hK.2)) (g := (mkF m 118 #[vI p1, vI p2, vI p3, vI p4, vI (p1 &&& (3 : Int32)), vI (nar .char (p2 &&& (255 : Int32))), vI (nar .char (p3 &&& (255 : Int32))), vI (nar .char (p4 &&& (255 : Int32))), vR b2, vR b3, vU, vU] [(.ref b3)])) rfl (by rw [hml]; rfl) (argsL := [(.ref b3)]) (rest := []) (lenOf pd_77505385 rfl) rfl (Nat.le_of_eq rfl) (hb hby at_118) (fun _ _ => ⟨rfl, rfl, (by decide : 6 + 2 ≤ _), (by decide : 12 + 2759 ≤ _)⟩)
    dsimp only [Pt.U, Pt.locs, Pt.cells, Pt.slots] at X5 l5 y5 z5 st5 hQ5
    subst l5 y5 z5
    obtain ⟨x_5, rfl, Nq5, Kq5, zq5_0, fq5_0, fq5_1, fq5_2⟩ := hQ5
    refine og T5 m 121 #[vI p1, vI p2, vI p3, vI p4, vI (p1 &&& (3 : Int32)), vI (nar .char (p2 &&& (255 : Int32))), vI (nar .char (p3 &&& (255 : Int32))), vI (nar .char (p4 &&& (255 : Int32))), vR b2, vR b3, vU, vU] [(.ref x_5)] st5 ?_
    have N5 := Fr.app N4 Nq5
    have ne_b2_x_5 : b2 ≠ x_5 := Nat.ne_of_lt (Nat.lt_of_lt_of_le F4_6.lt zq5_0)
    have ne_b3_x_5 : b3 ≠ x_5 := Nat.ne_of_lt (Nat.lt_of_lt_of_le fq4_0.lt zq5_0)
    have ne_t_4_x_5 : t_4 ≠ x_5 := Nat.ne_of_lt (Nat.lt_of_lt_of_le fq4_3.lt zq5_0)
    have g_x_5 : n0 ≤ x_5 := Nat.le_trans (Nat.le_trans Z0 K4.1) zq5_0
    have s_x_5 : h0.size ≤ x_5 := Nat.le_trans K4.1 zq5_0
    have Sn5_0 : Safe Z consts_1 T4.vm T5.heap x_5 := Safe.keep Kq5 sf0 R4.1 (Safe.new zq5_0)
    have F5_9 := Safe.keep Kq5 sf0 R4.1 F4_5
    have F5_10 := F4_6.keep Kq5 nin0
    have F5_11 := Safe.keep Kq5 sf0 R4.1 F4_7
    have F5_12 := fq4_0.keep Kq5
    have F5_13 := fq4_1.keep Kq5 nin0
    have F5_14 := fq4_2.keep Kq5 nin0
    have F5_15 := fq4_3.keep Kq5 nin0
    have Ol5 := Ol4.keep Kq5 all0
    have K5 : Keep h0 T5.heap ([] : List Addr) := K4.trans Kq5 all0
    have R5 := R4.trans (CHr.keep Kq5 sf0 R4.1)
    have hk5 := Nat.le_trans (Nat.le_refl _) Kq5.1
    refine og T5 m 125 #[vI p1, vI p2, vI p3, vI p4, vI (p1 &&& (3 : Int32)), vI (nar .char (p2 &&& (255 : Int32))), vI (nar .char (p3 &&& (255 : Int32))), vI (nar .char (p4 &&& (255 : Int32))), vR b2, vR b3, vR x_5, vU] [(.ref x_5)] (fun tgt kgo => ?_) ?_
    · refine XS.astore X5.here hx rfl (hb hby at_121) rfl rfl (l' := #[vI p1, vI p2, vI p3, vI p4, vI (p1 &&& (3 : Int32)), vI (nar .char (p2 &&& (255 : Int32))), vI (nar .char (p3 &&& (255 : Int32))), vI (nar .char (p4 &&& (255 : Int32))), vR b2, vR b3, vR x_5, vU]) rfl ?_
      show OwnG p e below T5 m 123 #[vI p1, vI p2, vI p3, vI p4, vI (p1 &&& (3 : Int32)), vI (nar .char (p2 &&& (255 : Int32))), vI (nar .char (p3 &&& (255 : Int32))), vI (nar .char (p4 &&& (255 : Int32))), vR b2, vR b3, vR x_5, vU] [] tgt
      refine XS.aload X5.here hx rfl (hb hby at_123) rfl rfl ?_
      exact kgo
    obtain ⟨cq6, kq6, q6a, q6b, q6c⟩ := isOf (s := (s.setVm T4.vm)) hZ4 rfl fq5_0
    obtain ⟨_, _, ⟨T6, L6, k6, n6⟩, -, X6, ⟨Lc6, hQ6, l6, y6, z6⟩, st6⟩ := X5.virtualBack hx (y := mN6) (z := mN6) ho4 (mvT hZ4 (own_w hw 81 rfl)) (mvT hZ4 (own_w hw 82 rfl)) (notFace_of_selects (args := #[]) (mvT hZ4 (own_w hw 84 rfl))) (mvT hZ4 (own_w hw 84 rfl)) (mvT hZ4 (own_w hw 83 rfl)) (by decide) (backOf (W := 0) (rm_status l Z a0 hw [] wG1 wO2 wP5 wG3 wO4 wrG3 hstr hl wG7 wO7 wG8 wO8 hEL T5.heap n0 Ol5 x_5 (401 : Int32) fq5_1) hZ4 (own_w hw 85 rfl) (own_w hw 24 rfl) (by decide) (by decide)) q6a q6c (g := (mkF m 125 #[vI p1, vI p2, vI p3, vI p4, vI (p1 &&& (3 : Int32)), vI (nar .char (p2 &&& (255 : Int32))), vI (nar .char (p3 &&& (255 : Int32))), vI (nar .char (p4 &&& (255 : Int32))), vR b2, vR b3, vR x_5, vU] [(.ref x_5)])) rfl (by rw [hml]; rfl) (Steps.refl _) (argsL := []) (rest := []) (lenOf pd_86913941 rfl) rfl (Nat.le_of_eq rfl) (hb hby at_125) (fun _ _ => ⟨rfl, rfl, (by decide : 8 + 0 ≤ _), (by decide : 2771 + 0 ≤ _)⟩)
    dsimp only [Pt.U, Pt.locs, Pt.cells, Pt.slots] at X6 l6 y6 z6 st6 hQ6
    subst l6 y6 z6
    obtain ⟨rfl, Nq6, eq6⟩ := hQ6
    refine OwnGoes.tr (T' := T6) (g' := (mkF m 128 #[vI p1, vI p2, vI p3, vI p4, vI (p1 &&& (3 : Int32)), vI (nar .char (p2 &&& (255 : Int32))), vI (nar .char (p3 &&& (255 : Int32))), vI (nar .char (p4 &&& (255 : Int32))), vR b2, vR b3, vR x_5, vU] [(.int 401)])) st6 ?_
    have N6 := Fr.app N5 Nq6
    refine og T6 m 138 #[vI p1, vI p2, vI p3, vI p4, vI (p1 &&& (3 : Int32)), vI (nar .char (p2 &&& (255 : Int32))), vI (nar .char (p3 &&& (255 : Int32))), vI (nar .char (p4 &&& (255 : Int32))), vR b2, vR b3, vR x_5, vU] [(.ref x_5)] (fun tgt kgo => ?_) ?_
    · refine XS.sipush X6.here hx rfl (hb hby at_128) ?_
      show OwnG p e below T6 m 131 #[vI p1, vI p2, vI p3, vI p4, vI (p1 &&& (3 : Int32)), vI (nar .char (p2 &&& (255 : Int32))), vI (nar .char (p3 &&& (255 : Int32))), vI (nar .char (p4 &&& (255 : Int32))), vR b2, vR b3, vR x_5, vU] [(.int 401), (.int 401)] tgt
      refine XS.icmpYes X6.here hx rfl (pc0 := 131) (pc' := 136) rfl (hb hby at_131) rfl (teq (by decide : (401 : Int32) = (401 : Int32))).1 (by decide) (by decide) ?_
      show OwnG p e below T6 m 136 #[vI p1, vI p2, vI p3, vI p4, vI (p1 &&& (3 : Int32)), vI (nar .char (p2 &&& (255 : Int32))), vI (nar .char (p3 &&& (255 : Int32))), vI (nar .char (p4 &&& (255 : Int32))), vR b2, vR b3, vR x_5, vU] [] tgt
      refine XS.aload X6.here hx rfl (hb hby at_136) rfl rfl ?_
      exact kgo
    obtain ⟨cq7, kq7, q7a, q7b, q7c⟩ := isOf (s := (s.setVm T4.vm)) hZ4 eq6 fq5_0
    obtain ⟨_, _, ⟨T7, L7, k7, n7⟩, -, X7, ⟨Lc7, hQ7, l7, y7, z7⟩, st7⟩ := X6.virtualBackUp hx (x := mN9) (y := mN7) (owner := "java/lang/Throwable") ho4 (mvT hZ4 (own_w hw 86 rfl)) (mvT hZ4 (own_w hw 87 rfl)) (mvT hZ4 (own_w hw 88 rfl)) (by decide) (mvT hZ4 (own_w hw 90 rfl)) (mvT hZ4 (own_w hw 89 rfl)) (backOf (W := 0) (rm_getMessage l Z a0 hw [] wG1 wO2 wP5 wG3 wO4 wrG3 hstr hl wG7 wO7 wG8 wO8 hEL T5.heap n0 Ol5 x_5 b3 fq5_2) hZ4 (own_w hw 91 rfl) (own_w hw 40 rfl) (by decide) (by decide)) q7a q7c (g := (mkF m 138 #[vI p1, vI p2, vI p3, vI p4, vI (p1 &&& (3 : Int32)), vI (nar .char (p2 &&& (255 : Int32))), vI (nar .char (p3 &&& (255 : Int32))), vI (nar .char (p4 &&& (255 : Int32))), vR b2, vR b3, vR x_5, vU] [(.ref x_5)])) rfl (by rw [hml]; rfl) (Steps.refl _) (argsL := []) (rest := []) (lenOf pd_24953479 rfl) rfl (Nat.le_of_eq rfl) (hb hby at_138) (fun _ _ => ⟨rfl, eq6, (by decide : 8 + 0 ≤ _), (by decide : 2771 + 0 ≤ _)⟩)
    dsimp only [Pt.U, Pt.locs, Pt.cells, Pt.slots] at X7 l7 y7 z7 st7 hQ7
    subst l7 y7 z7
    obtain ⟨rfl, Nq7, eq7⟩ := hQ7
    refine OwnGoes.tr (T' := T7) (g' := (mkF m 141 #[vI p1, vI p2, vI p3, vI p4, vI (p1 &&& (3 : Int32)), vI (nar .char (p2 &&& (255 : Int32))), vI (nar .char (p3 &&& (255 : Int32))), vI (nar .char (p4 &&& (255 : Int32))), vR b2, vR b3, vR x_5, vU] [(.ref b3)])) st7 ?_
    have N7 := Fr.app N6 Nq7
    refine og T7 m 154 #[vI p1, vI p2, vI p3, vI p4, vI (p1 &&& (3 : Int32)), vI (nar .char (p2 &&& (255 : Int32))), vI (nar .char (p3 &&& (255 : Int32))), vI (nar .char (p4 &&& (255 : Int32))), vR b2, vR b3, vR x_5, vR b3] [(.ref b3), (.ref b3)] (fun tgt kgo => ?_) ?_
    · refine XS.astore X7.here hx rfl (hb hby at_141) rfl rfl (l' := #[vI p1, vI p2, vI p3, vI p4, vI (p1 &&& (3 : Int32)), vI (nar .char (p2 &&& (255 : Int32))), vI (nar .char (p3 &&& (255 : Int32))), vI (nar .char (p4 &&& (255 : Int32))), vR b2, vR b3, vR x_5, vR b3]) rfl ?_
      show OwnG p e below T7 m 143 #[vI p1, vI p2, vI p3, vI p4, vI (p1 &&& (3 : Int32)), vI (nar .char (p2 &&& (255 : Int32))), vI (nar .char (p3 &&& (255 : Int32))), vI (nar .char (p4 &&& (255 : Int32))), vR b2, vR b3, vR x_5, vR b3] [] tgt
      refine XS.aload X7.here hx rfl (hb hby at_143) rfl rfl ?_
      show OwnG p e below T7 m 145 #[vI p1, vI p2, vI p3, vI p4, vI (p1 &&& (3 : Int32)), vI (nar .char (p2 &&& (255 : Int32))), vI (nar .char (p3 &&& (255 : Int32))), vI (nar .char (p4 &&& (255 : Int32))), vR b2, vR b3, vR x_5, vR b3] [(.ref b3)] tgt
      refine XS.ifnonnullYes X7.here hx rfl (pc0 := 145) (pc' := 150) rfl (hb hby at_145) rfl (by decide) (by decide) ?_
      show OwnG p e below T7 m 150 #[vI p1, vI p2, vI p3, vI p4, vI (p1 &&& (3 : Int32)), vI (nar .char (p2 &&& (255 : Int32))), vI (nar .char (p3 &&& (255 : Int32))), vI (nar .char (p4 &&& (255 : Int32))), vR b2, vR b3, vR x_5, vR b3] [] tgt
      refine XS.aload X7.here hx rfl (hb hby at_150) rfl rfl ?_
      show OwnG p e below T7 m 152 #[vI p1, vI p2, vI p3, vI p4, vI (p1 &&& (3 : Int32)), vI (nar .char (p2 &&& (255 : Int32))), vI (nar .char (p3 &&& (255 : Int32))), vI (nar .char (p4 &&& (255 : Int32))), vR b2, vR b3, vR x_5, vR b3] [(.ref b3)] tgt
      refine XS.aload X7.here hx rfl (hb hby at_152) rfl rfl ?_
      exact kgo
    obtain ⟨cq8, kq8, q8a, q8b, q8c⟩ := isOf (s := (s.setVm T4.vm)) hZ4 eq7 F5_12
    obtain ⟨_, _, ⟨T8, L8, k8, n8⟩, -, X8, ⟨Lc8, hQ8, l8, y8, z8⟩, st8⟩ := X7.virtualBack hx (y := mN8) (z := mN8) ho4 (mvT hZ4 (own_w hw 92 rfl)) (mvT hZ4 (own_w hw 93 rfl)) (notFace_of_selects (args := #[]) (mvT hZ4 (own_w hw 95 rfl))) (mvT hZ4 (own_w hw 95 rfl)) (mvT hZ4 (own_w hw 94 rfl)) (by decide) (backOf (W := 0) (rm_eqsame l Z a0 hw [] wG1 wO2 wP5 wG3 wO4 wrG3 hstr hl wG7 wO7 wG8 wO8 hEL T5.heap n0 Ol5 b3) hZ4 (own_w hw 96 rfl) (own_w hw 3 rfl) (by decide) (by decide)) q8a q8c (g := (mkF m 154 #[vI p1, vI p2, vI p3, vI p4, vI (p1 &&& (3 : Int32)), vI (nar .char (p2 &&& (255 : Int32))), vI (nar .char (p3 &&& (255 : Int32))), vI (nar .char (p4 &&& (255 : Int32))), vR b2, vR b3, vR x_5, vR b3] [(.ref b3), (.ref b3)])) rfl (by rw [hml]; rfl) (Steps.refl _) (argsL := [(.ref b3)]) (rest := []) (lenOf pd_81697300 rfl) rfl (Nat.le_of_eq rfl) (hb hby at_154) (fun _ _ => ⟨rfl, eq7, (by decide : 8 + 0 ≤ _), (by decide : 2771 + 0 ≤ _)⟩)
    dsimp only [Pt.U, Pt.locs, Pt.cells, Pt.slots] at X8 l8 y8 z8 st8 hQ8
    subst l8 y8 z8
    obtain ⟨rfl, Nq8, eq8⟩ := hQ8
    refine OwnGoes.tr (T' := T8) (g' := (mkF m 157 #[vI p1, vI p2, vI p3, vI p4, vI (p1 &&& (3 : Int32)), vI (nar .char (p2 &&& (255 : Int32))), vI (nar .char (p3 &&& (255 : Int32))), vI (nar .char (p4 &&& (255 : Int32))), vR b2, vR b3, vR x_5, vR b3] [(.int 1)])) st8 ?_
    have N8 := Fr.app N7 Nq8
    refine own_leaveW (Z := Z) (EL := consts_1) X8 hS4 (eq8 ▸ hk5) hlk (v := some (.int 1)) (fun h => by rw [Bd.returns] at h; cases h) (fun fs hr => retN X8 hx (t := .boolean) Bd.returns (by simp) (hb hby at_157) (by rw [(by decide : nar .boolean (1 : Int32) = (1 : Int32))]; exact hr)) (by decide) (by decide) ?_ ?_
    · rw [hh, eq8]
      exact R5.trans (CHv.at X8 hZ4 hEL R5.1)
    show Q_law Z p1 p2 p3 p4 h0 n0 _ T8.heap _
    rw [eq8]
    exact ⟨rfl, N8⟩
  refine og s₁ m 45 #[vI p1, vI p2, vI p3, vI p4, vI (p1 &&& (3 : Int32)), vI (nar .char (p2 &&& (255 : Int32))), vI (nar .char (p3 &&& (255 : Int32))), vI (nar .char (p4 &&& (255 : Int32))), vU, vU, vU, vU] [(.int 1), (.int (p1 &&& (3 : Int32)))] (fun tgt kgo => ?_) ?_
  · refine XS.ifYes X0.here hx rfl (pc0 := 31) (pc' := 42) rfl (hb hby at_31) rfl ((if0 _ _).trans (feq cc1).2) (by decide) (by decide) ?_
    show OwnG p e below s₁ m 42 #[vI p1, vI p2, vI p3, vI p4, vI (p1 &&& (3 : Int32)), vI (nar .char (p2 &&& (255 : Int32))), vI (nar .char (p3 &&& (255 : Int32))), vI (nar .char (p4 &&& (255 : Int32))), vU, vU, vU, vU] [] tgt
    refine XS.iload X0.here hx rfl (hb hby at_42) rfl ?_
    show OwnG p e below s₁ m 44 #[vI p1, vI p2, vI p3, vI p4, vI (p1 &&& (3 : Int32)), vI (nar .char (p2 &&& (255 : Int32))), vI (nar .char (p3 &&& (255 : Int32))), vI (nar .char (p4 &&& (255 : Int32))), vU, vU, vU, vU] [(.int (p1 &&& (3 : Int32)))] tgt
    refine XS.iconst X0.here hx rfl (hb hby at_44) ?_
    exact kgo
  by_cases cc10 : (p1 &&& (3 : Int32)) = (1 : Int32)
  · skip
    refine og s₁ m 49 #[vI p1, vI p2, vI p3, vI p4, vI (p1 &&& (3 : Int32)), vI (nar .char (p2 &&& (255 : Int32))), vI (nar .char (p3 &&& (255 : Int32))), vI (nar .char (p4 &&& (255 : Int32))), vU, vU, vU, vU] [(.int 1)] (fun tgt kgo => ?_) ?_
    · refine XS.icmpNo X0.here hx rfl (hb hby at_45) rfl (teq cc10).2 ?_
      show OwnG p e below s₁ m 48 #[vI p1, vI p2, vI p3, vI p4, vI (p1 &&& (3 : Int32)), vI (nar .char (p2 &&& (255 : Int32))), vI (nar .char (p3 &&& (255 : Int32))), vI (nar .char (p4 &&& (255 : Int32))), vU, vU, vU, vU] [] tgt
      refine XS.iconst X0.here hx rfl (hb hby at_48) ?_
      exact kgo
    obtain ⟨T11, h11, k11, X11, e11, E11, A11, st11⟩ := newP X0 hx hZ (own_w hw 0 rfl) e0 (g := (mkF m 49 #[vI p1, vI p2, vI p3, vI p4, vI (p1 &&& (3 : Int32)), vI (nar .char (p2 &&& (255 : Int32))), vI (nar .char (p3 &&& (255 : Int32))), vI (nar .char (p4 &&& (255 : Int32))), vU, vU, vU, vU] [(.int 1)])) rfl (hb hby at_49) rfl (by decide) (cap := 1) (by decide) (by decide) (by decide) (by decide)
    obtain ⟨b11, g11⟩ : ∃ z, z = h0.size := ⟨_, rfl⟩
    rw [← g11] at A11 st11
    refine og T11 m 51 #[vI p1, vI p2, vI p3, vI p4, vI (p1 &&& (3 : Int32)), vI (nar .char (p2 &&& (255 : Int32))), vI (nar .char (p3 &&& (255 : Int32))), vI (nar .char (p4 &&& (255 : Int32))), vU, vU, vU, vU] [(.ref b11)] st11 ?_
    have V11 : Arv Z h11 b11 k11 .char (1 : Int32) [(.int 0)] (.int 0) := (Arv.new A11 (by decide)).pad (pad_rep [] (.int 0) 1)
    have g_b11 : n0 ≤ b11 := Nat.le_trans (Nat.le_trans Z0 K0.1) (Nat.le_of_eq g11.symm)
    have s_b11 : h0.size ≤ b11 := Nat.le_trans K0.1 (Nat.le_of_eq g11.symm)
    have Sf11 : Safe Z consts_1 s.vm h11 b11 := Safe.ext E11 R0.1 (Safe.new (Nat.le_of_eq g11.symm))
    have Ol11 := X00.ext E11
    have K11 : Keep h0 h11 ([] : List Addr) := K0.ext E11
    have R11 := R0.trans (CHr.ext E11 R0.1)
    have hk11 := Nat.le_trans hk0 E11.1
    refine og T11 m 55 #[vI p1, vI p2, vI p3, vI p4, vI (p1 &&& (3 : Int32)), vI (nar .char (p2 &&& (255 : Int32))), vI (nar .char (p3 &&& (255 : Int32))), vI (nar .char (p4 &&& (255 : Int32))), vU, vU, vU, vU] [(.int (nar .char (p2 &&& (255 : Int32)))), (.int 0), (.ref b11), (.ref b11)] (fun tgt kgo => ?_) ?_
    · refine XS.dup X11.here hx rfl (hb hby at_51) rfl rfl ?_
      show OwnG p e below T11 m 52 #[vI p1, vI p2, vI p3, vI p4, vI (p1 &&& (3 : Int32)), vI (nar .char (p2 &&& (255 : Int32))), vI (nar .char (p3 &&& (255 : Int32))), vI (nar .char (p4 &&& (255 : Int32))), vU, vU, vU, vU] [(.ref b11), (.ref b11)] tgt
      refine XS.iconst X11.here hx rfl (hb hby at_52) ?_
      show OwnG p e below T11 m 53 #[vI p1, vI p2, vI p3, vI p4, vI (p1 &&& (3 : Int32)), vI (nar .char (p2 &&& (255 : Int32))), vI (nar .char (p3 &&& (255 : Int32))), vI (nar .char (p4 &&& (255 : Int32))), vU, vU, vU, vU] [(.int 0), (.ref b11), (.ref b11)] tgt
      refine XS.iload X11.here hx rfl (hb hby at_53) rfl ?_
      exact kgo
    obtain ⟨cl12, Ar12, q12, S12, M12, H12, G12⟩ := id V11
    obtain ⟨T12, h12, X12, e12, W12, st12⟩ := stC X11 hx hZ e11 Ar12 (j := (0 : Int32)) (inb_of S12 ⟨by decide, by decide⟩) (g := (mkF m 55 #[vI p1, vI p2, vI p3, vI p4, vI (p1 &&& (3 : Int32)), vI (nar .char (p2 &&& (255 : Int32))), vI (nar .char (p3 &&& (255 : Int32))), vI (nar .char (p4 &&& (255 : Int32))), vU, vU, vU, vU] [(.int (nar .char (p2 &&& (255 : Int32)))), (.int 0), (.ref b11), (.ref b11)])) rfl rfl (hb hby at_55)
    refine og T12 m 56 #[vI p1, vI p2, vI p3, vI p4, vI (p1 &&& (3 : Int32)), vI (nar .char (p2 &&& (255 : Int32))), vI (nar .char (p3 &&& (255 : Int32))), vI (nar .char (p4 &&& (255 : Int32))), vU, vU, vU, vU] [(.ref b11)] st12 ?_
    have V12 : Arv Z h12 b11 k11 .char (1 : Int32) [(.int (nar .char (nar .char (p2 &&& (255 : Int32)))))] (.int 0) := Arv.set Ar12 q12 S12 M12 H12 G12 (fits_nar_char _) W12 0 rfl (Nat.le_of_ble_eq_true rfl)
    rw [own_nar2_char] at V12
    have V12' : Arv Z h12 b11 k11 .char (1 : Int32) [(.int (nar .char (p2 &&& (255 : Int32))))] (.int 0) := V12
    have F12_16 := Safe.wr W12 Sf11 R11.1 Sf11
    have Ol12 := Ol11.wr W12 g_b11
    have K12 : Keep h0 h12 ([] : List Addr) := K11.wr W12 (Or.inr s_b11)
    have R12 := R11.trans (CHr.wr W12 Sf11 R11.1)
    have hk12 := Nat.le_trans hk11 (Keep.of_wr W12).1
    have N12 := Fr.snoc X12 N0 g_b11
    refine og T12 m 105 #[vI p1, vI p2, vI p3, vI p4, vI (p1 &&& (3 : Int32)), vI (nar .char (p2 &&& (255 : Int32))), vI (nar .char (p3 &&& (255 : Int32))), vI (nar .char (p4 &&& (255 : Int32))), vR b11, vU, vU, vU] [] (fun tgt kgo => ?_) ?_
    · refine XS.astore X12.here hx rfl (hb hby at_56) rfl rfl (l' := #[vI p1, vI p2, vI p3, vI p4, vI (p1 &&& (3 : Int32)), vI (nar .char (p2 &&& (255 : Int32))), vI (nar .char (p3 &&& (255 : Int32))), vI (nar .char (p4 &&& (255 : Int32))), vR b11, vU, vU, vU]) rfl ?_
      show OwnG p e below T12 m 58 #[vI p1, vI p2, vI p3, vI p4, vI (p1 &&& (3 : Int32)), vI (nar .char (p2 &&& (255 : Int32))), vI (nar .char (p3 &&& (255 : Int32))), vI (nar .char (p4 &&& (255 : Int32))), vR b11, vU, vU, vU] [] tgt
      refine XS.goto X12.here hx rfl (pc0 := 58) (pc' := 105) rfl (hb hby at_58) (by decide) (by decide) ?_
      exact kgo
    obtain ⟨T13, h13, X13, e13, E13, A13, D13, U13, st13⟩ := newO X12 hx hZ hown (own_w hw 1 rfl) (own_w hw 2 rfl) (own_w hw 3 rfl) e12 (g := (mkF m 105 #[vI p1, vI p2, vI p3, vI p4, vI (p1 &&& (3 : Int32)), vI (nar .char (p2 &&& (255 : Int32))), vI (nar .char (p3 &&& (255 : Int32))), vI (nar .char (p4 &&& (255 : Int32))), vR b11, vU, vU, vU] [])) rfl (hb hby at_105) (by decide) (by decide)
    obtain ⟨b13, g13⟩ : ∃ z, z = h12.size := ⟨_, rfl⟩
    rw [← g13] at A13 D13 U13 st13
    refine og T13 m 108 #[vI p1, vI p2, vI p3, vI p4, vI (p1 &&& (3 : Int32)), vI (nar .char (p2 &&& (255 : Int32))), vI (nar .char (p3 &&& (255 : Int32))), vI (nar .char (p4 &&& (255 : Int32))), vR b11, vU, vU, vU] [(.ref b13)] st13 ?_
    have ne_b11_b13 : b11 ≠ b13 := Nat.ne_of_lt (Nat.lt_of_lt_of_le V12'.lt (Nat.le_of_eq g13.symm))
    have g_b13 : n0 ≤ b13 := Nat.le_trans (Nat.le_trans Z0 K12.1) (Nat.le_of_eq g13.symm)
    have s_b13 : h0.size ≤ b13 := Nat.le_trans K12.1 (Nat.le_of_eq g13.symm)
    have Sf13 : Safe Z consts_1 s.vm h13 b13 := Safe.ext E13 R12.1 (Safe.new (Nat.le_of_eq g13.symm))
    have F13_17 := Safe.ext E13 R12.1 F12_16
    have F13_18 := V12'.ext E13
    have Ol13 := Ol12.ext E13
    have K13 : Keep h0 h13 ([] : List Addr) := K12.ext E13
    have R13 := R12.trans (CHr.ext E13 R12.1)
    have hk13 := Nat.le_trans hk12 E13.1
    have F13_19 : Fld Z h13 b13 "java/lang/String" "value" "[B" .null := D13 (Or.inr (own_w hw 16 rfl)) (ty := (.array .byte)) (by decide)
    have F13_20 : Fld Z h13 b13 "java/lang/String" "coder" "B" (.int 0) := D13 (Or.inr (own_w hw 17 rfl)) (ty := .byte) (by decide)
    refine og T13 m 111 #[vI p1, vI p2, vI p3, vI p4, vI (p1 &&& (3 : Int32)), vI (nar .char (p2 &&& (255 : Int32))), vI (nar .char (p3 &&& (255 : Int32))), vI (nar .char (p4 &&& (255 : Int32))), vR b11, vU, vU, vU] [(.ref b11), (.ref b13), (.ref b13)] (fun tgt kgo => ?_) ?_
    · refine XS.dup X13.here hx rfl (hb hby at_108) rfl rfl ?_
      show OwnG p e below T13 m 109 #[vI p1, vI p2, vI p3, vI p4, vI (p1 &&& (3 : Int32)), vI (nar .char (p2 &&& (255 : Int32))), vI (nar .char (p3 &&& (255 : Int32))), vI (nar .char (p4 &&& (255 : Int32))), vR b11, vU, vU, vU] [(.ref b13), (.ref b13)] tgt
      refine XS.aload X13.here hx rfl (hb hby at_109) rfl rfl ?_
      exact kgo
    have hp15 : ∀ c ∈ ([(nar .char (p2 &&& (255 : Int32)))] : List Int32), ¬ c < 0 ∧ ¬ (255 : Int32) < c := (own_memS (own_lat255 p2) own_mem0)
    have V15c : Arv Z h13 b11 k11 .char (1 : Int32) (([(nar .char (p2 &&& (255 : Int32)))] : List Int32).map Value.int) (.int 0) := F13_18
    obtain ⟨_, _, ⟨T14, L14, k14, n14⟩, -, X14, ⟨Lc14, hQ14, l14, y14, z14⟩, st14⟩ := X13.specialBack hx (y := mN1) rfl hown (mvT hZ (own_w hw 4 rfl)) (mvT hZ (own_w hw 5 rfl)) (mvT hZ (own_w hw 6 rfl)) (by decide) (StrChars.Road.backV (W := 1) hZ (fun d hd => hw d (own_hws d hd)) (kI := 4) (own_w hw 2 rfl) (cs := ([(nar .char (p2 &&& (255 : Int32)))] : List Int32)) (bs := ([(nar .char (p2 &&& (255 : Int32)))] : List Int32).map (fun c => c.toInt8.toInt32)) (n := 1) g_b13 (Nat.le_trans Z0 K13.1) A13 F13_19 F13_20 V15c (wO2.ext Ol13.2) wP5 rfl rfl (by decide) (by decide) hp15 rfl (by decide) (by decide)) (g := (mkF m 111 #[vI p1, vI p2, vI p3, vI p4, vI (p1 &&& (3 : Int32)), vI (nar .char (p2 &&& (255 : Int32))), vI (nar .char (p3 &&& (255 : Int32))), vI (nar .char (p4 &&& (255 : Int32))), vR b11, vU, vU, vU] [(.ref b11), (.ref b13), (.ref b13)])) rfl (by rw [hml]; rfl) (Steps.refl _) (a := b13) (argsL := [(.ref b11)]) (rest := [(.ref b13)]) (lenOf pd_68446664 rfl) rfl (Nat.le_of_eq rfl) (hb hby at_111) (fun _ _ => ⟨rfl, e13, (by decide : 2 + 1 ≤ _), (by decide : 5 + 1 ≤ _)⟩)
    dsimp only [Pt.U, Pt.locs, Pt.cells, Pt.slots] at X14 l14 y14 z14 st14 hQ14
    subst l14 y14 z14
    obtain ⟨rfl, Nq14, Kq14, fe14, fc14, t14, kb14, ut14, vt14, wt14, fv14, fa14⟩ := hQ14
    refine OwnGoes.tr (T' := T14) (g' := (mkF m 114 #[vI p1, vI p2, vI p3, vI p4, vI (p1 &&& (3 : Int32)), vI (nar .char (p2 &&& (255 : Int32))), vI (nar .char (p3 &&& (255 : Int32))), vI (nar .char (p4 &&& (255 : Int32))), vR b11, vU, vU, vU] [(.ref b13)])) st14 ?_
    have N14 := Fr.app N12 Nq14
    have ne_b11_t14 : b11 ≠ t14 := Nat.ne_of_lt (Nat.lt_of_lt_of_le F13_18.lt vt14)
    have ne_b13_t14 : b13 ≠ t14 := Nat.ne_of_lt (Nat.lt_of_lt_of_le A13.lt vt14)
    have g_t14 : n0 ≤ t14 := Nat.le_trans (Nat.le_trans Z0 K13.1) vt14
    have s_t14 : h0.size ≤ t14 := Nat.le_trans K13.1 vt14
    have Sf14 : Safe Z consts_1 s.vm T14.heap t14 := Safe.keep Kq14 (sfS Sf13 sf0) R13.1 (Safe.new vt14)
    have F14_21 := Safe.keep Kq14 (sfS Sf13 sf0) R13.1 F13_17
    have F14_22 := F13_18.keep Kq14 (ninS ne_b11_b13 nin0)
    have F14_23 := Safe.keep Kq14 (sfS Sf13 sf0) R13.1 Sf13
    have F14_24 := A13.keep Kq14
    have Ol14 := Ol13.keep Kq14 (allS g_b13 all0)
    have K14 : Keep h0 T14.heap ([] : List Addr) := K13.trans Kq14 (allS (Or.inr s_b13) all0)
    have R14 := R13.trans (CHr.keep Kq14 (sfS Sf13 sf0) R13.1)
    have hk14 := Nat.le_trans hk13 Kq14.1
    refine og T14 m 118 #[vI p1, vI p2, vI p3, vI p4, vI (p1 &&& (3 : Int32)), vI (nar .char (p2 &&& (255 : Int32))), vI (nar .char (p3 &&& (255 : Int32))), vI (nar .char (p4 &&& (255 : Int32))), vR b11, vR b13, vU, vU] [(.ref b13)] (fun tgt kgo => ?_) ?_
    · refine XS.astore X14.here hx rfl (hb hby at_114) rfl rfl (l' := #[vI p1, vI p2, vI p3, vI p4, vI (p1 &&& (3 : Int32)), vI (nar .char (p2 &&& (255 : Int32))), vI (nar .char (p3 &&& (255 : Int32))), vI (nar .char (p4 &&& (255 : Int32))), vR b11, vR b13, vU, vU]) rfl ?_
      show OwnG p e below T14 m 116 #[vI p1, vI p2, vI p3, vI p4, vI (p1 &&& (3 : Int32)), vI (nar .char (p2 &&& (255 : Int32))), vI (nar .char (p3 &&& (255 : Int32))), vI (nar .char (p4 &&& (255 : Int32))), vR b11, vR b13, vU, vU] [] tgt
      refine XS.aload X14.here hx rfl (hb hby at_116) rfl rfl ?_
      exact kgo
    obtain ⟨_, _, ⟨T16, L16, k16, n16⟩, -, X16, ⟨Lc16, hQ16, l16, y16, z16⟩, st16⟩ := Jvm.LawKit.callS X14 hx (y := mN5) hown (mvT hZ (own_w hw 22 rfl)) (mvT hZ (own_w hw 23 rfl)) (mvT hZ (own_w hw 24 rfl)) (mvT hZ (own_w hw 25 rfl)) (by decide) (backOfKL (W := 0) (rm_refused l Z a0 hw [] wG1 wO2 wP5 wG3 wO4 wrG3 hstr hl wG7 wO7 wG8 wO8 hEL T14.heap n0 Ol14 b13) hZ (own_w hw 25 rfl) (own_w hw 24 rfl) (by decide) (by decide) (own_mk (s := s) hS0 hK.1) (own_fk (s := s) hS0 hK.2)) (g := (mkF m 118 #[vI p1, vI p2, vI p3, vI p4, vI (p1 &&& (3 : Int32)), vI (nar .char (p2 &&& (255 : Int32))), vI (nar .char (p3 &&& (255 : Int32))), vI (nar .char (p4 &&& (255 : Int32))), vR b11, vR b13, vU, vU] [(.ref b13)])) rfl (by rw [hml]; rfl) (argsL := [(.ref b13)]) (rest := []) (lenOf pd_77505385 rfl) rfl (Nat.le_of_eq rfl) (hb hby at_118) (fun _ _ => ⟨rfl, rfl, (by decide : 3 + 2 ≤ _), (by decide : 6 + 2759 ≤ _)⟩)
    dsimp only [Pt.U, Pt.locs, Pt.cells, Pt.slots] at X16 l16 y16 z16 st16 hQ16
    subst l16 y16 z16
    obtain ⟨x_16, rfl, Nq16, Kq16, zq16_0, fq16_0, fq16_1, fq16_2⟩ := hQ16
    refine og T16 m 121 #[vI p1, vI p2, vI p3, vI p4, vI (p1 &&& (3 : Int32)), vI (nar .char (p2 &&& (255 : Int32))), vI (nar .char (p3 &&& (255 : Int32))), vI (nar .char (p4 &&& (255 : Int32))), vR b11, vR b13, vU, vU] [(.ref x_16)] st16 ?_
    have N16 := Fr.app N14 Nq16
    have ne_b11_x_16 : b11 ≠ x_16 := Nat.ne_of_lt (Nat.lt_of_lt_of_le F14_22.lt zq16_0)
    have ne_b13_x_16 : b13 ≠ x_16 := Nat.ne_of_lt (Nat.lt_of_lt_of_le fe14.lt zq16_0)
    have ne_t14_x_16 : t14 ≠ x_16 := Nat.ne_of_lt (Nat.lt_of_lt_of_le fa14.lt zq16_0)
    have g_x_16 : n0 ≤ x_16 := Nat.le_trans (Nat.le_trans Z0 K14.1) zq16_0
    have s_x_16 : h0.size ≤ x_16 := Nat.le_trans K14.1 zq16_0
    have Sn16_0 : Safe Z consts_1 s.vm T16.heap x_16 := Safe.keep Kq16 sf0 R14.1 (Safe.new zq16_0)
    have F16_25 := Safe.keep Kq16 sf0 R14.1 F14_21
    have F16_26 := F14_22.keep Kq16 nin0
    have F16_27 := Safe.keep Kq16 sf0 R14.1 F14_23
    have F16_28 := fe14.keep Kq16
    have F16_29 := Safe.keep Kq16 sf0 R14.1 Sf14
    have F16_30 := fc14.keep Kq16 nin0
    have F16_31 := fv14.keep Kq16 nin0
    have F16_32 := fa14.keep Kq16 nin0
    have Ol16 := Ol14.keep Kq16 all0
    have K16 : Keep h0 T16.heap ([] : List Addr) := K14.trans Kq16 all0
    have R16 := R14.trans (CHr.keep Kq16 sf0 R14.1)
    have hk16 := Nat.le_trans hk14 Kq16.1
    refine og T16 m 125 #[vI p1, vI p2, vI p3, vI p4, vI (p1 &&& (3 : Int32)), vI (nar .char (p2 &&& (255 : Int32))), vI (nar .char (p3 &&& (255 : Int32))), vI (nar .char (p4 &&& (255 : Int32))), vR b11, vR b13, vR x_16, vU] [(.ref x_16)] (fun tgt kgo => ?_) ?_
    · refine XS.astore X16.here hx rfl (hb hby at_121) rfl rfl (l' := #[vI p1, vI p2, vI p3, vI p4, vI (p1 &&& (3 : Int32)), vI (nar .char (p2 &&& (255 : Int32))), vI (nar .char (p3 &&& (255 : Int32))), vI (nar .char (p4 &&& (255 : Int32))), vR b11, vR b13, vR x_16, vU]) rfl ?_
      show OwnG p e below T16 m 123 #[vI p1, vI p2, vI p3, vI p4, vI (p1 &&& (3 : Int32)), vI (nar .char (p2 &&& (255 : Int32))), vI (nar .char (p3 &&& (255 : Int32))), vI (nar .char (p4 &&& (255 : Int32))), vR b11, vR b13, vR x_16, vU] [] tgt
      refine XS.aload X16.here hx rfl (hb hby at_123) rfl rfl ?_
      exact kgo
    obtain ⟨cq17, kq17, q17a, q17b, q17c⟩ := isOf (s := (s.setVm s.vm)) hZ rfl fq16_0
    obtain ⟨_, _, ⟨T17, L17, k17, n17⟩, -, X17, ⟨Lc17, hQ17, l17, y17, z17⟩, st17⟩ := X16.virtualBack hx (y := mN6) (z := mN6) hown (mvT hZ (own_w hw 81 rfl)) (mvT hZ (own_w hw 82 rfl)) (notFace_of_selects (args := #[]) (mvT hZ (own_w hw 84 rfl))) (mvT hZ (own_w hw 84 rfl)) (mvT hZ (own_w hw 83 rfl)) (by decide) (backOf (W := 0) (rm_status l Z a0 hw [] wG1 wO2 wP5 wG3 wO4 wrG3 hstr hl wG7 wO7 wG8 wO8 hEL T16.heap n0 Ol16 x_16 (401 : Int32) fq16_1) hZ (own_w hw 85 rfl) (own_w hw 24 rfl) (by decide) (by decide)) q17a q17c (g := (mkF m 125 #[vI p1, vI p2, vI p3, vI p4, vI (p1 &&& (3 : Int32)), vI (nar .char (p2 &&& (255 : Int32))), vI (nar .char (p3 &&& (255 : Int32))), vI (nar .char (p4 &&& (255 : Int32))), vR b11, vR b13, vR x_16, vU] [(.ref x_16)])) rfl (by rw [hml]; rfl) (Steps.refl _) (argsL := []) (rest := []) (lenOf pd_86913941 rfl) rfl (Nat.le_of_eq rfl) (hb hby at_125) (fun _ _ => ⟨rfl, rfl, (by decide : 5 + 0 ≤ _), (by decide : 2765 + 0 ≤ _)⟩)
    dsimp only [Pt.U, Pt.locs, Pt.cells, Pt.slots] at X17 l17 y17 z17 st17 hQ17
    subst l17 y17 z17
    obtain ⟨rfl, Nq17, eq17⟩ := hQ17
    refine OwnGoes.tr (T' := T17) (g' := (mkF m 128 #[vI p1, vI p2, vI p3, vI p4, vI (p1 &&& (3 : Int32)), vI (nar .char (p2 &&& (255 : Int32))), vI (nar .char (p3 &&& (255 : Int32))), vI (nar .char (p4 &&& (255 : Int32))), vR b11, vR b13, vR x_16, vU] [(.int 401)])) st17 ?_
    have N17 := Fr.app N16 Nq17
    refine og T17 m 138 #[vI p1, vI p2, vI p3, vI p4, vI (p1 &&& (3 : Int32)), vI (nar .char (p2 &&& (255 : Int32))), vI (nar .char (p3 &&& (255 : Int32))), vI (nar .char (p4 &&& (255 : Int32))), vR b11, vR b13, vR x_16, vU] [(.ref x_16)] (fun tgt kgo => ?_) ?_
    · refine XS.sipush X17.here hx rfl (hb hby at_128) ?_
      show OwnG p e below T17 m 131 #[vI p1, vI p2, vI p3, vI p4, vI (p1 &&& (3 : Int32)), vI (nar .char (p2 &&& (255 : Int32))), vI (nar .char (p3 &&& (255 : Int32))), vI (nar .char (p4 &&& (255 : Int32))), vR b11, vR b13, vR x_16, vU] [(.int 401), (.int 401)] tgt
      refine XS.icmpYes X17.here hx rfl (pc0 := 131) (pc' := 136) rfl (hb hby at_131) rfl (teq (by decide : (401 : Int32) = (401 : Int32))).1 (by decide) (by decide) ?_
      show OwnG p e below T17 m 136 #[vI p1, vI p2, vI p3, vI p4, vI (p1 &&& (3 : Int32)), vI (nar .char (p2 &&& (255 : Int32))), vI (nar .char (p3 &&& (255 : Int32))), vI (nar .char (p4 &&& (255 : Int32))), vR b11, vR b13, vR x_16, vU] [] tgt
      refine XS.aload X17.here hx rfl (hb hby at_136) rfl rfl ?_
      exact kgo
    obtain ⟨cq18, kq18, q18a, q18b, q18c⟩ := isOf (s := (s.setVm s.vm)) hZ eq17 fq16_0
    obtain ⟨_, _, ⟨T18, L18, k18, n18⟩, -, X18, ⟨Lc18, hQ18, l18, y18, z18⟩, st18⟩ := X17.virtualBackUp hx (x := mN9) (y := mN7) (owner := "java/lang/Throwable") hown (mvT hZ (own_w hw 86 rfl)) (mvT hZ (own_w hw 87 rfl)) (mvT hZ (own_w hw 88 rfl)) (by decide) (mvT hZ (own_w hw 90 rfl)) (mvT hZ (own_w hw 89 rfl)) (backOf (W := 0) (rm_getMessage l Z a0 hw [] wG1 wO2 wP5 wG3 wO4 wrG3 hstr hl wG7 wO7 wG8 wO8 hEL T16.heap n0 Ol16 x_16 b13 fq16_2) hZ (own_w hw 91 rfl) (own_w hw 40 rfl) (by decide) (by decide)) q18a q18c (g := (mkF m 138 #[vI p1, vI p2, vI p3, vI p4, vI (p1 &&& (3 : Int32)), vI (nar .char (p2 &&& (255 : Int32))), vI (nar .char (p3 &&& (255 : Int32))), vI (nar .char (p4 &&& (255 : Int32))), vR b11, vR b13, vR x_16, vU] [(.ref x_16)])) rfl (by rw [hml]; rfl) (Steps.refl _) (argsL := []) (rest := []) (lenOf pd_24953479 rfl) rfl (Nat.le_of_eq rfl) (hb hby at_138) (fun _ _ => ⟨rfl, eq17, (by decide : 5 + 0 ≤ _), (by decide : 2765 + 0 ≤ _)⟩)
    dsimp only [Pt.U, Pt.locs, Pt.cells, Pt.slots] at X18 l18 y18 z18 st18 hQ18
    subst l18 y18 z18
    obtain ⟨rfl, Nq18, eq18⟩ := hQ18
    refine OwnGoes.tr (T' := T18) (g' := (mkF m 141 #[vI p1, vI p2, vI p3, vI p4, vI (p1 &&& (3 : Int32)), vI (nar .char (p2 &&& (255 : Int32))), vI (nar .char (p3 &&& (255 : Int32))), vI (nar .char (p4 &&& (255 : Int32))), vR b11, vR b13, vR x_16, vU] [(.ref b13)])) st18 ?_
    have N18 := Fr.app N17 Nq18
    refine og T18 m 154 #[vI p1, vI p2, vI p3, vI p4, vI (p1 &&& (3 : Int32)), vI (nar .char (p2 &&& (255 : Int32))), vI (nar .char (p3 &&& (255 : Int32))), vI (nar .char (p4 &&& (255 : Int32))), vR b11, vR b13, vR x_16, vR b13] [(.ref b13), (.ref b13)] (fun tgt kgo => ?_) ?_
    · refine XS.astore X18.here hx rfl (hb hby at_141) rfl rfl (l' := #[vI p1, vI p2, vI p3, vI p4, vI (p1 &&& (3 : Int32)), vI (nar .char (p2 &&& (255 : Int32))), vI (nar .char (p3 &&& (255 : Int32))), vI (nar .char (p4 &&& (255 : Int32))), vR b11, vR b13, vR x_16, vR b13]) rfl ?_
      show OwnG p e below T18 m 143 #[vI p1, vI p2, vI p3, vI p4, vI (p1 &&& (3 : Int32)), vI (nar .char (p2 &&& (255 : Int32))), vI (nar .char (p3 &&& (255 : Int32))), vI (nar .char (p4 &&& (255 : Int32))), vR b11, vR b13, vR x_16, vR b13] [] tgt
      refine XS.aload X18.here hx rfl (hb hby at_143) rfl rfl ?_
      show OwnG p e below T18 m 145 #[vI p1, vI p2, vI p3, vI p4, vI (p1 &&& (3 : Int32)), vI (nar .char (p2 &&& (255 : Int32))), vI (nar .char (p3 &&& (255 : Int32))), vI (nar .char (p4 &&& (255 : Int32))), vR b11, vR b13, vR x_16, vR b13] [(.ref b13)] tgt
      refine XS.ifnonnullYes X18.here hx rfl (pc0 := 145) (pc' := 150) rfl (hb hby at_145) rfl (by decide) (by decide) ?_
      show OwnG p e below T18 m 150 #[vI p1, vI p2, vI p3, vI p4, vI (p1 &&& (3 : Int32)), vI (nar .char (p2 &&& (255 : Int32))), vI (nar .char (p3 &&& (255 : Int32))), vI (nar .char (p4 &&& (255 : Int32))), vR b11, vR b13, vR x_16, vR b13] [] tgt
      refine XS.aload X18.here hx rfl (hb hby at_150) rfl rfl ?_
      show OwnG p e below T18 m 152 #[vI p1, vI p2, vI p3, vI p4, vI (p1 &&& (3 : Int32)), vI (nar .char (p2 &&& (255 : Int32))), vI (nar .char (p3 &&& (255 : Int32))), vI (nar .char (p4 &&& (255 : Int32))), vR b11, vR b13, vR x_16, vR b13] [(.ref b13)] tgt
      refine XS.aload X18.here hx rfl (hb hby at_152) rfl rfl ?_
      exact kgo
    obtain ⟨cq19, kq19, q19a, q19b, q19c⟩ := isOf (s := (s.setVm s.vm)) hZ eq18 F16_28
    obtain ⟨_, _, ⟨T19, L19, k19, n19⟩, -, X19, ⟨Lc19, hQ19, l19, y19, z19⟩, st19⟩ := X18.virtualBack hx (y := mN8) (z := mN8) hown (mvT hZ (own_w hw 92 rfl)) (mvT hZ (own_w hw 93 rfl)) (notFace_of_selects (args := #[]) (mvT hZ (own_w hw 95 rfl))) (mvT hZ (own_w hw 95 rfl)) (mvT hZ (own_w hw 94 rfl)) (by decide) (backOf (W := 0) (rm_eqsame l Z a0 hw [] wG1 wO2 wP5 wG3 wO4 wrG3 hstr hl wG7 wO7 wG8 wO8 hEL T16.heap n0 Ol16 b13) hZ (own_w hw 96 rfl) (own_w hw 3 rfl) (by decide) (by decide)) q19a q19c (g := (mkF m 154 #[vI p1, vI p2, vI p3, vI p4, vI (p1 &&& (3 : Int32)), vI (nar .char (p2 &&& (255 : Int32))), vI (nar .char (p3 &&& (255 : Int32))), vI (nar .char (p4 &&& (255 : Int32))), vR b11, vR b13, vR x_16, vR b13] [(.ref b13), (.ref b13)])) rfl (by rw [hml]; rfl) (Steps.refl _) (argsL := [(.ref b13)]) (rest := []) (lenOf pd_81697300 rfl) rfl (Nat.le_of_eq rfl) (hb hby at_154) (fun _ _ => ⟨rfl, eq18, (by decide : 5 + 0 ≤ _), (by decide : 2765 + 0 ≤ _)⟩)
    dsimp only [Pt.U, Pt.locs, Pt.cells, Pt.slots] at X19 l19 y19 z19 st19 hQ19
    subst l19 y19 z19
    obtain ⟨rfl, Nq19, eq19⟩ := hQ19
    refine OwnGoes.tr (T' := T19) (g' := (mkF m 157 #[vI p1, vI p2, vI p3, vI p4, vI (p1 &&& (3 : Int32)), vI (nar .char (p2 &&& (255 : Int32))), vI (nar .char (p3 &&& (255 : Int32))), vI (nar .char (p4 &&& (255 : Int32))), vR b11, vR b13, vR x_16, vR b13] [(.int 1)])) st19 ?_
    have N19 := Fr.app N18 Nq19
    refine own_leaveW (Z := Z) (EL := consts_1) X19 hS0 (eq19 ▸ hk16) hlk (v := some (.int 1)) (fun h => by rw [Bd.returns] at h; cases h) (fun fs hr => retN X19 hx (t := .boolean) Bd.returns (by simp) (hb hby at_157) (by rw [(by decide : nar .boolean (1 : Int32) = (1 : Int32))]; exact hr)) (by decide) (by decide) ?_ ?_
    · rw [hh, eq19]
      exact R16.trans (CHv.at X19 hZ hEL R16.1)
    show Q_law Z p1 p2 p3 p4 h0 n0 _ T19.heap _
    rw [eq19]
    exact ⟨rfl, N19⟩
  refine og s₁ m 64 #[vI p1, vI p2, vI p3, vI p4, vI (p1 &&& (3 : Int32)), vI (nar .char (p2 &&& (255 : Int32))), vI (nar .char (p3 &&& (255 : Int32))), vI (nar .char (p4 &&& (255 : Int32))), vU, vU, vU, vU] [(.int 2), (.int (p1 &&& (3 : Int32)))] (fun tgt kgo => ?_) ?_
  · refine XS.icmpYes X0.here hx rfl (pc0 := 45) (pc' := 61) rfl (hb hby at_45) rfl (feq cc10).2 (by decide) (by decide) ?_
    show OwnG p e below s₁ m 61 #[vI p1, vI p2, vI p3, vI p4, vI (p1 &&& (3 : Int32)), vI (nar .char (p2 &&& (255 : Int32))), vI (nar .char (p3 &&& (255 : Int32))), vI (nar .char (p4 &&& (255 : Int32))), vU, vU, vU, vU] [] tgt
    refine XS.iload X0.here hx rfl (hb hby at_61) rfl ?_
    show OwnG p e below s₁ m 63 #[vI p1, vI p2, vI p3, vI p4, vI (p1 &&& (3 : Int32)), vI (nar .char (p2 &&& (255 : Int32))), vI (nar .char (p3 &&& (255 : Int32))), vI (nar .char (p4 &&& (255 : Int32))), vU, vU, vU, vU] [(.int (p1 &&& (3 : Int32)))] tgt
    refine XS.iconst X0.here hx rfl (hb hby at_63) ?_
    exact kgo
  by_cases cc21 : (p1 &&& (3 : Int32)) = (2 : Int32)
  · skip
    refine og s₁ m 68 #[vI p1, vI p2, vI p3, vI p4, vI (p1 &&& (3 : Int32)), vI (nar .char (p2 &&& (255 : Int32))), vI (nar .char (p3 &&& (255 : Int32))), vI (nar .char (p4 &&& (255 : Int32))), vU, vU, vU, vU] [(.int 2)] (fun tgt kgo => ?_) ?_
    · refine XS.icmpNo X0.here hx rfl (hb hby at_64) rfl (teq cc21).2 ?_
      show OwnG p e below s₁ m 67 #[vI p1, vI p2, vI p3, vI p4, vI (p1 &&& (3 : Int32)), vI (nar .char (p2 &&& (255 : Int32))), vI (nar .char (p3 &&& (255 : Int32))), vI (nar .char (p4 &&& (255 : Int32))), vU, vU, vU, vU] [] tgt
      refine XS.iconst X0.here hx rfl (hb hby at_67) ?_
      exact kgo
    obtain ⟨T22, h22, k22, X22, e22, E22, A22, st22⟩ := newP X0 hx hZ (own_w hw 0 rfl) e0 (g := (mkF m 68 #[vI p1, vI p2, vI p3, vI p4, vI (p1 &&& (3 : Int32)), vI (nar .char (p2 &&& (255 : Int32))), vI (nar .char (p3 &&& (255 : Int32))), vI (nar .char (p4 &&& (255 : Int32))), vU, vU, vU, vU] [(.int 2)])) rfl (hb hby at_68) rfl (by decide) (cap := 2) (by decide) (by decide) (by decide) (by decide)
    obtain ⟨b22, g22⟩ : ∃ z, z = h0.size := ⟨_, rfl⟩
    rw [← g22] at A22 st22
    refine og T22 m 70 #[vI p1, vI p2, vI p3, vI p4, vI (p1 &&& (3 : Int32)), vI (nar .char (p2 &&& (255 : Int32))), vI (nar .char (p3 &&& (255 : Int32))), vI (nar .char (p4 &&& (255 : Int32))), vU, vU, vU, vU] [(.ref b22)] st22 ?_
    have V22 : Arv Z h22 b22 k22 .char (2 : Int32) [(.int 0), (.int 0)] (.int 0) := (Arv.new A22 (by decide)).pad (pad_rep [] (.int 0) 2)
    have g_b22 : n0 ≤ b22 := Nat.le_trans (Nat.le_trans Z0 K0.1) (Nat.le_of_eq g22.symm)
    have s_b22 : h0.size ≤ b22 := Nat.le_trans K0.1 (Nat.le_of_eq g22.symm)
    have Sf22 : Safe Z consts_1 s.vm h22 b22 := Safe.ext E22 R0.1 (Safe.new (Nat.le_of_eq g22.symm))
    have Ol22 := X00.ext E22
    have K22 : Keep h0 h22 ([] : List Addr) := K0.ext E22
    have R22 := R0.trans (CHr.ext E22 R0.1)
    have hk22 := Nat.le_trans hk0 E22.1
    refine og T22 m 74 #[vI p1, vI p2, vI p3, vI p4, vI (p1 &&& (3 : Int32)), vI (nar .char (p2 &&& (255 : Int32))), vI (nar .char (p3 &&& (255 : Int32))), vI (nar .char (p4 &&& (255 : Int32))), vU, vU, vU, vU] [(.int (nar .char (p2 &&& (255 : Int32)))), (.int 0), (.ref b22), (.ref b22)] (fun tgt kgo => ?_) ?_
    · refine XS.dup X22.here hx rfl (hb hby at_70) rfl rfl ?_
      show OwnG p e below T22 m 71 #[vI p1, vI p2, vI p3, vI p4, vI (p1 &&& (3 : Int32)), vI (nar .char (p2 &&& (255 : Int32))), vI (nar .char (p3 &&& (255 : Int32))), vI (nar .char (p4 &&& (255 : Int32))), vU, vU, vU, vU] [(.ref b22), (.ref b22)] tgt
      refine XS.iconst X22.here hx rfl (hb hby at_71) ?_
      show OwnG p e below T22 m 72 #[vI p1, vI p2, vI p3, vI p4, vI (p1 &&& (3 : Int32)), vI (nar .char (p2 &&& (255 : Int32))), vI (nar .char (p3 &&& (255 : Int32))), vI (nar .char (p4 &&& (255 : Int32))), vU, vU, vU, vU] [(.int 0), (.ref b22), (.ref b22)] tgt
      refine XS.iload X22.here hx rfl (hb hby at_72) rfl ?_
      exact kgo
    obtain ⟨cl23, Ar23, q23, S23, M23, H23, G23⟩ := id V22
    obtain ⟨T23, h23, X23, e23, W23, st23⟩ := stC X22 hx hZ e22 Ar23 (j := (0 : Int32)) (inb_of S23 ⟨by decide, by decide⟩) (g := (mkF m 74 #[vI p1, vI p2, vI p3, vI p4, vI (p1 &&& (3 : Int32)), vI (nar .char (p2 &&& (255 : Int32))), vI (nar .char (p3 &&& (255 : Int32))), vI (nar .char (p4 &&& (255 : Int32))), vU, vU, vU, vU] [(.int (nar .char (p2 &&& (255 : Int32)))), (.int 0), (.ref b22), (.ref b22)])) rfl rfl (hb hby at_74)
    refine og T23 m 75 #[vI p1, vI p2, vI p3, vI p4, vI (p1 &&& (3 : Int32)), vI (nar .char (p2 &&& (255 : Int32))), vI (nar .char (p3 &&& (255 : Int32))), vI (nar .char (p4 &&& (255 : Int32))), vU, vU, vU, vU] [(.ref b22)] st23 ?_
    have V23 : Arv Z h23 b22 k22 .char (2 : Int32) [(.int (nar .char (nar .char (p2 &&& (255 : Int32))))), (.int 0)] (.int 0) := Arv.set Ar23 q23 S23 M23 H23 G23 (fits_nar_char _) W23 0 rfl (Nat.le_of_ble_eq_true rfl)
    rw [own_nar2_char] at V23
    have V23' : Arv Z h23 b22 k22 .char (2 : Int32) [(.int (nar .char (p2 &&& (255 : Int32)))), (.int 0)] (.int 0) := V23
    have F23_33 := Safe.wr W23 Sf22 R22.1 Sf22
    have Ol23 := Ol22.wr W23 g_b22
    have K23 : Keep h0 h23 ([] : List Addr) := K22.wr W23 (Or.inr s_b22)
    have R23 := R22.trans (CHr.wr W23 Sf22 R22.1)
    have hk23 := Nat.le_trans hk22 (Keep.of_wr W23).1
    have N23 := Fr.snoc X23 N0 g_b22
    refine og T23 m 79 #[vI p1, vI p2, vI p3, vI p4, vI (p1 &&& (3 : Int32)), vI (nar .char (p2 &&& (255 : Int32))), vI (nar .char (p3 &&& (255 : Int32))), vI (nar .char (p4 &&& (255 : Int32))), vU, vU, vU, vU] [(.int (nar .char (p3 &&& (255 : Int32)))), (.int 1), (.ref b22), (.ref b22)] (fun tgt kgo => ?_) ?_
    · refine XS.dup X23.here hx rfl (hb hby at_75) rfl rfl ?_
      show OwnG p e below T23 m 76 #[vI p1, vI p2, vI p3, vI p4, vI (p1 &&& (3 : Int32)), vI (nar .char (p2 &&& (255 : Int32))), vI (nar .char (p3 &&& (255 : Int32))), vI (nar .char (p4 &&& (255 : Int32))), vU, vU, vU, vU] [(.ref b22), (.ref b22)] tgt
      refine XS.iconst X23.here hx rfl (hb hby at_76) ?_
      show OwnG p e below T23 m 77 #[vI p1, vI p2, vI p3, vI p4, vI (p1 &&& (3 : Int32)), vI (nar .char (p2 &&& (255 : Int32))), vI (nar .char (p3 &&& (255 : Int32))), vI (nar .char (p4 &&& (255 : Int32))), vU, vU, vU, vU] [(.int 1), (.ref b22), (.ref b22)] tgt
      refine XS.iload X23.here hx rfl (hb hby at_77) rfl ?_
      exact kgo
    obtain ⟨cl24, Ar24, q24, S24, M24, H24, G24⟩ := id V23'
    obtain ⟨T24, h24, X24, e24, W24, st24⟩ := stC X23 hx hZ e23 Ar24 (j := (1 : Int32)) (inb_of S24 ⟨by decide, by decide⟩) (g := (mkF m 79 #[vI p1, vI p2, vI p3, vI p4, vI (p1 &&& (3 : Int32)), vI (nar .char (p2 &&& (255 : Int32))), vI (nar .char (p3 &&& (255 : Int32))), vI (nar .char (p4 &&& (255 : Int32))), vU, vU, vU, vU] [(.int (nar .char (p3 &&& (255 : Int32)))), (.int 1), (.ref b22), (.ref b22)])) rfl rfl (hb hby at_79)
    refine og T24 m 80 #[vI p1, vI p2, vI p3, vI p4, vI (p1 &&& (3 : Int32)), vI (nar .char (p2 &&& (255 : Int32))), vI (nar .char (p3 &&& (255 : Int32))), vI (nar .char (p4 &&& (255 : Int32))), vU, vU, vU, vU] [(.ref b22)] st24 ?_
    have V24 : Arv Z h24 b22 k22 .char (2 : Int32) [(.int (nar .char (p2 &&& (255 : Int32)))), (.int (nar .char (nar .char (p3 &&& (255 : Int32)))))] (.int 0) := Arv.set Ar24 q24 S24 M24 H24 G24 (fits_nar_char _) W24 1 rfl (Nat.le_of_ble_eq_true rfl)
    rw [own_nar2_char] at V24
    have V24' : Arv Z h24 b22 k22 .char (2 : Int32) [(.int (nar .char (p2 &&& (255 : Int32)))), (.int (nar .char (p3 &&& (255 : Int32))))] (.int 0) := V24
    have F24_34 := Safe.wr W24 F23_33 R23.1 F23_33
    have Ol24 := Ol23.wr W24 g_b22
    have K24 : Keep h0 h24 ([] : List Addr) := K23.wr W24 (Or.inr s_b22)
    have R24 := R23.trans (CHr.wr W24 F23_33 R23.1)
    have hk24 := Nat.le_trans hk23 (Keep.of_wr W24).1
    have N24 := Fr.snoc X24 N23 g_b22
    refine og T24 m 105 #[vI p1, vI p2, vI p3, vI p4, vI (p1 &&& (3 : Int32)), vI (nar .char (p2 &&& (255 : Int32))), vI (nar .char (p3 &&& (255 : Int32))), vI (nar .char (p4 &&& (255 : Int32))), vR b22, vU, vU, vU] [] (fun tgt kgo => ?_) ?_
    · refine XS.astore X24.here hx rfl (hb hby at_80) rfl rfl (l' := #[vI p1, vI p2, vI p3, vI p4, vI (p1 &&& (3 : Int32)), vI (nar .char (p2 &&& (255 : Int32))), vI (nar .char (p3 &&& (255 : Int32))), vI (nar .char (p4 &&& (255 : Int32))), vR b22, vU, vU, vU]) rfl ?_
      show OwnG p e below T24 m 82 #[vI p1, vI p2, vI p3, vI p4, vI (p1 &&& (3 : Int32)), vI (nar .char (p2 &&& (255 : Int32))), vI (nar .char (p3 &&& (255 : Int32))), vI (nar .char (p4 &&& (255 : Int32))), vR b22, vU, vU, vU] [] tgt
      refine XS.goto X24.here hx rfl (pc0 := 82) (pc' := 105) rfl (hb hby at_82) (by decide) (by decide) ?_
      exact kgo
    obtain ⟨T25, h25, X25, e25, E25, A25, D25, U25, st25⟩ := newO X24 hx hZ hown (own_w hw 1 rfl) (own_w hw 2 rfl) (own_w hw 3 rfl) e24 (g := (mkF m 105 #[vI p1, vI p2, vI p3, vI p4, vI (p1 &&& (3 : Int32)), vI (nar .char (p2 &&& (255 : Int32))), vI (nar .char (p3 &&& (255 : Int32))), vI (nar .char (p4 &&& (255 : Int32))), vR b22, vU, vU, vU] [])) rfl (hb hby at_105) (by decide) (by decide)
    obtain ⟨b25, g25⟩ : ∃ z, z = h24.size := ⟨_, rfl⟩
    rw [← g25] at A25 D25 U25 st25
    refine og T25 m 108 #[vI p1, vI p2, vI p3, vI p4, vI (p1 &&& (3 : Int32)), vI (nar .char (p2 &&& (255 : Int32))), vI (nar .char (p3 &&& (255 : Int32))), vI (nar .char (p4 &&& (255 : Int32))), vR b22, vU, vU, vU] [(.ref b25)] st25 ?_
    have ne_b22_b25 : b22 ≠ b25 := Nat.ne_of_lt (Nat.lt_of_lt_of_le V24'.lt (Nat.le_of_eq g25.symm))
    have g_b25 : n0 ≤ b25 := Nat.le_trans (Nat.le_trans Z0 K24.1) (Nat.le_of_eq g25.symm)
    have s_b25 : h0.size ≤ b25 := Nat.le_trans K24.1 (Nat.le_of_eq g25.symm)
    have Sf25 : Safe Z consts_1 s.vm h25 b25 := Safe.ext E25 R24.1 (Safe.new (Nat.le_of_eq g25.symm))
    have F25_35 := Safe.ext E25 R24.1 F24_34
    have F25_36 := V24'.ext E25
    have Ol25 := Ol24.ext E25
    have K25 : Keep h0 h25 ([] : List Addr) := K24.ext E25
    have R25 := R24.trans (CHr.ext E25 R24.1)
    have hk25 := Nat.le_trans hk24 E25.1
    have F25_37 : Fld Z h25 b25 "java/lang/String" "value" "[B" .null := D25 (Or.inr (own_w hw 16 rfl)) (ty := (.array .byte)) (by decide)
    have F25_38 : Fld Z h25 b25 "java/lang/String" "coder" "B" (.int 0) := D25 (Or.inr (own_w hw 17 rfl)) (ty := .byte) (by decide)
    refine og T25 m 111 #[vI p1, vI p2, vI p3, vI p4, vI (p1 &&& (3 : Int32)), vI (nar .char (p2 &&& (255 : Int32))), vI (nar .char (p3 &&& (255 : Int32))), vI (nar .char (p4 &&& (255 : Int32))), vR b22, vU, vU, vU] [(.ref b22), (.ref b25), (.ref b25)] (fun tgt kgo => ?_) ?_
    · refine XS.dup X25.here hx rfl (hb hby at_108) rfl rfl ?_
      show OwnG p e below T25 m 109 #[vI p1, vI p2, vI p3, vI p4, vI (p1 &&& (3 : Int32)), vI (nar .char (p2 &&& (255 : Int32))), vI (nar .char (p3 &&& (255 : Int32))), vI (nar .char (p4 &&& (255 : Int32))), vR b22, vU, vU, vU] [(.ref b25), (.ref b25)] tgt
      refine XS.aload X25.here hx rfl (hb hby at_109) rfl rfl ?_
      exact kgo
    have hp27 : ∀ c ∈ ([(nar .char (p2 &&& (255 : Int32))), (nar .char (p3 &&& (255 : Int32)))] : List Int32), ¬ c < 0 ∧ ¬ (255 : Int32) < c := (own_memS (own_lat255 p2) (own_memS (own_lat255 p3) own_mem0))
    have V27c : Arv Z h25 b22 k22 .char (2 : Int32) (([(nar .char (p2 &&& (255 : Int32))), (nar .char (p3 &&& (255 : Int32)))] : List Int32).map Value.int) (.int 0) := F25_36
    obtain ⟨_, _, ⟨T26, L26, k26, n26⟩, -, X26, ⟨Lc26, hQ26, l26, y26, z26⟩, st26⟩ := X25.specialBack hx (y := mN1) rfl hown (mvT hZ (own_w hw 4 rfl)) (mvT hZ (own_w hw 5 rfl)) (mvT hZ (own_w hw 6 rfl)) (by decide) (StrChars.Road.backV (W := 1) hZ (fun d hd => hw d (own_hws d hd)) (kI := 4) (own_w hw 2 rfl) (cs := ([(nar .char (p2 &&& (255 : Int32))), (nar .char (p3 &&& (255 : Int32)))] : List Int32)) (bs := ([(nar .char (p2 &&& (255 : Int32))), (nar .char (p3 &&& (255 : Int32)))] : List Int32).map (fun c => c.toInt8.toInt32)) (n := 2) g_b25 (Nat.le_trans Z0 K25.1) A25 F25_37 F25_38 V27c (wO2.ext Ol25.2) wP5 rfl rfl (by decide) (by decide) hp27 rfl (by decide) (by decide)) (g := (mkF m 111 #[vI p1, vI p2, vI p3, vI p4, vI (p1 &&& (3 : Int32)), vI (nar .char (p2 &&& (255 : Int32))), vI (nar .char (p3 &&& (255 : Int32))), vI (nar .char (p4 &&& (255 : Int32))), vR b22, vU, vU, vU] [(.ref b22), (.ref b25), (.ref b25)])) rfl (by rw [hml]; rfl) (Steps.refl _) (a := b25) (argsL := [(.ref b22)]) (rest := [(.ref b25)]) (lenOf pd_68446664 rfl) rfl (Nat.le_of_eq rfl) (hb hby at_111) (fun _ _ => ⟨rfl, e25, (by decide : 2 + 1 ≤ _), (by decide : 6 + 2 ≤ _)⟩)
    dsimp only [Pt.U, Pt.locs, Pt.cells, Pt.slots] at X26 l26 y26 z26 st26 hQ26
    subst l26 y26 z26
    obtain ⟨rfl, Nq26, Kq26, fe26, fc26, t26, kb26, ut26, vt26, wt26, fv26, fa26⟩ := hQ26
    refine OwnGoes.tr (T' := T26) (g' := (mkF m 114 #[vI p1, vI p2, vI p3, vI p4, vI (p1 &&& (3 : Int32)), vI (nar .char (p2 &&& (255 : Int32))), vI (nar .char (p3 &&& (255 : Int32))), vI (nar .char (p4 &&& (255 : Int32))), vR b22, vU, vU, vU] [(.ref b25)])) st26 ?_
    have N26 := Fr.app N24 Nq26
    have ne_b22_t26 : b22 ≠ t26 := Nat.ne_of_lt (Nat.lt_of_lt_of_le F25_36.lt vt26)
    have ne_b25_t26 : b25 ≠ t26 := Nat.ne_of_lt (Nat.lt_of_lt_of_le A25.lt vt26)
    have g_t26 : n0 ≤ t26 := Nat.le_trans (Nat.le_trans Z0 K25.1) vt26
    have s_t26 : h0.size ≤ t26 := Nat.le_trans K25.1 vt26
    have Sf26 : Safe Z consts_1 s.vm T26.heap t26 := Safe.keep Kq26 (sfS Sf25 sf0) R25.1 (Safe.new vt26)
    have F26_39 := Safe.keep Kq26 (sfS Sf25 sf0) R25.1 F25_35
    have F26_40 := F25_36.keep Kq26 (ninS ne_b22_b25 nin0)
    have F26_41 := Safe.keep Kq26 (sfS Sf25 sf0) R25.1 Sf25
    have F26_42 := A25.keep Kq26
    have Ol26 := Ol25.keep Kq26 (allS g_b25 all0)
    have K26 : Keep h0 T26.heap ([] : List Addr) := K25.trans Kq26 (allS (Or.inr s_b25) all0)
    have R26 := R25.trans (CHr.keep Kq26 (sfS Sf25 sf0) R25.1)
    have hk26 := Nat.le_trans hk25 Kq26.1
    refine og T26 m 118 #[vI p1, vI p2, vI p3, vI p4, vI (p1 &&& (3 : Int32)), vI (nar .char (p2 &&& (255 : Int32))), vI (nar .char (p3 &&& (255 : Int32))), vI (nar .char (p4 &&& (255 : Int32))), vR b22, vR b25, vU, vU] [(.ref b25)] (fun tgt kgo => ?_) ?_
    · refine XS.astore X26.here hx rfl (hb hby at_114) rfl rfl (l' := #[vI p1, vI p2, vI p3, vI p4, vI (p1 &&& (3 : Int32)), vI (nar .char (p2 &&& (255 : Int32))), vI (nar .char (p3 &&& (255 : Int32))), vI (nar .char (p4 &&& (255 : Int32))), vR b22, vR b25, vU, vU]) rfl ?_
      show OwnG p e below T26 m 116 #[vI p1, vI p2, vI p3, vI p4, vI (p1 &&& (3 : Int32)), vI (nar .char (p2 &&& (255 : Int32))), vI (nar .char (p3 &&& (255 : Int32))), vI (nar .char (p4 &&& (255 : Int32))), vR b22, vR b25, vU, vU] [] tgt
      refine XS.aload X26.here hx rfl (hb hby at_116) rfl rfl ?_
      exact kgo
    obtain ⟨_, _, ⟨T28, L28, k28, n28⟩, -, X28, ⟨Lc28, hQ28, l28, y28, z28⟩, st28⟩ := Jvm.LawKit.callS X26 hx (y := mN5) hown (mvT hZ (own_w hw 22 rfl)) (mvT hZ (own_w hw 23 rfl)) (mvT hZ (own_w hw 24 rfl)) (mvT hZ (own_w hw 25 rfl)) (by decide) (backOfKL (W := 0) (rm_refused l Z a0 hw [] wG1 wO2 wP5 wG3 wO4 wrG3 hstr hl wG7 wO7 wG8 wO8 hEL T26.heap n0 Ol26 b25) hZ (own_w hw 25 rfl) (own_w hw 24 rfl) (by decide) (by decide) (own_mk (s := s) hS0 hK.1) (own_fk (s := s) hS0 hK.2)) (g := (mkF m 118 #[vI p1, vI p2, vI p3, vI p4, vI (p1 &&& (3 : Int32)), vI (nar .char (p2 &&& (255 : Int32))), vI (nar .char (p3 &&& (255 : Int32))), vI (nar .char (p4 &&& (255 : Int32))), vR b22, vR b25, vU, vU] [(.ref b25)])) rfl (by rw [hml]; rfl) (argsL := [(.ref b25)]) (rest := []) (lenOf pd_77505385 rfl) rfl (Nat.le_of_eq rfl) (hb hby at_118) (fun _ _ => ⟨rfl, rfl, (by decide : 3 + 2 ≤ _), (by decide : 8 + 2759 ≤ _)⟩)
    dsimp only [Pt.U, Pt.locs, Pt.cells, Pt.slots] at X28 l28 y28 z28 st28 hQ28
    subst l28 y28 z28
    obtain ⟨x_28, rfl, Nq28, Kq28, zq28_0, fq28_0, fq28_1, fq28_2⟩ := hQ28
    refine og T28 m 121 #[vI p1, vI p2, vI p3, vI p4, vI (p1 &&& (3 : Int32)), vI (nar .char (p2 &&& (255 : Int32))), vI (nar .char (p3 &&& (255 : Int32))), vI (nar .char (p4 &&& (255 : Int32))), vR b22, vR b25, vU, vU] [(.ref x_28)] st28 ?_
    have N28 := Fr.app N26 Nq28
    have ne_b22_x_28 : b22 ≠ x_28 := Nat.ne_of_lt (Nat.lt_of_lt_of_le F26_40.lt zq28_0)
    have ne_b25_x_28 : b25 ≠ x_28 := Nat.ne_of_lt (Nat.lt_of_lt_of_le fe26.lt zq28_0)
    have ne_t26_x_28 : t26 ≠ x_28 := Nat.ne_of_lt (Nat.lt_of_lt_of_le fa26.lt zq28_0)
    have g_x_28 : n0 ≤ x_28 := Nat.le_trans (Nat.le_trans Z0 K26.1) zq28_0
    have s_x_28 : h0.size ≤ x_28 := Nat.le_trans K26.1 zq28_0
    have Sn28_0 : Safe Z consts_1 s.vm T28.heap x_28 := Safe.keep Kq28 sf0 R26.1 (Safe.new zq28_0)
    have F28_43 := Safe.keep Kq28 sf0 R26.1 F26_39
    have F28_44 := F26_40.keep Kq28 nin0
    have F28_45 := Safe.keep Kq28 sf0 R26.1 F26_41
    have F28_46 := fe26.keep Kq28
    have F28_47 := Safe.keep Kq28 sf0 R26.1 Sf26
    have F28_48 := fc26.keep Kq28 nin0
    have F28_49 := fv26.keep Kq28 nin0
    have F28_50 := fa26.keep Kq28 nin0
    have Ol28 := Ol26.keep Kq28 all0
    have K28 : Keep h0 T28.heap ([] : List Addr) := K26.trans Kq28 all0
    have R28 := R26.trans (CHr.keep Kq28 sf0 R26.1)
    have hk28 := Nat.le_trans hk26 Kq28.1
    refine og T28 m 125 #[vI p1, vI p2, vI p3, vI p4, vI (p1 &&& (3 : Int32)), vI (nar .char (p2 &&& (255 : Int32))), vI (nar .char (p3 &&& (255 : Int32))), vI (nar .char (p4 &&& (255 : Int32))), vR b22, vR b25, vR x_28, vU] [(.ref x_28)] (fun tgt kgo => ?_) ?_
    · refine XS.astore X28.here hx rfl (hb hby at_121) rfl rfl (l' := #[vI p1, vI p2, vI p3, vI p4, vI (p1 &&& (3 : Int32)), vI (nar .char (p2 &&& (255 : Int32))), vI (nar .char (p3 &&& (255 : Int32))), vI (nar .char (p4 &&& (255 : Int32))), vR b22, vR b25, vR x_28, vU]) rfl ?_
      show OwnG p e below T28 m 123 #[vI p1, vI p2, vI p3, vI p4, vI (p1 &&& (3 : Int32)), vI (nar .char (p2 &&& (255 : Int32))), vI (nar .char (p3 &&& (255 : Int32))), vI (nar .char (p4 &&& (255 : Int32))), vR b22, vR b25, vR x_28, vU] [] tgt
      refine XS.aload X28.here hx rfl (hb hby at_123) rfl rfl ?_
      exact kgo
    obtain ⟨cq29, kq29, q29a, q29b, q29c⟩ := isOf (s := (s.setVm s.vm)) hZ rfl fq28_0
    obtain ⟨_, _, ⟨T29, L29, k29, n29⟩, -, X29, ⟨Lc29, hQ29, l29, y29, z29⟩, st29⟩ := X28.virtualBack hx (y := mN6) (z := mN6) hown (mvT hZ (own_w hw 81 rfl)) (mvT hZ (own_w hw 82 rfl)) (notFace_of_selects (args := #[]) (mvT hZ (own_w hw 84 rfl))) (mvT hZ (own_w hw 84 rfl)) (mvT hZ (own_w hw 83 rfl)) (by decide) (backOf (W := 0) (rm_status l Z a0 hw [] wG1 wO2 wP5 wG3 wO4 wrG3 hstr hl wG7 wO7 wG8 wO8 hEL T28.heap n0 Ol28 x_28 (401 : Int32) fq28_1) hZ (own_w hw 85 rfl) (own_w hw 24 rfl) (by decide) (by decide)) q29a q29c (g := (mkF m 125 #[vI p1, vI p2, vI p3, vI p4, vI (p1 &&& (3 : Int32)), vI (nar .char (p2 &&& (255 : Int32))), vI (nar .char (p3 &&& (255 : Int32))), vI (nar .char (p4 &&& (255 : Int32))), vR b22, vR b25, vR x_28, vU] [(.ref x_28)])) rfl (by rw [hml]; rfl) (Steps.refl _) (argsL := []) (rest := []) (lenOf pd_86913941 rfl) rfl (Nat.le_of_eq rfl) (hb hby at_125) (fun _ _ => ⟨rfl, rfl, (by decide : 5 + 0 ≤ _), (by decide : 2767 + 0 ≤ _)⟩)
    dsimp only [Pt.U, Pt.locs, Pt.cells, Pt.slots] at X29 l29 y29 z29 st29 hQ29
    subst l29 y29 z29
    obtain ⟨rfl, Nq29, eq29⟩ := hQ29
    refine OwnGoes.tr (T' := T29) (g' := (mkF m 128 #[vI p1, vI p2, vI p3, vI p4, vI (p1 &&& (3 : Int32)), vI (nar .char (p2 &&& (255 : Int32))), vI (nar .char (p3 &&& (255 : Int32))), vI (nar .char (p4 &&& (255 : Int32))), vR b22, vR b25, vR x_28, vU] [(.int 401)])) st29 ?_
    have N29 := Fr.app N28 Nq29
    refine og T29 m 138 #[vI p1, vI p2, vI p3, vI p4, vI (p1 &&& (3 : Int32)), vI (nar .char (p2 &&& (255 : Int32))), vI (nar .char (p3 &&& (255 : Int32))), vI (nar .char (p4 &&& (255 : Int32))), vR b22, vR b25, vR x_28, vU] [(.ref x_28)] (fun tgt kgo => ?_) ?_
    · refine XS.sipush X29.here hx rfl (hb hby at_128) ?_
      show OwnG p e below T29 m 131 #[vI p1, vI p2, vI p3, vI p4, vI (p1 &&& (3 : Int32)), vI (nar .char (p2 &&& (255 : Int32))), vI (nar .char (p3 &&& (255 : Int32))), vI (nar .char (p4 &&& (255 : Int32))), vR b22, vR b25, vR x_28, vU] [(.int 401), (.int 401)] tgt
      refine XS.icmpYes X29.here hx rfl (pc0 := 131) (pc' := 136) rfl (hb hby at_131) rfl (teq (by decide : (401 : Int32) = (401 : Int32))).1 (by decide) (by decide) ?_
      show OwnG p e below T29 m 136 #[vI p1, vI p2, vI p3, vI p4, vI (p1 &&& (3 : Int32)), vI (nar .char (p2 &&& (255 : Int32))), vI (nar .char (p3 &&& (255 : Int32))), vI (nar .char (p4 &&& (255 : Int32))), vR b22, vR b25, vR x_28, vU] [] tgt
      refine XS.aload X29.here hx rfl (hb hby at_136) rfl rfl ?_
      exact kgo
    obtain ⟨cq30, kq30, q30a, q30b, q30c⟩ := isOf (s := (s.setVm s.vm)) hZ eq29 fq28_0
    obtain ⟨_, _, ⟨T30, L30, k30, n30⟩, -, X30, ⟨Lc30, hQ30, l30, y30, z30⟩, st30⟩ := X29.virtualBackUp hx (x := mN9) (y := mN7) (owner := "java/lang/Throwable") hown (mvT hZ (own_w hw 86 rfl)) (mvT hZ (own_w hw 87 rfl)) (mvT hZ (own_w hw 88 rfl)) (by decide) (mvT hZ (own_w hw 90 rfl)) (mvT hZ (own_w hw 89 rfl)) (backOf (W := 0) (rm_getMessage l Z a0 hw [] wG1 wO2 wP5 wG3 wO4 wrG3 hstr hl wG7 wO7 wG8 wO8 hEL T28.heap n0 Ol28 x_28 b25 fq28_2) hZ (own_w hw 91 rfl) (own_w hw 40 rfl) (by decide) (by decide)) q30a q30c (g := (mkF m 138 #[vI p1, vI p2, vI p3, vI p4, vI (p1 &&& (3 : Int32)), vI (nar .char (p2 &&& (255 : Int32))), vI (nar .char (p3 &&& (255 : Int32))), vI (nar .char (p4 &&& (255 : Int32))), vR b22, vR b25, vR x_28, vU] [(.ref x_28)])) rfl (by rw [hml]; rfl) (Steps.refl _) (argsL := []) (rest := []) (lenOf pd_24953479 rfl) rfl (Nat.le_of_eq rfl) (hb hby at_138) (fun _ _ => ⟨rfl, eq29, (by decide : 5 + 0 ≤ _), (by decide : 2767 + 0 ≤ _)⟩)
    dsimp only [Pt.U, Pt.locs, Pt.cells, Pt.slots] at X30 l30 y30 z30 st30 hQ30
    subst l30 y30 z30
    obtain ⟨rfl, Nq30, eq30⟩ := hQ30
    refine OwnGoes.tr (T' := T30) (g' := (mkF m 141 #[vI p1, vI p2, vI p3, vI p4, vI (p1 &&& (3 : Int32)), vI (nar .char (p2 &&& (255 : Int32))), vI (nar .char (p3 &&& (255 : Int32))), vI (nar .char (p4 &&& (255 : Int32))), vR b22, vR b25, vR x_28, vU] [(.ref b25)])) st30 ?_
    have N30 := Fr.app N29 Nq30
    refine og T30 m 154 #[vI p1, vI p2, vI p3, vI p4, vI (p1 &&& (3 : Int32)), vI (nar .char (p2 &&& (255 : Int32))), vI (nar .char (p3 &&& (255 : Int32))), vI (nar .char (p4 &&& (255 : Int32))), vR b22, vR b25, vR x_28, vR b25] [(.ref b25), (.ref b25)] (fun tgt kgo => ?_) ?_
    · refine XS.astore X30.here hx rfl (hb hby at_141) rfl rfl (l' := #[vI p1, vI p2, vI p3, vI p4, vI (p1 &&& (3 : Int32)), vI (nar .char (p2 &&& (255 : Int32))), vI (nar .char (p3 &&& (255 : Int32))), vI (nar .char (p4 &&& (255 : Int32))), vR b22, vR b25, vR x_28, vR b25]) rfl ?_
      show OwnG p e below T30 m 143 #[vI p1, vI p2, vI p3, vI p4, vI (p1 &&& (3 : Int32)), vI (nar .char (p2 &&& (255 : Int32))), vI (nar .char (p3 &&& (255 : Int32))), vI (nar .char (p4 &&& (255 : Int32))), vR b22, vR b25, vR x_28, vR b25] [] tgt
      refine XS.aload X30.here hx rfl (hb hby at_143) rfl rfl ?_
      show OwnG p e below T30 m 145 #[vI p1, vI p2, vI p3, vI p4, vI (p1 &&& (3 : Int32)), vI (nar .char (p2 &&& (255 : Int32))), vI (nar .char (p3 &&& (255 : Int32))), vI (nar .char (p4 &&& (255 : Int32))), vR b22, vR b25, vR x_28, vR b25] [(.ref b25)] tgt
      refine XS.ifnonnullYes X30.here hx rfl (pc0 := 145) (pc' := 150) rfl (hb hby at_145) rfl (by decide) (by decide) ?_
      show OwnG p e below T30 m 150 #[vI p1, vI p2, vI p3, vI p4, vI (p1 &&& (3 : Int32)), vI (nar .char (p2 &&& (255 : Int32))), vI (nar .char (p3 &&& (255 : Int32))), vI (nar .char (p4 &&& (255 : Int32))), vR b22, vR b25, vR x_28, vR b25] [] tgt
      refine XS.aload X30.here hx rfl (hb hby at_150) rfl rfl ?_
      show OwnG p e below T30 m 152 #[vI p1, vI p2, vI p3, vI p4, vI (p1 &&& (3 : Int32)), vI (nar .char (p2 &&& (255 : Int32))), vI (nar .char (p3 &&& (255 : Int32))), vI (nar .char (p4 &&& (255 : Int32))), vR b22, vR b25, vR x_28, vR b25] [(.ref b25)] tgt
      refine XS.aload X30.here hx rfl (hb hby at_152) rfl rfl ?_
      exact kgo
    obtain ⟨cq31, kq31, q31a, q31b, q31c⟩ := isOf (s := (s.setVm s.vm)) hZ eq30 F28_46
    obtain ⟨_, _, ⟨T31, L31, k31, n31⟩, -, X31, ⟨Lc31, hQ31, l31, y31, z31⟩, st31⟩ := X30.virtualBack hx (y := mN8) (z := mN8) hown (mvT hZ (own_w hw 92 rfl)) (mvT hZ (own_w hw 93 rfl)) (notFace_of_selects (args := #[]) (mvT hZ (own_w hw 95 rfl))) (mvT hZ (own_w hw 95 rfl)) (mvT hZ (own_w hw 94 rfl)) (by decide) (backOf (W := 0) (rm_eqsame l Z a0 hw [] wG1 wO2 wP5 wG3 wO4 wrG3 hstr hl wG7 wO7 wG8 wO8 hEL T28.heap n0 Ol28 b25) hZ (own_w hw 96 rfl) (own_w hw 3 rfl) (by decide) (by decide)) q31a q31c (g := (mkF m 154 #[vI p1, vI p2, vI p3, vI p4, vI (p1 &&& (3 : Int32)), vI (nar .char (p2 &&& (255 : Int32))), vI (nar .char (p3 &&& (255 : Int32))), vI (nar .char (p4 &&& (255 : Int32))), vR b22, vR b25, vR x_28, vR b25] [(.ref b25), (.ref b25)])) rfl (by rw [hml]; rfl) (Steps.refl _) (argsL := [(.ref b25)]) (rest := []) (lenOf pd_81697300 rfl) rfl (Nat.le_of_eq rfl) (hb hby at_154) (fun _ _ => ⟨rfl, eq30, (by decide : 5 + 0 ≤ _), (by decide : 2767 + 0 ≤ _)⟩)
    dsimp only [Pt.U, Pt.locs, Pt.cells, Pt.slots] at X31 l31 y31 z31 st31 hQ31
    subst l31 y31 z31
    obtain ⟨rfl, Nq31, eq31⟩ := hQ31
    refine OwnGoes.tr (T' := T31) (g' := (mkF m 157 #[vI p1, vI p2, vI p3, vI p4, vI (p1 &&& (3 : Int32)), vI (nar .char (p2 &&& (255 : Int32))), vI (nar .char (p3 &&& (255 : Int32))), vI (nar .char (p4 &&& (255 : Int32))), vR b22, vR b25, vR x_28, vR b25] [(.int 1)])) st31 ?_
    have N31 := Fr.app N30 Nq31
    refine own_leaveW (Z := Z) (EL := consts_1) X31 hS0 (eq31 ▸ hk28) hlk (v := some (.int 1)) (fun h => by rw [Bd.returns] at h; cases h) (fun fs hr => retN X31 hx (t := .boolean) Bd.returns (by simp) (hb hby at_157) (by rw [(by decide : nar .boolean (1 : Int32) = (1 : Int32))]; exact hr)) (by decide) (by decide) ?_ ?_
    · rw [hh, eq31]
      exact R28.trans (CHv.at X31 hZ hEL R28.1)
    show Q_law Z p1 p2 p3 p4 h0 n0 _ T31.heap _
    rw [eq31]
    exact ⟨rfl, N31⟩
  refine og s₁ m 86 #[vI p1, vI p2, vI p3, vI p4, vI (p1 &&& (3 : Int32)), vI (nar .char (p2 &&& (255 : Int32))), vI (nar .char (p3 &&& (255 : Int32))), vI (nar .char (p4 &&& (255 : Int32))), vU, vU, vU, vU] [(.int 3)] (fun tgt kgo => ?_) ?_
  · refine XS.icmpYes X0.here hx rfl (pc0 := 64) (pc' := 85) rfl (hb hby at_64) rfl (feq cc21).2 (by decide) (by decide) ?_
    show OwnG p e below s₁ m 85 #[vI p1, vI p2, vI p3, vI p4, vI (p1 &&& (3 : Int32)), vI (nar .char (p2 &&& (255 : Int32))), vI (nar .char (p3 &&& (255 : Int32))), vI (nar .char (p4 &&& (255 : Int32))), vU, vU, vU, vU] [] tgt
    refine XS.iconst X0.here hx rfl (hb hby at_85) ?_
    exact kgo
  obtain ⟨T33, h33, k33, X33, e33, E33, A33, st33⟩ := newP X0 hx hZ (own_w hw 0 rfl) e0 (g := (mkF m 86 #[vI p1, vI p2, vI p3, vI p4, vI (p1 &&& (3 : Int32)), vI (nar .char (p2 &&& (255 : Int32))), vI (nar .char (p3 &&& (255 : Int32))), vI (nar .char (p4 &&& (255 : Int32))), vU, vU, vU, vU] [(.int 3)])) rfl (hb hby at_86) rfl (by decide) (cap := 3) (by decide) (by decide) (by decide) (by decide)
  obtain ⟨b33, g33⟩ : ∃ z, z = h0.size := ⟨_, rfl⟩
  rw [← g33] at A33 st33
  refine og T33 m 88 #[vI p1, vI p2, vI p3, vI p4, vI (p1 &&& (3 : Int32)), vI (nar .char (p2 &&& (255 : Int32))), vI (nar .char (p3 &&& (255 : Int32))), vI (nar .char (p4 &&& (255 : Int32))), vU, vU, vU, vU] [(.ref b33)] st33 ?_
  have V33 : Arv Z h33 b33 k33 .char (3 : Int32) [(.int 0), (.int 0), (.int 0)] (.int 0) := (Arv.new A33 (by decide)).pad (pad_rep [] (.int 0) 3)
  have g_b33 : n0 ≤ b33 := Nat.le_trans (Nat.le_trans Z0 K0.1) (Nat.le_of_eq g33.symm)
  have s_b33 : h0.size ≤ b33 := Nat.le_trans K0.1 (Nat.le_of_eq g33.symm)
  have Sf33 : Safe Z consts_1 s.vm h33 b33 := Safe.ext E33 R0.1 (Safe.new (Nat.le_of_eq g33.symm))
  have Ol33 := X00.ext E33
  have K33 : Keep h0 h33 ([] : List Addr) := K0.ext E33
  have R33 := R0.trans (CHr.ext E33 R0.1)
  have hk33 := Nat.le_trans hk0 E33.1
  refine og T33 m 92 #[vI p1, vI p2, vI p3, vI p4, vI (p1 &&& (3 : Int32)), vI (nar .char (p2 &&& (255 : Int32))), vI (nar .char (p3 &&& (255 : Int32))), vI (nar .char (p4 &&& (255 : Int32))), vU, vU, vU, vU] [(.int (nar .char (p2 &&& (255 : Int32)))), (.int 0), (.ref b33), (.ref b33)] (fun tgt kgo => ?_) ?_
  · refine XS.dup X33.here hx rfl (hb hby at_88) rfl rfl ?_
    show OwnG p e below T33 m 89 #[vI p1, vI p2, vI p3, vI p4, vI (p1 &&& (3 : Int32)), vI (nar .char (p2 &&& (255 : Int32))), vI (nar .char (p3 &&& (255 : Int32))), vI (nar .char (p4 &&& (255 : Int32))), vU, vU, vU, vU] [(.ref b33), (.ref b33)] tgt
    refine XS.iconst X33.here hx rfl (hb hby at_89) ?_
    show OwnG p e below T33 m 90 #[vI p1, vI p2, vI p3, vI p4, vI (p1 &&& (3 : Int32)), vI (nar .char (p2 &&& (255 : Int32))), vI (nar .char (p3 &&& (255 : Int32))), vI (nar .char (p4 &&& (255 : Int32))), vU, vU, vU, vU] [(.int 0), (.ref b33), (.ref b33)] tgt
    refine XS.iload X33.here hx rfl (hb hby at_90) rfl ?_
    exact kgo
  obtain ⟨cl34, Ar34, q34, S34, M34, H34, G34⟩ := id V33
  obtain ⟨T34, h34, X34, e34, W34, st34⟩ := stC X33 hx hZ e33 Ar34 (j := (0 : Int32)) (inb_of S34 ⟨by decide, by decide⟩) (g := (mkF m 92 #[vI p1, vI p2, vI p3, vI p4, vI (p1 &&& (3 : Int32)), vI (nar .char (p2 &&& (255 : Int32))), vI (nar .char (p3 &&& (255 : Int32))), vI (nar .char (p4 &&& (255 : Int32))), vU, vU, vU, vU] [(.int (nar .char (p2 &&& (255 : Int32)))), (.int 0), (.ref b33), (.ref b33)])) rfl rfl (hb hby at_92)
  refine og T34 m 93 #[vI p1, vI p2, vI p3, vI p4, vI (p1 &&& (3 : Int32)), vI (nar .char (p2 &&& (255 : Int32))), vI (nar .char (p3 &&& (255 : Int32))), vI (nar .char (p4 &&& (255 : Int32))), vU, vU, vU, vU] [(.ref b33)] st34 ?_
  have V34 : Arv Z h34 b33 k33 .char (3 : Int32) [(.int (nar .char (nar .char (p2 &&& (255 : Int32))))), (.int 0), (.int 0)] (.int 0) := Arv.set Ar34 q34 S34 M34 H34 G34 (fits_nar_char _) W34 0 rfl (Nat.le_of_ble_eq_true rfl)
  rw [own_nar2_char] at V34
  have V34' : Arv Z h34 b33 k33 .char (3 : Int32) [(.int (nar .char (p2 &&& (255 : Int32)))), (.int 0), (.int 0)] (.int 0) := V34
  have F34_51 := Safe.wr W34 Sf33 R33.1 Sf33
  have Ol34 := Ol33.wr W34 g_b33
  have K34 : Keep h0 h34 ([] : List Addr) := K33.wr W34 (Or.inr s_b33)
  have R34 := R33.trans (CHr.wr W34 Sf33 R33.1)
  have hk34 := Nat.le_trans hk33 (Keep.of_wr W34).1
  have N34 := Fr.snoc X34 N0 g_b33
  refine og T34 m 97 #[vI p1, vI p2, vI p3, vI p4, vI (p1 &&& (3 : Int32)), vI (nar .char (p2 &&& (255 : Int32))), vI (nar .char (p3 &&& (255 : Int32))), vI (nar .char (p4 &&& (255 : Int32))), vU, vU, vU, vU] [(.int (nar .char (p3 &&& (255 : Int32)))), (.int 1), (.ref b33), (.ref b33)] (fun tgt kgo => ?_) ?_
  · refine XS.dup X34.here hx rfl (hb hby at_93) rfl rfl ?_
    show OwnG p e below T34 m 94 #[vI p1, vI p2, vI p3, vI p4, vI (p1 &&& (3 : Int32)), vI (nar .char (p2 &&& (255 : Int32))), vI (nar .char (p3 &&& (255 : Int32))), vI (nar .char (p4 &&& (255 : Int32))), vU, vU, vU, vU] [(.ref b33), (.ref b33)] tgt
    refine XS.iconst X34.here hx rfl (hb hby at_94) ?_
    show OwnG p e below T34 m 95 #[vI p1, vI p2, vI p3, vI p4, vI (p1 &&& (3 : Int32)), vI (nar .char (p2 &&& (255 : Int32))), vI (nar .char (p3 &&& (255 : Int32))), vI (nar .char (p4 &&& (255 : Int32))), vU, vU, vU, vU] [(.int 1), (.ref b33), (.ref b33)] tgt
    refine XS.iload X34.here hx rfl (hb hby at_95) rfl ?_
    exact kgo
  obtain ⟨cl35, Ar35, q35, S35, M35, H35, G35⟩ := id V34'
  obtain ⟨T35, h35, X35, e35, W35, st35⟩ := stC X34 hx hZ e34 Ar35 (j := (1 : Int32)) (inb_of S35 ⟨by decide, by decide⟩) (g := (mkF m 97 #[vI p1, vI p2, vI p3, vI p4, vI (p1 &&& (3 : Int32)), vI (nar .char (p2 &&& (255 : Int32))), vI (nar .char (p3 &&& (255 : Int32))), vI (nar .char (p4 &&& (255 : Int32))), vU, vU, vU, vU] [(.int (nar .char (p3 &&& (255 : Int32)))), (.int 1), (.ref b33), (.ref b33)])) rfl rfl (hb hby at_97)
  refine og T35 m 98 #[vI p1, vI p2, vI p3, vI p4, vI (p1 &&& (3 : Int32)), vI (nar .char (p2 &&& (255 : Int32))), vI (nar .char (p3 &&& (255 : Int32))), vI (nar .char (p4 &&& (255 : Int32))), vU, vU, vU, vU] [(.ref b33)] st35 ?_
  have V35 : Arv Z h35 b33 k33 .char (3 : Int32) [(.int (nar .char (p2 &&& (255 : Int32)))), (.int (nar .char (nar .char (p3 &&& (255 : Int32))))), (.int 0)] (.int 0) := Arv.set Ar35 q35 S35 M35 H35 G35 (fits_nar_char _) W35 1 rfl (Nat.le_of_ble_eq_true rfl)
  rw [own_nar2_char] at V35
  have V35' : Arv Z h35 b33 k33 .char (3 : Int32) [(.int (nar .char (p2 &&& (255 : Int32)))), (.int (nar .char (p3 &&& (255 : Int32)))), (.int 0)] (.int 0) := V35
  have F35_52 := Safe.wr W35 F34_51 R34.1 F34_51
  have Ol35 := Ol34.wr W35 g_b33
  have K35 : Keep h0 h35 ([] : List Addr) := K34.wr W35 (Or.inr s_b33)
  have R35 := R34.trans (CHr.wr W35 F34_51 R34.1)
  have hk35 := Nat.le_trans hk34 (Keep.of_wr W35).1
  have N35 := Fr.snoc X35 N34 g_b33
  refine og T35 m 102 #[vI p1, vI p2, vI p3, vI p4, vI (p1 &&& (3 : Int32)), vI (nar .char (p2 &&& (255 : Int32))), vI (nar .char (p3 &&& (255 : Int32))), vI (nar .char (p4 &&& (255 : Int32))), vU, vU, vU, vU] [(.int (nar .char (p4 &&& (255 : Int32)))), (.int 2), (.ref b33), (.ref b33)] (fun tgt kgo => ?_) ?_
  · refine XS.dup X35.here hx rfl (hb hby at_98) rfl rfl ?_
    show OwnG p e below T35 m 99 #[vI p1, vI p2, vI p3, vI p4, vI (p1 &&& (3 : Int32)), vI (nar .char (p2 &&& (255 : Int32))), vI (nar .char (p3 &&& (255 : Int32))), vI (nar .char (p4 &&& (255 : Int32))), vU, vU, vU, vU] [(.ref b33), (.ref b33)] tgt
    refine XS.iconst X35.here hx rfl (hb hby at_99) ?_
    show OwnG p e below T35 m 100 #[vI p1, vI p2, vI p3, vI p4, vI (p1 &&& (3 : Int32)), vI (nar .char (p2 &&& (255 : Int32))), vI (nar .char (p3 &&& (255 : Int32))), vI (nar .char (p4 &&& (255 : Int32))), vU, vU, vU, vU] [(.int 2), (.ref b33), (.ref b33)] tgt
    refine XS.iload X35.here hx rfl (hb hby at_100) rfl ?_
    exact kgo
  obtain ⟨cl36, Ar36, q36, S36, M36, H36, G36⟩ := id V35'
  obtain ⟨T36, h36, X36, e36, W36, st36⟩ := stC X35 hx hZ e35 Ar36 (j := (2 : Int32)) (inb_of S36 ⟨by decide, by decide⟩) (g := (mkF m 102 #[vI p1, vI p2, vI p3, vI p4, vI (p1 &&& (3 : Int32)), vI (nar .char (p2 &&& (255 : Int32))), vI (nar .char (p3 &&& (255 : Int32))), vI (nar .char (p4 &&& (255 : Int32))), vU, vU, vU, vU] [(.int (nar .char (p4 &&& (255 : Int32)))), (.int 2), (.ref b33), (.ref b33)])) rfl rfl (hb hby at_102)
  refine og T36 m 103 #[vI p1, vI p2, vI p3, vI p4, vI (p1 &&& (3 : Int32)), vI (nar .char (p2 &&& (255 : Int32))), vI (nar .char (p3 &&& (255 : Int32))), vI (nar .char (p4 &&& (255 : Int32))), vU, vU, vU, vU] [(.ref b33)] st36 ?_
  have V36 : Arv Z h36 b33 k33 .char (3 : Int32) [(.int (nar .char (p2 &&& (255 : Int32)))), (.int (nar .char (p3 &&& (255 : Int32)))), (.int (nar .char (nar .char (p4 &&& (255 : Int32)))))] (.int 0) := Arv.set Ar36 q36 S36 M36 H36 G36 (fits_nar_char _) W36 2 rfl (Nat.le_of_ble_eq_true rfl)
  rw [own_nar2_char] at V36
  have V36' : Arv Z h36 b33 k33 .char (3 : Int32) [(.int (nar .char (p2 &&& (255 : Int32)))), (.int (nar .char (p3 &&& (255 : Int32)))), (.int (nar .char (p4 &&& (255 : Int32))))] (.int 0) := V36
  have F36_53 := Safe.wr W36 F35_52 R35.1 F35_52
  have Ol36 := Ol35.wr W36 g_b33
  have K36 : Keep h0 h36 ([] : List Addr) := K35.wr W36 (Or.inr s_b33)
  have R36 := R35.trans (CHr.wr W36 F35_52 R35.1)
  have hk36 := Nat.le_trans hk35 (Keep.of_wr W36).1
  have N36 := Fr.snoc X36 N35 g_b33
  refine og T36 m 105 #[vI p1, vI p2, vI p3, vI p4, vI (p1 &&& (3 : Int32)), vI (nar .char (p2 &&& (255 : Int32))), vI (nar .char (p3 &&& (255 : Int32))), vI (nar .char (p4 &&& (255 : Int32))), vR b33, vU, vU, vU] [] (fun tgt kgo => ?_) ?_
  · refine XS.astore X36.here hx rfl (hb hby at_103) rfl rfl (l' := #[vI p1, vI p2, vI p3, vI p4, vI (p1 &&& (3 : Int32)), vI (nar .char (p2 &&& (255 : Int32))), vI (nar .char (p3 &&& (255 : Int32))), vI (nar .char (p4 &&& (255 : Int32))), vR b33, vU, vU, vU]) rfl ?_
    exact kgo
  obtain ⟨T37, h37, X37, e37, E37, A37, D37, U37, st37⟩ := newO X36 hx hZ hown (own_w hw 1 rfl) (own_w hw 2 rfl) (own_w hw 3 rfl) e36 (g := (mkF m 105 #[vI p1, vI p2, vI p3, vI p4, vI (p1 &&& (3 : Int32)), vI (nar .char (p2 &&& (255 : Int32))), vI (nar .char (p3 &&& (255 : Int32))), vI (nar .char (p4 &&& (255 : Int32))), vR b33, vU, vU, vU] [])) rfl (hb hby at_105) (by decide) (by decide)
  obtain ⟨b37, g37⟩ : ∃ z, z = h36.size := ⟨_, rfl⟩
  rw [← g37] at A37 D37 U37 st37
  refine og T37 m 108 #[vI p1, vI p2, vI p3, vI p4, vI (p1 &&& (3 : Int32)), vI (nar .char (p2 &&& (255 : Int32))), vI (nar .char (p3 &&& (255 : Int32))), vI (nar .char (p4 &&& (255 : Int32))), vR b33, vU, vU, vU] [(.ref b37)] st37 ?_
  have ne_b33_b37 : b33 ≠ b37 := Nat.ne_of_lt (Nat.lt_of_lt_of_le V36'.lt (Nat.le_of_eq g37.symm))
  have g_b37 : n0 ≤ b37 := Nat.le_trans (Nat.le_trans Z0 K36.1) (Nat.le_of_eq g37.symm)
  have s_b37 : h0.size ≤ b37 := Nat.le_trans K36.1 (Nat.le_of_eq g37.symm)
  have Sf37 : Safe Z consts_1 s.vm h37 b37 := Safe.ext E37 R36.1 (Safe.new (Nat.le_of_eq g37.symm))
  have F37_54 := Safe.ext E37 R36.1 F36_53
  have F37_55 := V36'.ext E37
  have Ol37 := Ol36.ext E37
  have K37 : Keep h0 h37 ([] : List Addr) := K36.ext E37
  have R37 := R36.trans (CHr.ext E37 R36.1)
  have hk37 := Nat.le_trans hk36 E37.1
  have F37_56 : Fld Z h37 b37 "java/lang/String" "value" "[B" .null := D37 (Or.inr (own_w hw 16 rfl)) (ty := (.array .byte)) (by decide)
  have F37_57 : Fld Z h37 b37 "java/lang/String" "coder" "B" (.int 0) := D37 (Or.inr (own_w hw 17 rfl)) (ty := .byte) (by decide)
  refine og T37 m 111 #[vI p1, vI p2, vI p3, vI p4, vI (p1 &&& (3 : Int32)), vI (nar .char (p2 &&& (255 : Int32))), vI (nar .char (p3 &&& (255 : Int32))), vI (nar .char (p4 &&& (255 : Int32))), vR b33, vU, vU, vU] [(.ref b33), (.ref b37), (.ref b37)] (fun tgt kgo => ?_) ?_
  · refine XS.dup X37.here hx rfl (hb hby at_108) rfl rfl ?_
    show OwnG p e below T37 m 109 #[vI p1, vI p2, vI p3, vI p4, vI (p1 &&& (3 : Int32)), vI (nar .char (p2 &&& (255 : Int32))), vI (nar .char (p3 &&& (255 : Int32))), vI (nar .char (p4 &&& (255 : Int32))), vR b33, vU, vU, vU] [(.ref b37), (.ref b37)] tgt
    refine XS.aload X37.here hx rfl (hb hby at_109) rfl rfl ?_
    exact kgo
  have hp39 : ∀ c ∈ ([(nar .char (p2 &&& (255 : Int32))), (nar .char (p3 &&& (255 : Int32))), (nar .char (p4 &&& (255 : Int32)))] : List Int32), ¬ c < 0 ∧ ¬ (255 : Int32) < c := (own_memS (own_lat255 p2) (own_memS (own_lat255 p3) (own_memS (own_lat255 p4) own_mem0)))
  have V39c : Arv Z h37 b33 k33 .char (3 : Int32) (([(nar .char (p2 &&& (255 : Int32))), (nar .char (p3 &&& (255 : Int32))), (nar .char (p4 &&& (255 : Int32)))] : List Int32).map Value.int) (.int 0) := F37_55
  obtain ⟨_, _, ⟨T38, L38, k38, n38⟩, -, X38, ⟨Lc38, hQ38, l38, y38, z38⟩, st38⟩ := X37.specialBack hx (y := mN1) rfl hown (mvT hZ (own_w hw 4 rfl)) (mvT hZ (own_w hw 5 rfl)) (mvT hZ (own_w hw 6 rfl)) (by decide) (StrChars.Road.backV (W := 1) hZ (fun d hd => hw d (own_hws d hd)) (kI := 4) (own_w hw 2 rfl) (cs := ([(nar .char (p2 &&& (255 : Int32))), (nar .char (p3 &&& (255 : Int32))), (nar .char (p4 &&& (255 : Int32)))] : List Int32)) (bs := ([(nar .char (p2 &&& (255 : Int32))), (nar .char (p3 &&& (255 : Int32))), (nar .char (p4 &&& (255 : Int32)))] : List Int32).map (fun c => c.toInt8.toInt32)) (n := 3) g_b37 (Nat.le_trans Z0 K37.1) A37 F37_56 F37_57 V39c (wO2.ext Ol37.2) wP5 rfl rfl (by decide) (by decide) hp39 rfl (by decide) (by decide)) (g := (mkF m 111 #[vI p1, vI p2, vI p3, vI p4, vI (p1 &&& (3 : Int32)), vI (nar .char (p2 &&& (255 : Int32))), vI (nar .char (p3 &&& (255 : Int32))), vI (nar .char (p4 &&& (255 : Int32))), vR b33, vU, vU, vU] [(.ref b33), (.ref b37), (.ref b37)])) rfl (by rw [hml]; rfl) (Steps.refl _) (a := b37) (argsL := [(.ref b33)]) (rest := [(.ref b37)]) (lenOf pd_68446664 rfl) rfl (Nat.le_of_eq rfl) (hb hby at_111) (fun _ _ => ⟨rfl, e37, (by decide : 2 + 1 ≤ _), (by decide : 7 + 3 ≤ _)⟩)
  dsimp only [Pt.U, Pt.locs, Pt.cells, Pt.slots] at X38 l38 y38 z38 st38 hQ38
  subst l38 y38 z38
  obtain ⟨rfl, Nq38, Kq38, fe38, fc38, t38, kb38, ut38, vt38, wt38, fv38, fa38⟩ := hQ38
  refine OwnGoes.tr (T' := T38) (g' := (mkF m 114 #[vI p1, vI p2, vI p3, vI p4, vI (p1 &&& (3 : Int32)), vI (nar .char (p2 &&& (255 : Int32))), vI (nar .char (p3 &&& (255 : Int32))), vI (nar .char (p4 &&& (255 : Int32))), vR b33, vU, vU, vU] [(.ref b37)])) st38 ?_
  have N38 := Fr.app N36 Nq38
  have ne_b33_t38 : b33 ≠ t38 := Nat.ne_of_lt (Nat.lt_of_lt_of_le F37_55.lt vt38)
  have ne_b37_t38 : b37 ≠ t38 := Nat.ne_of_lt (Nat.lt_of_lt_of_le A37.lt vt38)
  have g_t38 : n0 ≤ t38 := Nat.le_trans (Nat.le_trans Z0 K37.1) vt38
  have s_t38 : h0.size ≤ t38 := Nat.le_trans K37.1 vt38
  have Sf38 : Safe Z consts_1 s.vm T38.heap t38 := Safe.keep Kq38 (sfS Sf37 sf0) R37.1 (Safe.new vt38)
  have F38_58 := Safe.keep Kq38 (sfS Sf37 sf0) R37.1 F37_54
  have F38_59 := F37_55.keep Kq38 (ninS ne_b33_b37 nin0)
  have F38_60 := Safe.keep Kq38 (sfS Sf37 sf0) R37.1 Sf37
  have F38_61 := A37.keep Kq38
  have Ol38 := Ol37.keep Kq38 (allS g_b37 all0)
  have K38 : Keep h0 T38.heap ([] : List Addr) := K37.trans Kq38 (allS (Or.inr s_b37) all0)
  have R38 := R37.trans (CHr.keep Kq38 (sfS Sf37 sf0) R37.1)
  have hk38 := Nat.le_trans hk37 Kq38.1
  refine og T38 m 118 #[vI p1, vI p2, vI p3, vI p4, vI (p1 &&& (3 : Int32)), vI (nar .char (p2 &&& (255 : Int32))), vI (nar .char (p3 &&& (255 : Int32))), vI (nar .char (p4 &&& (255 : Int32))), vR b33, vR b37, vU, vU] [(.ref b37)] (fun tgt kgo => ?_) ?_
  · refine XS.astore X38.here hx rfl (hb hby at_114) rfl rfl (l' := #[vI p1, vI p2, vI p3, vI p4, vI (p1 &&& (3 : Int32)), vI (nar .char (p2 &&& (255 : Int32))), vI (nar .char (p3 &&& (255 : Int32))), vI (nar .char (p4 &&& (255 : Int32))), vR b33, vR b37, vU, vU]) rfl ?_
    show OwnG p e below T38 m 116 #[vI p1, vI p2, vI p3, vI p4, vI (p1 &&& (3 : Int32)), vI (nar .char (p2 &&& (255 : Int32))), vI (nar .char (p3 &&& (255 : Int32))), vI (nar .char (p4 &&& (255 : Int32))), vR b33, vR b37, vU, vU] [] tgt
    refine XS.aload X38.here hx rfl (hb hby at_116) rfl rfl ?_
    exact kgo
  obtain ⟨_, _, ⟨T40, L40, k40, n40⟩, -, X40, ⟨Lc40, hQ40, l40, y40, z40⟩, st40⟩ := Jvm.LawKit.callS X38 hx (y := mN5) hown (mvT hZ (own_w hw 22 rfl)) (mvT hZ (own_w hw 23 rfl)) (mvT hZ (own_w hw 24 rfl)) (mvT hZ (own_w hw 25 rfl)) (by decide) (backOfKL (W := 0) (rm_refused l Z a0 hw [] wG1 wO2 wP5 wG3 wO4 wrG3 hstr hl wG7 wO7 wG8 wO8 hEL T38.heap n0 Ol38 b37) hZ (own_w hw 25 rfl) (own_w hw 24 rfl) (by decide) (by decide) (own_mk (s := s) hS0 hK.1) (own_fk (s := s) hS0 hK.2)) (g := (mkF m 118 #[vI p1, vI p2, vI p3, vI p4, vI (p1 &&& (3 : Int32)), vI (nar .char (p2 &&& (255 : Int32))), vI (nar .char (p3 &&& (255 : Int32))), vI (nar .char (p4 &&& (255 : Int32))), vR b33, vR b37, vU, vU] [(.ref b37)])) rfl (by rw [hml]; rfl) (argsL := [(.ref b37)]) (rest := []) (lenOf pd_77505385 rfl) rfl (Nat.le_of_eq rfl) (hb hby at_118) (fun _ _ => ⟨rfl, rfl, (by decide : 3 + 2 ≤ _), (by decide : 10 + 2759 ≤ _)⟩)
  dsimp only [Pt.U, Pt.locs, Pt.cells, Pt.slots] at X40 l40 y40 z40 st40 hQ40
  subst l40 y40 z40
  obtain ⟨x_40, rfl, Nq40, Kq40, zq40_0, fq40_0, fq40_1, fq40_2⟩ := hQ40
  refine og T40 m 121 #[vI p1, vI p2, vI p3, vI p4, vI (p1 &&& (3 : Int32)), vI (nar .char (p2 &&& (255 : Int32))), vI (nar .char (p3 &&& (255 : Int32))), vI (nar .char (p4 &&& (255 : Int32))), vR b33, vR b37, vU, vU] [(.ref x_40)] st40 ?_
  have N40 := Fr.app N38 Nq40
  have ne_b33_x_40 : b33 ≠ x_40 := Nat.ne_of_lt (Nat.lt_of_lt_of_le F38_59.lt zq40_0)
  have ne_b37_x_40 : b37 ≠ x_40 := Nat.ne_of_lt (Nat.lt_of_lt_of_le fe38.lt zq40_0)
  have ne_t38_x_40 : t38 ≠ x_40 := Nat.ne_of_lt (Nat.lt_of_lt_of_le fa38.lt zq40_0)
  have g_x_40 : n0 ≤ x_40 := Nat.le_trans (Nat.le_trans Z0 K38.1) zq40_0
  have s_x_40 : h0.size ≤ x_40 := Nat.le_trans K38.1 zq40_0
  have Sn40_0 : Safe Z consts_1 s.vm T40.heap x_40 := Safe.keep Kq40 sf0 R38.1 (Safe.new zq40_0)
  have F40_62 := Safe.keep Kq40 sf0 R38.1 F38_58
  have F40_63 := F38_59.keep Kq40 nin0
  have F40_64 := Safe.keep Kq40 sf0 R38.1 F38_60
  have F40_65 := fe38.keep Kq40
  have F40_66 := Safe.keep Kq40 sf0 R38.1 Sf38
  have F40_67 := fc38.keep Kq40 nin0
  have F40_68 := fv38.keep Kq40 nin0
  have F40_69 := fa38.keep Kq40 nin0
  have Ol40 := Ol38.keep Kq40 all0
  have K40 : Keep h0 T40.heap ([] : List Addr) := K38.trans Kq40 all0
  have R40 := R38.trans (CHr.keep Kq40 sf0 R38.1)
  have hk40 := Nat.le_trans hk38 Kq40.1
  refine og T40 m 125 #[vI p1, vI p2, vI p3, vI p4, vI (p1 &&& (3 : Int32)), vI (nar .char (p2 &&& (255 : Int32))), vI (nar .char (p3 &&& (255 : Int32))), vI (nar .char (p4 &&& (255 : Int32))), vR b33, vR b37, vR x_40, vU] [(.ref x_40)] (fun tgt kgo => ?_) ?_
  · refine XS.astore X40.here hx rfl (hb hby at_121) rfl rfl (l' := #[vI p1, vI p2, vI p3, vI p4, vI (p1 &&& (3 : Int32)), vI (nar .char (p2 &&& (255 : Int32))), vI (nar .char (p3 &&& (255 : Int32))), vI (nar .char (p4 &&& (255 : Int32))), vR b33, vR b37, vR x_40, vU]) rfl ?_
    show OwnG p e below T40 m 123 #[vI p1, vI p2, vI p3, vI p4, vI (p1 &&& (3 : Int32)), vI (nar .char (p2 &&& (255 : Int32))), vI (nar .char (p3 &&& (255 : Int32))), vI (nar .char (p4 &&& (255 : Int32))), vR b33, vR b37, vR x_40, vU] [] tgt
    refine XS.aload X40.here hx rfl (hb hby at_123) rfl rfl ?_
    exact kgo
  obtain ⟨cq41, kq41, q41a, q41b, q41c⟩ := isOf (s := (s.setVm s.vm)) hZ rfl fq40_0
  obtain ⟨_, _, ⟨T41, L41, k41, n41⟩, -, X41, ⟨Lc41, hQ41, l41, y41, z41⟩, st41⟩ := X40.virtualBack hx (y := mN6) (z := mN6) hown (mvT hZ (own_w hw 81 rfl)) (mvT hZ (own_w hw 82 rfl)) (notFace_of_selects (args := #[]) (mvT hZ (own_w hw 84 rfl))) (mvT hZ (own_w hw 84 rfl)) (mvT hZ (own_w hw 83 rfl)) (by decide) (backOf (W := 0) (rm_status l Z a0 hw [] wG1 wO2 wP5 wG3 wO4 wrG3 hstr hl wG7 wO7 wG8 wO8 hEL T40.heap n0 Ol40 x_40 (401 : Int32) fq40_1) hZ (own_w hw 85 rfl) (own_w hw 24 rfl) (by decide) (by decide)) q41a q41c (g := (mkF m 125 #[vI p1, vI p2, vI p3, vI p4, vI (p1 &&& (3 : Int32)), vI (nar .char (p2 &&& (255 : Int32))), vI (nar .char (p3 &&& (255 : Int32))), vI (nar .char (p4 &&& (255 : Int32))), vR b33, vR b37, vR x_40, vU] [(.ref x_40)])) rfl (by rw [hml]; rfl) (Steps.refl _) (argsL := []) (rest := []) (lenOf pd_86913941 rfl) rfl (Nat.le_of_eq rfl) (hb hby at_125) (fun _ _ => ⟨rfl, rfl, (by decide : 5 + 0 ≤ _), (by decide : 2769 + 0 ≤ _)⟩)
  dsimp only [Pt.U, Pt.locs, Pt.cells, Pt.slots] at X41 l41 y41 z41 st41 hQ41
  subst l41 y41 z41
  obtain ⟨rfl, Nq41, eq41⟩ := hQ41
  refine OwnGoes.tr (T' := T41) (g' := (mkF m 128 #[vI p1, vI p2, vI p3, vI p4, vI (p1 &&& (3 : Int32)), vI (nar .char (p2 &&& (255 : Int32))), vI (nar .char (p3 &&& (255 : Int32))), vI (nar .char (p4 &&& (255 : Int32))), vR b33, vR b37, vR x_40, vU] [(.int 401)])) st41 ?_
  have N41 := Fr.app N40 Nq41
  refine og T41 m 138 #[vI p1, vI p2, vI p3, vI p4, vI (p1 &&& (3 : Int32)), vI (nar .char (p2 &&& (255 : Int32))), vI (nar .char (p3 &&& (255 : Int32))), vI (nar .char (p4 &&& (255 : Int32))), vR b33, vR b37, vR x_40, vU] [(.ref x_40)] (fun tgt kgo => ?_) ?_
  · refine XS.sipush X41.here hx rfl (hb hby at_128) ?_
    show OwnG p e below T41 m 131 #[vI p1, vI p2, vI p3, vI p4, vI (p1 &&& (3 : Int32)), vI (nar .char (p2 &&& (255 : Int32))), vI (nar .char (p3 &&& (255 : Int32))), vI (nar .char (p4 &&& (255 : Int32))), vR b33, vR b37, vR x_40, vU] [(.int 401), (.int 401)] tgt
    refine XS.icmpYes X41.here hx rfl (pc0 := 131) (pc' := 136) rfl (hb hby at_131) rfl (teq (by decide : (401 : Int32) = (401 : Int32))).1 (by decide) (by decide) ?_
    show OwnG p e below T41 m 136 #[vI p1, vI p2, vI p3, vI p4, vI (p1 &&& (3 : Int32)), vI (nar .char (p2 &&& (255 : Int32))), vI (nar .char (p3 &&& (255 : Int32))), vI (nar .char (p4 &&& (255 : Int32))), vR b33, vR b37, vR x_40, vU] [] tgt
    refine XS.aload X41.here hx rfl (hb hby at_136) rfl rfl ?_
    exact kgo
  obtain ⟨cq42, kq42, q42a, q42b, q42c⟩ := isOf (s := (s.setVm s.vm)) hZ eq41 fq40_0
  obtain ⟨_, _, ⟨T42, L42, k42, n42⟩, -, X42, ⟨Lc42, hQ42, l42, y42, z42⟩, st42⟩ := X41.virtualBackUp hx (x := mN9) (y := mN7) (owner := "java/lang/Throwable") hown (mvT hZ (own_w hw 86 rfl)) (mvT hZ (own_w hw 87 rfl)) (mvT hZ (own_w hw 88 rfl)) (by decide) (mvT hZ (own_w hw 90 rfl)) (mvT hZ (own_w hw 89 rfl)) (backOf (W := 0) (rm_getMessage l Z a0 hw [] wG1 wO2 wP5 wG3 wO4 wrG3 hstr hl wG7 wO7 wG8 wO8 hEL T40.heap n0 Ol40 x_40 b37 fq40_2) hZ (own_w hw 91 rfl) (own_w hw 40 rfl) (by decide) (by decide)) q42a q42c (g := (mkF m 138 #[vI p1, vI p2, vI p3, vI p4, vI (p1 &&& (3 : Int32)), vI (nar .char (p2 &&& (255 : Int32))), vI (nar .char (p3 &&& (255 : Int32))), vI (nar .char (p4 &&& (255 : Int32))), vR b33, vR b37, vR x_40, vU] [(.ref x_40)])) rfl (by rw [hml]; rfl) (Steps.refl _) (argsL := []) (rest := []) (lenOf pd_24953479 rfl) rfl (Nat.le_of_eq rfl) (hb hby at_138) (fun _ _ => ⟨rfl, eq41, (by decide : 5 + 0 ≤ _), (by decide : 2769 + 0 ≤ _)⟩)
  dsimp only [Pt.U, Pt.locs, Pt.cells, Pt.slots] at X42 l42 y42 z42 st42 hQ42
  subst l42 y42 z42
  obtain ⟨rfl, Nq42, eq42⟩ := hQ42
  refine OwnGoes.tr (T' := T42) (g' := (mkF m 141 #[vI p1, vI p2, vI p3, vI p4, vI (p1 &&& (3 : Int32)), vI (nar .char (p2 &&& (255 : Int32))), vI (nar .char (p3 &&& (255 : Int32))), vI (nar .char (p4 &&& (255 : Int32))), vR b33, vR b37, vR x_40, vU] [(.ref b37)])) st42 ?_
  have N42 := Fr.app N41 Nq42
  refine og T42 m 154 #[vI p1, vI p2, vI p3, vI p4, vI (p1 &&& (3 : Int32)), vI (nar .char (p2 &&& (255 : Int32))), vI (nar .char (p3 &&& (255 : Int32))), vI (nar .char (p4 &&& (255 : Int32))), vR b33, vR b37, vR x_40, vR b37] [(.ref b37), (.ref b37)] (fun tgt kgo => ?_) ?_
  · refine XS.astore X42.here hx rfl (hb hby at_141) rfl rfl (l' := #[vI p1, vI p2, vI p3, vI p4, vI (p1 &&& (3 : Int32)), vI (nar .char (p2 &&& (255 : Int32))), vI (nar .char (p3 &&& (255 : Int32))), vI (nar .char (p4 &&& (255 : Int32))), vR b33, vR b37, vR x_40, vR b37]) rfl ?_
    show OwnG p e below T42 m 143 #[vI p1, vI p2, vI p3, vI p4, vI (p1 &&& (3 : Int32)), vI (nar .char (p2 &&& (255 : Int32))), vI (nar .char (p3 &&& (255 : Int32))), vI (nar .char (p4 &&& (255 : Int32))), vR b33, vR b37, vR x_40, vR b37] [] tgt
    refine XS.aload X42.here hx rfl (hb hby at_143) rfl rfl ?_
    show OwnG p e below T42 m 145 #[vI p1, vI p2, vI p3, vI p4, vI (p1 &&& (3 : Int32)), vI (nar .char (p2 &&& (255 : Int32))), vI (nar .char (p3 &&& (255 : Int32))), vI (nar .char (p4 &&& (255 : Int32))), vR b33, vR b37, vR x_40, vR b37] [(.ref b37)] tgt
    refine XS.ifnonnullYes X42.here hx rfl (pc0 := 145) (pc' := 150) rfl (hb hby at_145) rfl (by decide) (by decide) ?_
    show OwnG p e below T42 m 150 #[vI p1, vI p2, vI p3, vI p4, vI (p1 &&& (3 : Int32)), vI (nar .char (p2 &&& (255 : Int32))), vI (nar .char (p3 &&& (255 : Int32))), vI (nar .char (p4 &&& (255 : Int32))), vR b33, vR b37, vR x_40, vR b37] [] tgt
    refine XS.aload X42.here hx rfl (hb hby at_150) rfl rfl ?_
    show OwnG p e below T42 m 152 #[vI p1, vI p2, vI p3, vI p4, vI (p1 &&& (3 : Int32)), vI (nar .char (p2 &&& (255 : Int32))), vI (nar .char (p3 &&& (255 : Int32))), vI (nar .char (p4 &&& (255 : Int32))), vR b33, vR b37, vR x_40, vR b37] [(.ref b37)] tgt
    refine XS.aload X42.here hx rfl (hb hby at_152) rfl rfl ?_
    exact kgo
  obtain ⟨cq43, kq43, q43a, q43b, q43c⟩ := isOf (s := (s.setVm s.vm)) hZ eq42 F40_65
  obtain ⟨_, _, ⟨T43, L43, k43, n43⟩, -, X43, ⟨Lc43, hQ43, l43, y43, z43⟩, st43⟩ := X42.virtualBack hx (y := mN8) (z := mN8) hown (mvT hZ (own_w hw 92 rfl)) (mvT hZ (own_w hw 93 rfl)) (notFace_of_selects (args := #[]) (mvT hZ (own_w hw 95 rfl))) (mvT hZ (own_w hw 95 rfl)) (mvT hZ (own_w hw 94 rfl)) (by decide) (backOf (W := 0) (rm_eqsame l Z a0 hw [] wG1 wO2 wP5 wG3 wO4 wrG3 hstr hl wG7 wO7 wG8 wO8 hEL T40.heap n0 Ol40 b37) hZ (own_w hw 96 rfl) (own_w hw 3 rfl) (by decide) (by decide)) q43a q43c (g := (mkF m 154 #[vI p1, vI p2, vI p3, vI p4, vI (p1 &&& (3 : Int32)), vI (nar .char (p2 &&& (255 : Int32))), vI (nar .char (p3 &&& (255 : Int32))), vI (nar .char (p4 &&& (255 : Int32))), vR b33, vR b37, vR x_40, vR b37] [(.ref b37), (.ref b37)])) rfl (by rw [hml]; rfl) (Steps.refl _) (argsL := [(.ref b37)]) (rest := []) (lenOf pd_81697300 rfl) rfl (Nat.le_of_eq rfl) (hb hby at_154) (fun _ _ => ⟨rfl, eq42, (by decide : 5 + 0 ≤ _), (by decide : 2769 + 0 ≤ _)⟩)
  dsimp only [Pt.U, Pt.locs, Pt.cells, Pt.slots] at X43 l43 y43 z43 st43 hQ43
  subst l43 y43 z43
  obtain ⟨rfl, Nq43, eq43⟩ := hQ43
  refine OwnGoes.tr (T' := T43) (g' := (mkF m 157 #[vI p1, vI p2, vI p3, vI p4, vI (p1 &&& (3 : Int32)), vI (nar .char (p2 &&& (255 : Int32))), vI (nar .char (p3 &&& (255 : Int32))), vI (nar .char (p4 &&& (255 : Int32))), vR b33, vR b37, vR x_40, vR b37] [(.int 1)])) st43 ?_
  have N43 := Fr.app N42 Nq43
  refine own_leaveW (Z := Z) (EL := consts_1) X43 hS0 (eq43 ▸ hk40) hlk (v := some (.int 1)) (fun h => by rw [Bd.returns] at h; cases h) (fun fs hr => retN X43 hx (t := .boolean) Bd.returns (by simp) (hb hby at_157) (by rw [(by decide : nar .boolean (1 : Int32) = (1 : Int32))]; exact hr)) (by decide) (by decide) ?_ ?_
  · rw [hh, eq43]
    exact R40.trans (CHv.at X43 hZ hEL R40.1)
  show Q_law Z p1 p2 p3 p4 h0 n0 _ T43.heap _
  rw [eq43]
  exact ⟨rfl, N43⟩
set_option maxRecDepth 65536 in
set_option maxHeartbeats 40000000 in
theorem comes_1 {Post : Tables → Env → Array Value → State → Outcome → State → Prop} (hpost : ∀ tb e args s v u, (limb_1_1.after args s (.returned v) u = true ∧ limb_1_2.after args s (.returned v) u = true ∧ True) → ReturnedEndW s (.returned v) u (Jvm.fieldLocs frame_1_writes args s ++ Jvm.arrayLocs frame_1_arrays args s ++ Jvm.staticLocs frame_1_statics s) 24 6656 → Post tb e args s (.returned v) u) :
    ArmFor flags0 classFile x code maxLocals ret World_1 tables_1 room_1 Calls_1 rest_1 Pre_1 Post := by
  intro l hfl _ _ p e ha hc hk s m args below hf hA hF happ hP
  obtain ⟨hcalls, hrest, hpre⟩ := hP
  obtain ⟨-, -, -, hnamed, -, -, -, hat⟩ := (Spec.applies_iff hf).mp happ
  obtain ⟨hg, hn⟩ := and_e (Cond.before_iff.mp (show (Jvm.Cond.and given_1 narrow_1).before args s = true from hpre))
  obtain ⟨gc, gr0⟩ := and_e hg
  obtain ⟨ga0, gr1⟩ := and_e gr0
  obtain ⟨ga1, gr2⟩ := and_e gr1
  obtain ⟨ga2, gr3⟩ := and_e gr2
  obtain ⟨w0, w1, w2, w3, rfl⟩ : ∃ w0 w1 w2 w3 : Value, args = #[w0, w1, w2, w3] := by
    have hs : args.size = 4 := by simpa [Cond.value, given_1] using gc
    obtain ⟨L⟩ := args
    match L, hs with
    | [w0, w1, w2, w3], _ => exact ⟨w0, w1, w2, w3, rfl⟩
  have hw := fun d (hd : d ∈ tables_1) => atoms_spec (ws := Jvm.Cond.code x code maxLocals ret :: tables_1) hat d (List.mem_cons_of_mem _ hd)
  have hfit : Fit s := fun {y c} hc i hi => by
    obtain ⟨ha, rfl⟩ := Array.getElem?_eq_some_iff.mp hc
    have q := List.all_eq_true.mp ((Array.all_eq_true_iff_forall_mem.mp hF) _ (Array.getElem_mem ha)) i (List.mem_range.mpr hi)
    simpa [Array.getElem?_eq_getElem hi] using q
  obtain ⟨hsets, hown0⟩ := atoms_of _ (rest_1_c_eq ▸ (show rest_1_c.before _ s = true from hrest))
  obtain ⟨i0, ei0⟩ := is_v ga0
  obtain rfl : w0 = (.int i0) := Option.some.inj ei0
  obtain ⟨i1, ei1⟩ := is_v ga1
  obtain rfl : w1 = (.int i1) := Option.some.inj ei1
  obtain ⟨i2, ei2⟩ := is_v ga2
  obtain rfl : w2 = (.int i2) := Option.some.inj ei2
  obtain ⟨i3, ei3⟩ := is_v gr3
  obtain rfl : w3 = (.int i3) := Option.some.inj ei3
  obtain ⟨wG1, e10⟩ := is_v (Cond.before_iff.mp (hsets _ (List.mem_of_getElem? (i := 21) rfl)))
  have wO2 : Sta s s.heap "java/lang/String" "COMPACT_STRINGS" "Z" (.int wG1) := Sta.start e10 (Or.inl (hsets _ (List.mem_of_getElem? (i := 20) rfl)))
  have wP5 : ¬ (wG1 = (0 : Int32)) := gotF (Cond.eq_ints e10 (Term.int_eval (0))) (not_v (Cond.before_iff.mp (hsets _ (List.mem_of_getElem? (i := 22) rfl))))
  obtain ⟨wG3, e14, wrG3⟩ := isR_v (Cond.before_iff.mp (hsets _ (List.mem_of_getElem? (i := 28) rfl)))
  have wO4 : Sta s s.heap "jdk/internal/util/Preconditions" "SIOOBE_FORMATTER" "Ljava/util/function/BiFunction;" wG3 := Sta.start e14 (Or.inl (hsets _ (List.mem_of_getElem? (i := 27) rfl)))
  have hstr : ∀ a ∈ Bundle.stringAtoms, a.before _ s = true := fun d hd => hw d ((by decide +kernel : ∀ d ∈ Bundle.stringAtoms, d ∈ tables_1) d hd)
  have hl : l.stackTraces = true := by unfold Launch.stackTraces; rw [hfl]; decide
  obtain ⟨wG7, e70⟩ := own_refarr (Cond.before_iff.mp (hsets _ (List.mem_of_getElem? (i := 8) rfl)))
  have wO7 : Sta s s.heap "java/lang/Throwable" "UNASSIGNED_STACK" "[Ljava/lang/StackTraceElement;" (.ref wG7) := Sta.start e70 (Or.inl (hsets _ (List.mem_of_getElem? (i := 6) rfl)))
  obtain ⟨wG8, _, cl8, _, e80, -, -, -, -, -, -⟩ := Cond.exactly_spec (hsets _ (List.mem_of_getElem? (i := 13) rfl))
  have wO8 : Sta s s.heap "java/lang/Throwable" "SUPPRESSED_SENTINEL" "Ljava/util/List;" (.ref wG8) := Sta.start e80 (Or.inl (hsets _ (List.mem_of_getElem? (i := 11) rfl)))
  have hEL : EW s #[(.int i0), (.int i1), (.int i2), (.int i3)] consts_1 := (EW.cons (own_w hw 14 rfl) (by decide) EW.nil)
  have hcw : Jvm.Lit.compactW.before _ s = true := (hsets _ (List.mem_of_getElem? (i := 22) rfl))
  have hH : CHv s consts_1 s.vm s.heap := CHv.start hEL (fun p hp => hcalls.2.2.1 p hp) hcw (hstr _ (by simp [Bundle.stringAtoms])) (hstr _ (by simp [Bundle.stringAtoms, Bundle.sN]))
  obtain ⟨n, o, h1, h2, h3, _, L, rfl, ⟨rfl, N⟩, -, hq⟩ := rm_law l s _ hw tables_1 wG1 wO2 wP5 wG3 wO4 wrG3 hstr hl wG7 wO7 wG8 wO8 hEL s.heap s.heap.size (Old.start s) i0 i1 i2 i3 p e ha hc hk s m _ below hf ((Spec.applies_iff_loose hf).mp happ).1 ⟨rfl, State.Warmed39.refl s, rfl, hH⟩ ⟨hcalls.1, hcalls.2.1⟩
  refine ⟨n, _, h1, h2, h3, hpost _ _ _ _ _ _ ⟨Cond.after_iff.mpr rfl, Cond.after_iff.mpr (eq_i res_at (Term.int_eval (1)) rfl), trivial⟩ ⟨hq.1, hq.2.1, hq.2.2.1, (hq.2.2.2.sift fun y hy => Or.inr (N y hy)).mono (by decide) (by decide)⟩⟩
theorem main_1_1 : Claimed_1_1 := comes_1 fun _ _ _ _ _ _ h hF => ⟨h.1, hF⟩
theorem main_1_2 : Claimed_1_2 := comes_1 fun _ _ _ _ _ _ h hF => ⟨h.2.1, hF⟩
end Jvm.Pilot.@@N@@
namespace Jvm.Pilot.@@N@@
open Jvm Jvm.ClassFile Sem Op Lib Jvm.Free Jvm.Stand Jvm.Pilot.@@N@@.Jvm.D
/-! MADE BY PROGRAM (witnessworld.py) out of the Statement's table words and the real class files: 35 classes; the members and pool entries that the words name. The judged class is class 1, her method 1. -/
namespace start1
open Jvm.ClassFile
def u (s : String) : CpInfo := .utf8 (stringToUtf16 s)
/-- a pool by its gaps: so many unusable entries, then the entry; so many at the end -/
def gap : Nat → List CpInfo → List CpInfo
  | 0, r => r
  | n + 1, r => .unusable :: gap n r
def poolList (es : List (Nat × CpInfo)) (last : Nat) : List CpInfo := es.foldr (fun e r => gap e.1 (e.2 :: r)) (gap last [])
def pool (es : List (Nat × CpInfo)) (last : Nat) : Array CpInfo := ⟨poolList es last⟩
def fileOf (pool : Array CpInfo) (this : Nat) (attrs : Array Attribute := #[]) (ms : Array MethodInfo := #[]) (fl : Nat := 33) (sup : Nat := 0) (ifs : Array Nat := #[]) (fds : Array FieldInfo := #[]) : ClassFile where
  minorVersion := 0
  majorVersion := 65
  constantPool := pool
  accessFlags := fl
  thisClass := this
  superClass := sup
  interfaces := ifs
  fields := fds
  methods := ms
  attributes := attrs
def plain (name : String) (sup : Option ClassId) : Class where
  name := name
  kind := .ordinary
  loader := none
  accessFlags := 33
  super := sup
  interfaces := #[]
  cf := none
  fields := #[]
  methods := #[]
  instanceTypes := #[]
  staticTypes := #[]
  resolved := #[]
  callSites := []
  init := .initialized
  statics := none
  mirror := none

def pool0 : Array CpInfo := pool [(5, u "<init>"), (0, u "()V"), (1, .class_ 10), (1, u "java/lang/Object")] 113

def k0c0 : Code := { maxStack := 0, maxLocals := 1, code := object_method_1_code, exceptionTable := #[], attributes := #[] }
def k0m0 : Method := { name := "<init>", desc := "()V", sig := { parameters := [], returnType := none }, accessFlags := 1, code := some k0c0 }
/-- java/lang/Object -/
def k0 : Class := { plain "java/lang/Object" none with
  accessFlags := 33
  interfaces := #[]
  cf := some (fileOf pool0 8 #[] #[{ accessFlags := 1, nameIndex := 5, descriptorIndex := 6, attributes := #[] }] 33 0 #[] #[])
  fields := #[]
  methods := #[k0m0]
  instanceTypes := #[]
  staticTypes := #[]
  resolved := Array.replicate 124 none
  statics := none }

def pool1 : Array CpInfo := pool [(2, .class_ 4), (1, u "java/lang/Object"), (0, u "<init>"), (0, u "()V"), (0, .class_ 8), (0, u "java/lang/String"), (0, .methodref 7 10), (0, .nameAndType 5 11), (0, u "([C)V"), (0, .methodref 13 14), (0, .class_ 15), (0, .nameAndType 16 17), (0, u "com/example/seekret/seekret/server/KeystoreException"), (0, u "refused"), (0, u "(Ljava/lang/String;)Lcom/example/seekret/seekret/server/KeystoreException;"), (0, .methodref 13 19), (0, .nameAndType 20 21), (0, u "status"), (0, u "()I"), (0, .methodref 13 23), (0, .nameAndType 24 25), (0, u "getMessage"), (0, u "()Ljava/lang/String;"), (0, .methodref 7 27), (0, .nameAndType 28 29), (0, u "equals"), (0, u "(Ljava/lang/Object;)Z"), (0, .class_ 31), (0, u "com/example/seekret/seekret/server/KeystoreExceptionRefusedPinLaw"), (2, u "law"), (0, u "(IIII)Z")] 5

def k1m0 : Method := { name := "<init>", desc := "()V", sig := { parameters := [], returnType := none }, accessFlags := 2, code := none }
def k1c1 : Code := { maxStack := 4, maxLocals := 12, code := code, exceptionTable := #[], attributes := #[] }
def k1m1 : Method := { name := "law", desc := "(IIII)Z", sig := { parameters := [.int, .int, .int, .int], returnType := some .boolean }, accessFlags := 9, code := some k1c1 }
/-- com/example/seekret/seekret/server/KeystoreExceptionRefusedPinLaw -/
def k1 : Class := { plain "com/example/seekret/seekret/server/KeystoreExceptionRefusedPinLaw" (some 0) with
  accessFlags := 49
  interfaces := #[]
  cf := some (fileOf pool1 30 #[] #[{ accessFlags := 2, nameIndex := 5, descriptorIndex := 6, attributes := #[] }, { accessFlags := 9, nameIndex := 34, descriptorIndex := 35, attributes := #[] }] 49 2 #[] #[])
  fields := #[]
  methods := #[k1m0, k1m1]
  instanceTypes := #[]
  staticTypes := #[]
  resolved := Array.replicate 41 none
  statics := none }

def pool2 : Array CpInfo := pool [(1, .class_ 2), (0, u "java/io/Serializable"), (0, .class_ 4), (0, u "java/lang/Object")] 2

/-- java/io/Serializable -/
def k2 : Class := { plain "java/io/Serializable" (some 0) with
  accessFlags := 1537
  interfaces := #[]
  cf := some (fileOf pool2 1 #[] #[] 1537 3 #[] #[])
  fields := #[]
  methods := #[]
  instanceTypes := #[]
  staticTypes := #[]
  resolved := Array.replicate 7 none
  statics := none }

def pool3 : Array CpInfo := pool [(1, .class_ 2), (0, u "java/lang/Comparable"), (0, .class_ 4), (0, u "java/lang/Object")] 7

/-- java/lang/Comparable -/
def k3 : Class := { plain "java/lang/Comparable" (some 0) with
  accessFlags := 1537
  interfaces := #[]
  cf := some (fileOf pool3 1 #[] #[] 1537 3 #[] #[])
  fields := #[]
  methods := #[]
  instanceTypes := #[]
  staticTypes := #[]
  resolved := Array.replicate 12 none
  statics := none }

def pool4 : Array CpInfo := pool [(2, .class_ 4), (1, u "java/lang/CharSequence"), (42, .class_ 48), (0, u "java/lang/CharSequence$1CodePointIterator"), (10, .class_ 60), (0, u "java/lang/CharSequence$1CharIterator"), (5, .class_ 67), (0, u "java/lang/Object")] 63

/-- java/lang/CharSequence -/
def k4 : Class := { plain "java/lang/CharSequence" (some 0) with
  accessFlags := 1537
  interfaces := #[]
  cf := some (fileOf pool4 2 #[.nestMembers #[47, 59]] #[] 1537 66 #[] #[])
  fields := #[]
  methods := #[]
  instanceTypes := #[]
  staticTypes := #[]
  resolved := Array.replicate 131 none
  statics := none }

def pool5 : Array CpInfo := pool [(1, .class_ 2), (0, u "java/lang/constant/Constable"), (0, .class_ 4), (0, u "java/lang/Object")] 6

/-- java/lang/constant/Constable -/
def k5 : Class := { plain "java/lang/constant/Constable" (some 0) with
  accessFlags := 1537
  interfaces := #[]
  cf := some (fileOf pool5 1 #[] #[] 1537 3 #[] #[])
  fields := #[]
  methods := #[]
  instanceTypes := #[]
  staticTypes := #[]
  resolved := Array.replicate 11 none
  statics := none }

def pool6 : Array CpInfo := pool [(1, .class_ 2), (0, u "java/lang/constant/ConstantDesc"), (0, .class_ 4), (0, u "java/lang/Object")] 32

/-- java/lang/constant/ConstantDesc -/
def k6 : Class := { plain "java/lang/constant/ConstantDesc" (some 0) with
  accessFlags := 1537
  interfaces := #[]
  cf := some (fileOf pool6 1 #[] #[] 1537 3 #[] #[])
  fields := #[]
  methods := #[]
  instanceTypes := #[]
  staticTypes := #[]
  resolved := Array.replicate 37 none
  statics := none }

def pool7 : Array CpInfo := pool [(1, .methodref 2 3), (0, .class_ 4), (0, .nameAndType 5 6), (0, u "java/lang/Object"), (0, u "<init>"), (0, u "()V"), (0, .string 8), (0, u ""), (0, .fieldref 10 11), (0, .class_ 12), (0, .nameAndType 13 14), (0, u "java/lang/String"), (0, u "value"), (0, u "[B"), (0, .fieldref 10 16), (0, .nameAndType 17 18), (0, u "coder"), (0, u "B"), (2, u "hash"), (0, u "I"), (2, u "hashIsZero"), (0, u "Z"), (0, .methodref 10 28), (0, .nameAndType 5 29), (0, u "([CIILjava/lang/Void;)V"), (8, .fieldref 10 39), (0, .nameAndType 40 26), (0, u "COMPACT_STRINGS"), (1, .class_ 44), (1, u "java/lang/StringUTF16"), (0, u "compress"), (1, .methodref 42 48), (0, .nameAndType 49 50), (0, u "coderFromArrayLen"), (0, u "([BI)B"), (126, .methodref 42 178), (0, .nameAndType 45 179), (0, u "([CII)[B"), (363, u "equals"), (29, u "(Ljava/lang/Object;)Z"), (1, .class_ 576), (0, u "java/lang/CharSequence"), (22, u "CASE_INSENSITIVE_ORDER"), (0, u "Ljava/util/Comparator;"), (409, u "([C)V"), (90, u "serialPersistentFields"), (0, u "[Ljava/io/ObjectStreamField;"), (0, .class_ 1104), (0, u "java/lang/String$CaseInsensitiveComparator"), (1, .class_ 1107), (0, u "java/io/Serializable"), (0, .class_ 1109), (0, u "java/lang/Comparable"), (0, .class_ 1111), (0, u "java/lang/constant/Constable"), (0, .class_ 1113), (0, u "java/lang/constant/ConstantDesc"), (2, u "serialVersionUID"), (0, u "J"), (3, u "REPL"), (0, u "C"), (2, u "LATIN1"), (1, u "UTF16")] 323

def k7m0 : Method := { name := "<init>", desc := "()V", sig := { parameters := [], returnType := none }, accessFlags := 1, code := none }
def k7c1 : Code := { maxStack := 5, maxLocals := 2, code := jdk_42_method_3_code, exceptionTable := #[], attributes := #[] }
def k7m1 : Method := { name := "<init>", desc := "([C)V", sig := { parameters := [(.array .char)], returnType := none }, accessFlags := 1, code := some k7c1 }
def k7c2 : Code := { maxStack := 2, maxLocals := 3, code := jdk_42_method_66_code, exceptionTable := #[], attributes := #[] }
def k7m2 : Method := { name := "equals", desc := "(Ljava/lang/Object;)Z", sig := { parameters := [(.object "java/lang/Object")], returnType := some .boolean }, accessFlags := 1, code := some k7c2 }
def k7c3 : Code := { maxStack := 4, maxLocals := 6, code := jdk_42_method_149_code, exceptionTable := #[], attributes := #[] }
def k7m3 : Method := { name := "<init>", desc := "([CIILjava/lang/Void;)V", sig := { parameters := [(.array .char), .int, .int, (.object "java/lang/Void")], returnType := none }, accessFlags := 2, code := some k7c3 }
/-- java/lang/String -/
def k7 : Class := { plain "java/lang/String" (some 0) with
  accessFlags := 49
  interfaces := #[2, 3, 4, 5, 6]
  cf := some (fileOf pool7 10 #[.nestMembers #[1103]] #[{ accessFlags := 1, nameIndex := 5, descriptorIndex := 6, attributes := #[] }, { accessFlags := 1, nameIndex := 5, descriptorIndex := 1010, attributes := #[] }, { accessFlags := 1, nameIndex := 543, descriptorIndex := 573, attributes := #[] }, { accessFlags := 2, nameIndex := 5, descriptorIndex := 29, attributes := #[] }] 49 2 #[1106, 1108, 575, 1110, 1112] #[{ accessFlags := 18, nameIndex := 13, descriptorIndex := 14, attributes := #[] }, { accessFlags := 18, nameIndex := 17, descriptorIndex := 18, attributes := #[] }, { accessFlags := 2, nameIndex := 21, descriptorIndex := 22, attributes := #[] }, { accessFlags := 2, nameIndex := 25, descriptorIndex := 26, attributes := #[] }, { accessFlags := 26, nameIndex := 1116, descriptorIndex := 1117, attributes := #[] }, { accessFlags := 24, nameIndex := 40, descriptorIndex := 26, attributes := #[] }, { accessFlags := 26, nameIndex := 1101, descriptorIndex := 1102, attributes := #[] }, { accessFlags := 26, nameIndex := 1121, descriptorIndex := 1122, attributes := #[] }, { accessFlags := 25, nameIndex := 599, descriptorIndex := 600, attributes := #[] }, { accessFlags := 24, nameIndex := 1125, descriptorIndex := 18, attributes := #[] }, { accessFlags := 24, nameIndex := 1127, descriptorIndex := 18, attributes := #[] }])
  fields := #[{ name := "value", type := (.array .byte), accessFlags := 18, slot := 0, constantValue := 0 }, { name := "coder", type := .byte, accessFlags := 18, slot := 1, constantValue := 0 }, { name := "hash", type := .int, accessFlags := 2, slot := 2, constantValue := 0 }, { name := "hashIsZero", type := .boolean, accessFlags := 2, slot := 3, constantValue := 0 }, { name := "serialVersionUID", type := .long, accessFlags := 26, slot := 0, constantValue := 0 }, { name := "COMPACT_STRINGS", type := .boolean, accessFlags := 24, slot := 1, constantValue := 0 }, { name := "serialPersistentFields", type := (.array (.object "java/io/ObjectStreamField")), accessFlags := 26, slot := 2, constantValue := 0 }, { name := "REPL", type := .char, accessFlags := 26, slot := 3, constantValue := 0 }, { name := "CASE_INSENSITIVE_ORDER", type := (.object "java/util/Comparator"), accessFlags := 25, slot := 4, constantValue := 0 }, { name := "LATIN1", type := .byte, accessFlags := 24, slot := 5, constantValue := 0 }, { name := "UTF16", type := .byte, accessFlags := 24, slot := 6, constantValue := 0 }]
  methods := #[k7m0, k7m1, k7m2, k7m3]
  instanceTypes := #[(.array .byte), .byte, .int, .boolean]
  staticTypes := #[.long, .boolean, (.array (.object "java/io/ObjectStreamField")), .char, (.object "java/util/Comparator"), .byte, .byte]
  resolved := Array.replicate 1451 none
  statics := some 0 }

def pool8 : Array CpInfo := pool [(1, .methodref 2 3), (0, .class_ 4), (0, .nameAndType 5 6), (0, u "java/lang/Object"), (0, u "<init>"), (0, u "()V"), (0, .fieldref 8 9), (0, .class_ 10), (0, .nameAndType 11 12), (0, u "java/lang/Throwable"), (0, u "cause"), (0, u "Ljava/lang/Throwable;"), (0, .fieldref 8 14), (0, .nameAndType 15 16), (0, u "UNASSIGNED_STACK"), (0, u "[Ljava/lang/StackTraceElement;"), (0, .fieldref 8 18), (0, .nameAndType 19 16), (0, u "stackTrace"), (0, .fieldref 8 21), (0, .nameAndType 22 23), (0, u "SUPPRESSED_SENTINEL"), (0, u "Ljava/util/List;"), (0, .fieldref 8 25), (0, .nameAndType 26 23), (0, u "suppressedExceptions"), (0, .methodref 8 28), (0, .nameAndType 29 30), (0, u "fillInStackTrace"), (0, u "()Ljava/lang/Throwable;"), (0, .fieldref 8 32), (0, .nameAndType 33 34), (0, u "detailMessage"), (0, u "Ljava/lang/String;"), (3, u "()Ljava/lang/String;"), (2, u "getMessage"), (51, .class_ 94), (0, u "java/lang/Throwable$WrappedPrintStream"), (6, .class_ 103), (1, u "java/lang/Throwable$PrintStreamOrWriter"), (61, u "$assertionsDisabled"), (0, u "Z"), (26, .class_ 194), (0, u "java/lang/Throwable$WrappedPrintWriter"), (3, .fieldref 8 199), (0, .nameAndType 200 201), (0, u "backtrace"), (0, u "Ljava/lang/Object;"), (0, .methodref 8 203), (0, .nameAndType 29 204), (0, u "(I)Ljava/lang/Throwable;"), (6, u "depth"), (0, u "I"), (10, u "(Ljava/lang/String;)V"), (45, .class_ 271), (1, u "java/lang/Throwable$SentinelHolder"), (32, u "EMPTY_THROWABLE_ARRAY"), (0, u "[Ljava/lang/Throwable;"), (12, .class_ 319), (0, u "java/io/Serializable"), (0, u "serialVersionUID"), (0, u "J"), (5, u "NULL_CAUSE_MESSAGE"), (0, u "SELF_SUPPRESSION_MESSAGE"), (0, u "CAUSE_CAPTION"), (0, u "SUPPRESSED_CAPTION")] 73

def k8c0 : Code := { maxStack := 2, maxLocals := 1, code := jdk_78_method_1_code, exceptionTable := #[], attributes := #[] }
def k8m0 : Method := { name := "<init>", desc := "()V", sig := { parameters := [], returnType := none }, accessFlags := 1, code := some k8c0 }
def k8c1 : Code := { maxStack := 2, maxLocals := 2, code := jdk_78_method_2_code, exceptionTable := #[], attributes := #[] }
def k8m1 : Method := { name := "<init>", desc := "(Ljava/lang/String;)V", sig := { parameters := [(.object "java/lang/String")], returnType := none }, accessFlags := 1, code := some k8c1 }
def k8c2 : Code := { maxStack := 1, maxLocals := 1, code := jdk_78_method_6_code, exceptionTable := #[], attributes := #[] }
def k8m2 : Method := { name := "getMessage", desc := "()Ljava/lang/String;", sig := { parameters := [], returnType := some (.object "java/lang/String") }, accessFlags := 1, code := some k8c2 }
def k8c3 : Code := { maxStack := 2, maxLocals := 1, code := ⟨#[0x2a, 0xb4, 0x00, 0x11, 0xc7, 0x00, 0x0a, 0x2a, 0xb4, 0x00, 0xc6, 0xc6, 0x00, 0x10, 0x2a, 0x03, 0xb6, 0x00, 0xca, 0x57, 0x2a, 0xb2, 0x00, 0x0d, 0xb5, 0x00, 0x11, 0x2a, 0xb0]⟩, exceptionTable := #[], attributes := #[] }
def k8m3 : Method := { name := "fillInStackTrace", desc := "()Ljava/lang/Throwable;", sig := { parameters := [], returnType := some (.object "java/lang/Throwable") }, accessFlags := 33, code := some k8c3 }
def k8m4 : Method := { name := "fillInStackTrace", desc := "(I)Ljava/lang/Throwable;", sig := { parameters := [.int], returnType := some (.object "java/lang/Throwable") }, accessFlags := 258, code := none }
/-- java/lang/Throwable -/
def k8 : Class := { plain "java/lang/Throwable" (some 0) with
  accessFlags := 33
  interfaces := #[2]
  cf := some (fileOf pool8 8 #[.nestMembers #[193, 93, 101, 269]] #[{ accessFlags := 1, nameIndex := 5, descriptorIndex := 6, attributes := #[] }, { accessFlags := 1, nameIndex := 5, descriptorIndex := 223, attributes := #[] }, { accessFlags := 1, nameIndex := 41, descriptorIndex := 38, attributes := #[] }, { accessFlags := 33, nameIndex := 29, descriptorIndex := 30, attributes := #[] }, { accessFlags := 258, nameIndex := 29, descriptorIndex := 204, attributes := #[] }] 33 2 #[318] #[{ accessFlags := 26, nameIndex := 320, descriptorIndex := 321, attributes := #[] }, { accessFlags := 130, nameIndex := 200, descriptorIndex := 201, attributes := #[] }, { accessFlags := 2, nameIndex := 33, descriptorIndex := 34, attributes := #[] }, { accessFlags := 26, nameIndex := 15, descriptorIndex := 16, attributes := #[] }, { accessFlags := 2, nameIndex := 11, descriptorIndex := 12, attributes := #[] }, { accessFlags := 2, nameIndex := 19, descriptorIndex := 16, attributes := #[] }, { accessFlags := 130, nameIndex := 211, descriptorIndex := 212, attributes := #[] }, { accessFlags := 26, nameIndex := 22, descriptorIndex := 23, attributes := #[] }, { accessFlags := 2, nameIndex := 26, descriptorIndex := 23, attributes := #[] }, { accessFlags := 26, nameIndex := 327, descriptorIndex := 34, attributes := #[] }, { accessFlags := 26, nameIndex := 328, descriptorIndex := 34, attributes := #[] }, { accessFlags := 26, nameIndex := 329, descriptorIndex := 34, attributes := #[] }, { accessFlags := 26, nameIndex := 330, descriptorIndex := 34, attributes := #[] }, { accessFlags := 26, nameIndex := 304, descriptorIndex := 305, attributes := #[] }, { accessFlags := 4120, nameIndex := 165, descriptorIndex := 166, attributes := #[] }])
  fields := #[{ name := "serialVersionUID", type := .long, accessFlags := 26, slot := 0, constantValue := 0 }, { name := "backtrace", type := (.object "java/lang/Object"), accessFlags := 130, slot := 0, constantValue := 0 }, { name := "detailMessage", type := (.object "java/lang/String"), accessFlags := 2, slot := 1, constantValue := 0 }, { name := "UNASSIGNED_STACK", type := (.array (.object "java/lang/StackTraceElement")), accessFlags := 26, slot := 1, constantValue := 0 }, { name := "cause", type := (.object "java/lang/Throwable"), accessFlags := 2, slot := 2, constantValue := 0 }, { name := "stackTrace", type := (.array (.object "java/lang/StackTraceElement")), accessFlags := 2, slot := 3, constantValue := 0 }, { name := "depth", type := .int, accessFlags := 130, slot := 4, constantValue := 0 }, { name := "SUPPRESSED_SENTINEL", type := (.object "java/util/List"), accessFlags := 26, slot := 2, constantValue := 0 }, { name := "suppressedExceptions", type := (.object "java/util/List"), accessFlags := 2, slot := 5, constantValue := 0 }, { name := "NULL_CAUSE_MESSAGE", type := (.object "java/lang/String"), accessFlags := 26, slot := 3, constantValue := 0 }, { name := "SELF_SUPPRESSION_MESSAGE", type := (.object "java/lang/String"), accessFlags := 26, slot := 4, constantValue := 0 }, { name := "CAUSE_CAPTION", type := (.object "java/lang/String"), accessFlags := 26, slot := 5, constantValue := 0 }, { name := "SUPPRESSED_CAPTION", type := (.object "java/lang/String"), accessFlags := 26, slot := 6, constantValue := 0 }, { name := "EMPTY_THROWABLE_ARRAY", type := (.array (.object "java/lang/Throwable")), accessFlags := 26, slot := 7, constantValue := 0 }, { name := "$assertionsDisabled", type := .boolean, accessFlags := 4120, slot := 8, constantValue := 0 }]
  methods := #[k8m0, k8m1, k8m2, k8m3, k8m4]
  instanceTypes := #[(.object "java/lang/Object"), (.object "java/lang/String"), (.object "java/lang/Throwable"), (.array (.object "java/lang/StackTraceElement")), .int, (.object "java/util/List")]
  staticTypes := #[.long, (.array (.object "java/lang/StackTraceElement")), (.object "java/util/List"), (.object "java/lang/String"), (.object "java/lang/String"), (.object "java/lang/String"), (.object "java/lang/String"), (.array (.object "java/lang/Throwable")), .boolean]
  resolved := Array.replicate 404 none
  statics := some 1 }

def pool9 : Array CpInfo := pool [(2, .class_ 4), (1, u "java/lang/Throwable"), (0, u "<init>"), (0, u "()V"), (0, .methodref 2 8), (0, .nameAndType 5 9), (0, u "(Ljava/lang/String;)V"), (9, .class_ 20), (0, u "java/lang/Exception"), (0, u "serialVersionUID"), (0, u "J")] 17

def k9m0 : Method := { name := "<init>", desc := "()V", sig := { parameters := [], returnType := none }, accessFlags := 1, code := none }
def k9c1 : Code := { maxStack := 2, maxLocals := 2, code := jdk_59_method_2_code, exceptionTable := #[], attributes := #[] }
def k9m1 : Method := { name := "<init>", desc := "(Ljava/lang/String;)V", sig := { parameters := [(.object "java/lang/String")], returnType := none }, accessFlags := 1, code := some k9c1 }
/-- java/lang/Exception -/
def k9 : Class := { plain "java/lang/Exception" (some 8) with
  accessFlags := 33
  interfaces := #[]
  cf := some (fileOf pool9 19 #[] #[{ accessFlags := 1, nameIndex := 5, descriptorIndex := 6, attributes := #[] }, { accessFlags := 1, nameIndex := 5, descriptorIndex := 9, attributes := #[] }] 33 2 #[] #[{ accessFlags := 24, nameIndex := 21, descriptorIndex := 22, attributes := #[] }])
  fields := #[{ name := "serialVersionUID", type := .long, accessFlags := 24, slot := 0, constantValue := 0 }]
  methods := #[k9m0, k9m1]
  instanceTypes := #[(.object "java/lang/Object"), (.object "java/lang/String"), (.object "java/lang/Throwable"), (.array (.object "java/lang/StackTraceElement")), .int, (.object "java/util/List")]
  staticTypes := #[.long]
  resolved := Array.replicate 40 none
  statics := none }

def pool10 : Array CpInfo := pool [(1, .methodref 2 3), (0, .class_ 4), (0, .nameAndType 5 6), (0, u "java/lang/Exception"), (0, u "<init>"), (0, u "(Ljava/lang/String;)V"), (0, .fieldref 8 9), (0, .class_ 10), (0, .nameAndType 11 12), (0, u "com/example/seekret/seekret/server/KeystoreException"), (0, u "status"), (0, u "I"), (2, .methodref 8 16), (0, .nameAndType 5 17), (0, u "(ILjava/lang/String;)V"), (6, u "refused"), (0, u "(Ljava/lang/String;)Lcom/example/seekret/seekret/server/KeystoreException;"), (0, u "UNREACHABLE"), (0, u "Ljava/lang/String;"), (1, u "serialVersionUID"), (0, u "J"), (7, u "()I")] 2

def k10c0 : Code := { maxStack := 2, maxLocals := 3, code := prog_26_method_1_code, exceptionTable := #[], attributes := #[] }
def k10m0 : Method := { name := "<init>", desc := "(ILjava/lang/String;)V", sig := { parameters := [.int, (.object "java/lang/String")], returnType := none }, accessFlags := 2, code := some k10c0 }
def k10c1 : Code := { maxStack := 4, maxLocals := 1, code := prog_26_method_3_code, exceptionTable := #[], attributes := #[] }
def k10m1 : Method := { name := "refused", desc := "(Ljava/lang/String;)Lcom/example/seekret/seekret/server/KeystoreException;", sig := { parameters := [(.object "java/lang/String")], returnType := some (.object "com/example/seekret/seekret/server/KeystoreException") }, accessFlags := 8, code := some k10c1 }
def k10c2 : Code := { maxStack := 1, maxLocals := 1, code := prog_26_method_5_code, exceptionTable := #[], attributes := #[] }
def k10m2 : Method := { name := "status", desc := "()I", sig := { parameters := [], returnType := some .int }, accessFlags := 0, code := some k10c2 }
/-- com/example/seekret/seekret/server/KeystoreException -/
def k10 : Class := { plain "com/example/seekret/seekret/server/KeystoreException" (some 9) with
  accessFlags := 48
  interfaces := #[]
  cf := some (fileOf pool10 8 #[] #[{ accessFlags := 2, nameIndex := 5, descriptorIndex := 17, attributes := #[] }, { accessFlags := 8, nameIndex := 24, descriptorIndex := 25, attributes := #[] }, { accessFlags := 0, nameIndex := 11, descriptorIndex := 38, attributes := #[] }] 48 2 #[] #[{ accessFlags := 24, nameIndex := 26, descriptorIndex := 27, attributes := #[] }, { accessFlags := 26, nameIndex := 29, descriptorIndex := 30, attributes := #[] }, { accessFlags := 18, nameIndex := 11, descriptorIndex := 12, attributes := #[] }])
  fields := #[{ name := "UNREACHABLE", type := (.object "java/lang/String"), accessFlags := 24, slot := 0, constantValue := 0 }, { name := "serialVersionUID", type := .long, accessFlags := 26, slot := 1, constantValue := 0 }, { name := "status", type := .int, accessFlags := 18, slot := 6, constantValue := 0 }]
  methods := #[k10m0, k10m1, k10m2]
  instanceTypes := #[(.object "java/lang/Object"), (.object "java/lang/String"), (.object "java/lang/Throwable"), (.array (.object "java/lang/StackTraceElement")), .int, (.object "java/util/List"), .int]
  staticTypes := #[(.object "java/lang/String"), .long]
  resolved := Array.replicate 41 none
  statics := none }

def pool11 : Array CpInfo := pool [(6, .class_ 8), (1, u "java/lang/Object"), (0, u "<init>"), (0, u "()V"), (1, .class_ 14), (1, u "java/lang/StringUTF16"), (31, u "$assertionsDisabled"), (0, u "Z"), (13, u "HI_BYTE_SHIFT"), (0, u "I"), (2, u "LO_BYTE_SHIFT"), (49, .methodref 12 116), (0, .nameAndType 117 118), (0, u "compress"), (0, u "([CI[BII)I"), (3, u "([CII)[B"), (138, u "coderFromArrayLen"), (0, u "([BI)B"), (106, .class_ 371), (1, u "java/lang/StringUTF16$LinesSpliterator"), (58, u "MAX_LENGTH"), (196, .class_ 628), (0, u "java/lang/StringUTF16$CodePointsSpliterator"), (0, .class_ 630), (0, u "java/lang/StringUTF16$CharsSpliterator")] 4

def k11m0 : Method := { name := "<init>", desc := "()V", sig := { parameters := [], returnType := none }, accessFlags := 0, code := none }
def k11c1 : Code := { maxStack := 2, maxLocals := 2, code := jdk_52_method_15_code, exceptionTable := #[], attributes := #[] }
def k11m1 : Method := { name := "coderFromArrayLen", desc := "([BI)B", sig := { parameters := [(.array .byte), .int], returnType := some .byte }, accessFlags := 8, code := some k11c1 }
def k11c2 : Code := { maxStack := 5, maxLocals := 6, code := jdk_52_method_16_code, exceptionTable := #[], attributes := #[] }
def k11m2 : Method := { name := "compress", desc := "([CII)[B", sig := { parameters := [(.array .char), .int, .int], returnType := some (.array .byte) }, accessFlags := 9, code := some k11c2 }
def k11c3 : Code := { maxStack := 3, maxLocals := 7, code := jdk_52_method_21_code, exceptionTable := #[], attributes := #[] }
def k11m3 : Method := { name := "compress", desc := "([CI[BII)I", sig := { parameters := [(.array .char), .int, (.array .byte), .int, .int], returnType := some .int }, accessFlags := 9, code := some k11c3 }
/-- java/lang/StringUTF16 -/
def k11 : Class := { plain "java/lang/StringUTF16" (some 0) with
  accessFlags := 48
  interfaces := #[]
  cf := some (fileOf pool11 12 #[.nestMembers #[627, 629, 369]] #[{ accessFlags := 0, nameIndex := 9, descriptorIndex := 10, attributes := #[] }, { accessFlags := 8, nameIndex := 261, descriptorIndex := 262, attributes := #[] }, { accessFlags := 9, nameIndex := 117, descriptorIndex := 122, attributes := #[] }, { accessFlags := 9, nameIndex := 117, descriptorIndex := 118, attributes := #[] }] 48 6 #[] #[{ accessFlags := 26, nameIndex := 61, descriptorIndex := 62, attributes := #[] }, { accessFlags := 26, nameIndex := 65, descriptorIndex := 62, attributes := #[] }, { accessFlags := 24, nameIndex := 430, descriptorIndex := 62, attributes := #[] }, { accessFlags := 4120, nameIndex := 46, descriptorIndex := 47, attributes := #[] }])
  fields := #[{ name := "HI_BYTE_SHIFT", type := .int, accessFlags := 26, slot := 0, constantValue := 0 }, { name := "LO_BYTE_SHIFT", type := .int, accessFlags := 26, slot := 1, constantValue := 0 }, { name := "MAX_LENGTH", type := .int, accessFlags := 24, slot := 2, constantValue := 0 }, { name := "$assertionsDisabled", type := .boolean, accessFlags := 4120, slot := 3, constantValue := 0 }]
  methods := #[k11m0, k11m1, k11m2, k11m3]
  instanceTypes := #[]
  staticTypes := #[.int, .int, .int, .boolean]
  resolved := Array.replicate 635 none
  statics := none }

def pool12 : Array CpInfo := pool [(2, .class_ 4), (1, u "java/lang/Object"), (0, u "<init>"), (0, u "()V"), (12, .class_ 20), (0, u "java/util/Collections"), (63, u "r"), (0, u "Ljava/util/Random;"), (80, .class_ 167), (0, u "java/util/Collections$UnmodifiableCollection"), (6, .class_ 175), (0, u "java/util/Collections$UnmodifiableSequencedCollection"), (6, .class_ 183), (0, u "java/util/Collections$UnmodifiableSet"), (6, .class_ 191), (0, u "java/util/Collections$UnmodifiableSequencedSet"), (6, .class_ 199), (0, u "java/util/Collections$UnmodifiableSortedSet"), (6, .class_ 207), (0, u "java/util/Collections$UnmodifiableNavigableSet"), (4, .class_ 213), (0, u "java/util/Collections$UnmodifiableList"), (1, .class_ 216), (0, u "java/util/Collections$UnmodifiableRandomAccessList"), (6, .class_ 224), (0, u "java/util/Collections$UnmodifiableMap"), (6, .class_ 232), (0, u "java/util/Collections$UnmodifiableSequencedMap"), (4, .class_ 238), (0, u "java/util/Collections$UnmodifiableSortedMap"), (6, .class_ 246), (0, u "java/util/Collections$UnmodifiableNavigableMap"), (3, .class_ 251), (0, u "java/util/Collections$SynchronizedCollection"), (4, .class_ 257), (0, u "java/util/Collections$SynchronizedSet"), (4, .class_ 263), (0, u "java/util/Collections$SynchronizedSortedSet"), (1, .class_ 266), (0, u "java/util/Collections$SynchronizedNavigableSet"), (1, .class_ 269), (0, u "java/util/Collections$SynchronizedRandomAccessList"), (1, .class_ 272), (0, u "java/util/Collections$SynchronizedList"), (5, .class_ 279), (0, u "java/util/Collections$SynchronizedMap"), (1, .class_ 282), (0, u "java/util/Collections$SynchronizedSortedMap"), (1, .class_ 285), (0, u "java/util/Collections$SynchronizedNavigableMap"), (1, .class_ 288), (0, u "java/util/Collections$CheckedCollection"), (11, .class_ 301), (0, u "java/util/Collections$CheckedQueue"), (3, .class_ 306), (0, u "java/util/Collections$CheckedSet"), (3, .class_ 311), (0, u "java/util/Collections$CheckedSortedSet"), (3, .class_ 316), (0, u "java/util/Collections$CheckedNavigableSet"), (3, .class_ 321), (0, u "java/util/Collections$CheckedRandomAccessList"), (3, .class_ 326), (0, u "java/util/Collections$CheckedList"), (1, .class_ 329), (0, u "java/util/Collections$CheckedMap"), (3, .class_ 334), (0, u "java/util/Collections$CheckedSortedMap"), (3, .class_ 339), (0, u "java/util/Collections$CheckedNavigableMap"), (4, .class_ 346), (1, u "java/util/Collections$EmptyIterator"), (3, .class_ 352), (1, u "java/util/Collections$EmptyListIterator"), (2, .class_ 357), (1, u "java/util/Collections$EmptyEnumeration"), (4, u "EMPTY_SET"), (0, u "Ljava/util/Set;"), (6, u "EMPTY_LIST"), (0, u "Ljava/util/List;"), (2, u "EMPTY_MAP"), (0, u "Ljava/util/Map;"), (4, .class_ 381), (0, u "java/util/Collections$SingletonSet"), (2, .class_ 385), (0, u "java/util/Collections$1"), (1, .class_ 388), (0, u "java/util/Collections$2"), (1, .class_ 391), (0, u "java/util/Collections$SingletonList"), (1, .class_ 394), (0, u "java/util/Collections$SingletonMap"), (22, .class_ 418), (0, u "java/util/Collections$CopiesList"), (4, .class_ 425), (1, u "java/util/Collections$ReverseComparator"), (8, .class_ 435), (0, u "java/util/Collections$ReverseComparator2"), (6, .class_ 443), (0, u "java/util/Collections$3"), (25, .class_ 470), (0, u "java/util/Collections$SetFromMap"), (2, .class_ 474), (0, u "java/util/Collections$SequencedSetFromMap"), (3, .class_ 479), (0, u "java/util/Collections$AsLIFOQueue"), (11, .class_ 492), (0, u "java/util/Collections$EmptySet"), (1, .class_ 495), (0, u "java/util/Collections$EmptyList"), (1, .class_ 498), (0, u "java/util/Collections$EmptyMap"), (1, u "BINARYSEARCH_THRESHOLD"), (0, u "I"), (2, u "REVERSE_THRESHOLD"), (1, u "SHUFFLE_THRESHOLD"), (1, u "FILL_THRESHOLD"), (1, u "ROTATE_THRESHOLD"), (1, u "COPY_THRESHOLD"), (1, u "REPLACEALL_THRESHOLD"), (1, u "INDEXOFSUBLIST_THRESHOLD"), (333, .class_ 851), (0, u "java/util/Collections$CheckedMap$CheckedEntrySet"), (0, .class_ 853), (0, u "java/util/Collections$CheckedMap$CheckedEntrySet$CheckedEntry"), (0, .class_ 855), (0, u "java/util/Collections$CheckedMap$CheckedEntrySet$1"), (0, .class_ 857), (0, u "java/util/Collections$CheckedList$1"), (0, .class_ 859), (0, u "java/util/Collections$CheckedCollection$1"), (0, .class_ 861), (0, u "java/util/Collections$UnmodifiableNavigableMap$EmptyNavigableMap"), (0, .class_ 863), (0, u "java/util/Collections$UnmodifiableMap$UnmodifiableEntrySet"), (0, .class_ 865), (0, u "java/util/Collections$UnmodifiableMap$UnmodifiableEntrySet$UnmodifiableEntry"), (0, .class_ 867), (0, u "java/util/Collections$UnmodifiableMap$UnmodifiableEntrySet$UnmodifiableEntrySetSpliterator"), (0, .class_ 869), (0, u "java/util/Collections$UnmodifiableMap$UnmodifiableEntrySet$1"), (0, .class_ 871), (0, u "java/util/Collections$UnmodifiableList$1"), (0, .class_ 873), (0, u "java/util/Collections$UnmodifiableNavigableSet$EmptyNavigableSet"), (0, .class_ 875), (0, u "java/util/Collections$UnmodifiableCollection$1")] 57

def k12m0 : Method := { name := "<init>", desc := "()V", sig := { parameters := [], returnType := none }, accessFlags := 2, code := none }
/-- java/util/Collections -/
def k12 : Class := { plain "java/util/Collections" (some 0) with
  accessFlags := 33
  interfaces := #[]
  cf := some (fileOf pool12 19 #[.nestMembers #[478, 473, 469, 434, 423, 417, 393, 390, 380, 497, 494, 491, 355, 350, 344, 338, 333, 328, 850, 852, 854, 320, 325, 856, 315, 310, 305, 300, 287, 858, 284, 281, 278, 268, 271, 265, 262, 256, 250, 245, 860, 237, 231, 223, 862, 864, 866, 868, 215, 212, 870, 206, 872, 198, 190, 182, 174, 166, 874, 442, 387, 384]] #[{ accessFlags := 2, nameIndex := 5, descriptorIndex := 6, attributes := #[] }] 33 2 #[] #[{ accessFlags := 26, nameIndex := 500, descriptorIndex := 501, attributes := #[] }, { accessFlags := 26, nameIndex := 504, descriptorIndex := 501, attributes := #[] }, { accessFlags := 26, nameIndex := 506, descriptorIndex := 501, attributes := #[] }, { accessFlags := 26, nameIndex := 508, descriptorIndex := 501, attributes := #[] }, { accessFlags := 26, nameIndex := 510, descriptorIndex := 501, attributes := #[] }, { accessFlags := 26, nameIndex := 512, descriptorIndex := 501, attributes := #[] }, { accessFlags := 26, nameIndex := 514, descriptorIndex := 501, attributes := #[] }, { accessFlags := 26, nameIndex := 516, descriptorIndex := 501, attributes := #[] }, { accessFlags := 10, nameIndex := 84, descriptorIndex := 85, attributes := #[] }, { accessFlags := 25, nameIndex := 362, descriptorIndex := 363, attributes := #[] }, { accessFlags := 25, nameIndex := 370, descriptorIndex := 371, attributes := #[] }, { accessFlags := 25, nameIndex := 374, descriptorIndex := 375, attributes := #[] }])
  fields := #[{ name := "BINARYSEARCH_THRESHOLD", type := .int, accessFlags := 26, slot := 0, constantValue := 0 }, { name := "REVERSE_THRESHOLD", type := .int, accessFlags := 26, slot := 1, constantValue := 0 }, { name := "SHUFFLE_THRESHOLD", type := .int, accessFlags := 26, slot := 2, constantValue := 0 }, { name := "FILL_THRESHOLD", type := .int, accessFlags := 26, slot := 3, constantValue := 0 }, { name := "ROTATE_THRESHOLD", type := .int, accessFlags := 26, slot := 4, constantValue := 0 }, { name := "COPY_THRESHOLD", type := .int, accessFlags := 26, slot := 5, constantValue := 0 }, { name := "REPLACEALL_THRESHOLD", type := .int, accessFlags := 26, slot := 6, constantValue := 0 }, { name := "INDEXOFSUBLIST_THRESHOLD", type := .int, accessFlags := 26, slot := 7, constantValue := 0 }, { name := "r", type := (.object "java/util/Random"), accessFlags := 10, slot := 8, constantValue := 0 }, { name := "EMPTY_SET", type := (.object "java/util/Set"), accessFlags := 25, slot := 9, constantValue := 0 }, { name := "EMPTY_LIST", type := (.object "java/util/List"), accessFlags := 25, slot := 10, constantValue := 0 }, { name := "EMPTY_MAP", type := (.object "java/util/Map"), accessFlags := 25, slot := 11, constantValue := 0 }]
  methods := #[k12m0]
  instanceTypes := #[]
  staticTypes := #[.int, .int, .int, .int, .int, .int, .int, .int, (.object "java/util/Random"), (.object "java/util/Set"), (.object "java/util/List"), (.object "java/util/Map")]
  resolved := Array.replicate 933 none
  statics := some 2 }

def pool13 : Array CpInfo := pool [(4, .class_ 6), (1, u "java/lang/Object"), (0, u "<init>"), (0, u "()V"), (5, .class_ 16), (1, u "java/lang/StringLatin1"), (104, u "$assertionsDisabled"), (0, u "Z"), (98, .class_ 223), (1, u "java/lang/StringLatin1$LinesSpliterator"), (166, .class_ 391), (0, u "java/lang/StringLatin1$CharsSpliterator")] 3

def k13m0 : Method := { name := "<init>", desc := "()V", sig := { parameters := [], returnType := none }, accessFlags := 0, code := none }
/-- java/lang/StringLatin1 -/
def k13 : Class := { plain "java/lang/StringLatin1" (some 0) with
  accessFlags := 48
  interfaces := #[]
  cf := some (fileOf pool13 14 #[.nestMembers #[390, 221]] #[{ accessFlags := 0, nameIndex := 7, descriptorIndex := 8, attributes := #[] }] 48 4 #[] #[{ accessFlags := 4120, nameIndex := 121, descriptorIndex := 122, attributes := #[] }])
  fields := #[{ name := "$assertionsDisabled", type := .boolean, accessFlags := 4120, slot := 0, constantValue := 0 }]
  methods := #[k13m0]
  instanceTypes := #[]
  staticTypes := #[.boolean]
  resolved := Array.replicate 395 none
  statics := none }

def pool14 : Array CpInfo := pool [(2, .class_ 4), (1, u "java/lang/Object"), (0, u "<init>"), (0, u "()V"), (17, .class_ 26), (1, u "jdk/internal/util/Preconditions"), (28, .class_ 56), (0, u "jdk/internal/util/Preconditions$4"), (57, .class_ 115), (0, u "jdk/internal/util/Preconditions$1"), (7, u "SIOOBE_FORMATTER"), (0, u "Ljava/util/function/BiFunction;"), (0, .class_ 126), (0, u "jdk/internal/util/Preconditions$2"), (3, u "AIOOBE_FORMATTER"), (0, .class_ 132), (0, u "jdk/internal/util/Preconditions$3"), (3, u "IOOBE_FORMATTER")] 57

def k14m0 : Method := { name := "<init>", desc := "()V", sig := { parameters := [], returnType := none }, accessFlags := 1, code := none }
/-- jdk/internal/util/Preconditions -/
def k14 : Class := { plain "jdk/internal/util/Preconditions" (some 0) with
  accessFlags := 33
  interfaces := #[]
  cf := some (fileOf pool14 24 #[.nestMembers #[55, 131, 125, 114]] #[{ accessFlags := 1, nameIndex := 5, descriptorIndex := 6, attributes := #[] }] 33 2 #[] #[{ accessFlags := 25, nameIndex := 123, descriptorIndex := 124, attributes := #[] }, { accessFlags := 25, nameIndex := 130, descriptorIndex := 124, attributes := #[] }, { accessFlags := 25, nameIndex := 136, descriptorIndex := 124, attributes := #[] }])
  fields := #[{ name := "SIOOBE_FORMATTER", type := (.object "java/util/function/BiFunction"), accessFlags := 25, slot := 0, constantValue := 0 }, { name := "AIOOBE_FORMATTER", type := (.object "java/util/function/BiFunction"), accessFlags := 25, slot := 1, constantValue := 0 }, { name := "IOOBE_FORMATTER", type := (.object "java/util/function/BiFunction"), accessFlags := 25, slot := 2, constantValue := 0 }]
  methods := #[k14m0]
  instanceTypes := #[]
  staticTypes := #[(.object "java/util/function/BiFunction"), (.object "java/util/function/BiFunction"), (.object "java/util/function/BiFunction")]
  resolved := Array.replicate 194 none
  statics := some 3 }

def pool15 : Array CpInfo := pool [(9, u "<init>"), (6, .class_ 18), (1, u "java/lang/Object"), (0, u "()V"), (1, .class_ 23), (1, u "jdk/internal/util/ArraysSupport"), (0, u "LOG2_ARRAY_LONG_INDEX_SCALE"), (0, u "I"), (2, u "U"), (0, u "Ljdk/internal/misc/Unsafe;"), (8, u "BIG_ENDIAN"), (0, u "Z"), (8, u "LOG2_BYTE_BIT_SIZE"), (4, u "LOG2_ARRAY_INT_INDEX_SCALE"), (54, u "JLA"), (0, u "Ljdk/internal/access/JavaLangAccess;"), (11, u "LOG2_ARRAY_BOOLEAN_INDEX_SCALE"), (9, u "LOG2_ARRAY_BYTE_INDEX_SCALE"), (5, u "LOG2_ARRAY_CHAR_INDEX_SCALE"), (5, u "LOG2_ARRAY_SHORT_INDEX_SCALE"), (18, u "LOG2_ARRAY_FLOAT_INDEX_SCALE"), (24, u "LOG2_ARRAY_DOUBLE_INDEX_SCALE"), (89, u "T_BOOLEAN"), (2, u "T_CHAR"), (1, u "T_FLOAT"), (1, u "T_DOUBLE"), (1, u "T_BYTE"), (1, u "T_SHORT"), (1, u "T_INT"), (1, u "T_LONG"), (1, u "SOFT_MAX_ARRAY_LENGTH")] 83

def k15m0 : Method := { name := "<init>", desc := "()V", sig := { parameters := [], returnType := none }, accessFlags := 2, code := none }
/-- jdk/internal/util/ArraysSupport -/
def k15 : Class := { plain "jdk/internal/util/ArraysSupport" (some 0) with
  accessFlags := 33
  interfaces := #[]
  cf := some (fileOf pool15 21 #[] #[{ accessFlags := 2, nameIndex := 9, descriptorIndex := 19, attributes := #[] }] 33 16 #[] #[{ accessFlags := 24, nameIndex := 28, descriptorIndex := 29, attributes := #[] }, { accessFlags := 26, nameIndex := 38, descriptorIndex := 39, attributes := #[] }, { accessFlags := 25, nameIndex := 121, descriptorIndex := 25, attributes := #[] }, { accessFlags := 25, nameIndex := 131, descriptorIndex := 25, attributes := #[] }, { accessFlags := 25, nameIndex := 137, descriptorIndex := 25, attributes := #[] }, { accessFlags := 25, nameIndex := 143, descriptorIndex := 25, attributes := #[] }, { accessFlags := 25, nameIndex := 53, descriptorIndex := 25, attributes := #[] }, { accessFlags := 25, nameIndex := 24, descriptorIndex := 25, attributes := #[] }, { accessFlags := 25, nameIndex := 162, descriptorIndex := 25, attributes := #[] }, { accessFlags := 25, nameIndex := 187, descriptorIndex := 25, attributes := #[] }, { accessFlags := 26, nameIndex := 48, descriptorIndex := 25, attributes := #[] }, { accessFlags := 25, nameIndex := 277, descriptorIndex := 25, attributes := #[] }, { accessFlags := 25, nameIndex := 280, descriptorIndex := 25, attributes := #[] }, { accessFlags := 25, nameIndex := 282, descriptorIndex := 25, attributes := #[] }, { accessFlags := 25, nameIndex := 284, descriptorIndex := 25, attributes := #[] }, { accessFlags := 25, nameIndex := 286, descriptorIndex := 25, attributes := #[] }, { accessFlags := 25, nameIndex := 288, descriptorIndex := 25, attributes := #[] }, { accessFlags := 25, nameIndex := 290, descriptorIndex := 25, attributes := #[] }, { accessFlags := 25, nameIndex := 292, descriptorIndex := 25, attributes := #[] }, { accessFlags := 26, nameIndex := 108, descriptorIndex := 109, attributes := #[] }, { accessFlags := 25, nameIndex := 294, descriptorIndex := 25, attributes := #[] }])
  fields := #[{ name := "U", type := (.object "jdk/internal/misc/Unsafe"), accessFlags := 24, slot := 0, constantValue := 0 }, { name := "BIG_ENDIAN", type := .boolean, accessFlags := 26, slot := 1, constantValue := 0 }, { name := "LOG2_ARRAY_BOOLEAN_INDEX_SCALE", type := .int, accessFlags := 25, slot := 2, constantValue := 0 }, { name := "LOG2_ARRAY_BYTE_INDEX_SCALE", type := .int, accessFlags := 25, slot := 3, constantValue := 0 }, { name := "LOG2_ARRAY_CHAR_INDEX_SCALE", type := .int, accessFlags := 25, slot := 4, constantValue := 0 }, { name := "LOG2_ARRAY_SHORT_INDEX_SCALE", type := .int, accessFlags := 25, slot := 5, constantValue := 0 }, { name := "LOG2_ARRAY_INT_INDEX_SCALE", type := .int, accessFlags := 25, slot := 6, constantValue := 0 }, { name := "LOG2_ARRAY_LONG_INDEX_SCALE", type := .int, accessFlags := 25, slot := 7, constantValue := 0 }, { name := "LOG2_ARRAY_FLOAT_INDEX_SCALE", type := .int, accessFlags := 25, slot := 8, constantValue := 0 }, { name := "LOG2_ARRAY_DOUBLE_INDEX_SCALE", type := .int, accessFlags := 25, slot := 9, constantValue := 0 }, { name := "LOG2_BYTE_BIT_SIZE", type := .int, accessFlags := 26, slot := 10, constantValue := 0 }, { name := "T_BOOLEAN", type := .int, accessFlags := 25, slot := 11, constantValue := 0 }, { name := "T_CHAR", type := .int, accessFlags := 25, slot := 12, constantValue := 0 }, { name := "T_FLOAT", type := .int, accessFlags := 25, slot := 13, constantValue := 0 }, { name := "T_DOUBLE", type := .int, accessFlags := 25, slot := 14, constantValue := 0 }, { name := "T_BYTE", type := .int, accessFlags := 25, slot := 15, constantValue := 0 }, { name := "T_SHORT", type := .int, accessFlags := 25, slot := 16, constantValue := 0 }, { name := "T_INT", type := .int, accessFlags := 25, slot := 17, constantValue := 0 }, { name := "T_LONG", type := .int, accessFlags := 25, slot := 18, constantValue := 0 }, { name := "JLA", type := (.object "jdk/internal/access/JavaLangAccess"), accessFlags := 26, slot := 19, constantValue := 0 }, { name := "SOFT_MAX_ARRAY_LENGTH", type := .int, accessFlags := 25, slot := 20, constantValue := 0 }]
  methods := #[k15m0]
  instanceTypes := #[]
  staticTypes := #[(.object "jdk/internal/misc/Unsafe"), .boolean, .int, .int, .int, .int, .int, .int, .int, .int, .int, .int, .int, .int, .int, .int, .int, .int, .int, (.object "jdk/internal/access/JavaLangAccess"), .int]
  resolved := Array.replicate 378 none
  statics := none }

def pool16 : Array CpInfo := pool [(8, .class_ 10), (1, u "java/lang/Iterable"), (24, .class_ 36), (0, u "java/lang/Object")] 25

/-- java/lang/Iterable -/
def k16 : Class := { plain "java/lang/Iterable" (some 0) with
  accessFlags := 1537
  interfaces := #[]
  cf := some (fileOf pool16 8 #[] #[] 1537 35 #[] #[])
  fields := #[]
  methods := #[]
  instanceTypes := #[]
  staticTypes := #[]
  resolved := Array.replicate 62 none
  statics := none }

def pool17 : Array CpInfo := pool [(10, .class_ 12), (1, u "java/util/Collection"), (47, .class_ 61), (0, u "java/lang/Object"), (0, .class_ 63), (0, u "java/lang/Iterable")] 51

/-- java/util/Collection -/
def k17 : Class := { plain "java/util/Collection" (some 0) with
  accessFlags := 1537
  interfaces := #[16]
  cf := some (fileOf pool17 10 #[] #[] 1537 60 #[62] #[])
  fields := #[]
  methods := #[]
  instanceTypes := #[]
  staticTypes := #[]
  resolved := Array.replicate 115 none
  statics := none }

def pool18 : Array CpInfo := pool [(2, .class_ 4), (1, u "java/lang/Object"), (0, u "<init>"), (0, u "()V"), (1, .class_ 10), (1, u "java/util/AbstractCollection"), (66, .class_ 78), (0, u "java/util/Collection")] 81

def k18m0 : Method := { name := "<init>", desc := "()V", sig := { parameters := [], returnType := none }, accessFlags := 4, code := none }
/-- java/util/AbstractCollection -/
def k18 : Class := { plain "java/util/AbstractCollection" (some 0) with
  accessFlags := 1057
  interfaces := #[17]
  cf := some (fileOf pool18 8 #[] #[{ accessFlags := 4, nameIndex := 5, descriptorIndex := 6, attributes := #[] }] 1057 2 #[77] #[])
  fields := #[]
  methods := #[k18m0]
  instanceTypes := #[]
  staticTypes := #[]
  resolved := Array.replicate 160 none
  statics := none }

def pool19 : Array CpInfo := pool [(8, .class_ 10), (1, u "java/util/SequencedCollection"), (15, .class_ 27), (0, u "java/lang/Object"), (0, .class_ 29), (0, u "java/util/Collection")] 27

/-- java/util/SequencedCollection -/
def k19 : Class := { plain "java/util/SequencedCollection" (some 0) with
  accessFlags := 1537
  interfaces := #[17]
  cf := some (fileOf pool19 8 #[] #[] 1537 26 #[28] #[])
  fields := #[]
  methods := #[]
  instanceTypes := #[]
  staticTypes := #[]
  resolved := Array.replicate 57 none
  statics := none }

def pool20 : Array CpInfo := pool [(8, .class_ 10), (1, u "java/util/List"), (92, .class_ 104), (0, u "java/lang/Object"), (15, .class_ 121), (0, u "java/util/SequencedCollection")] 129

/-- java/util/List -/
def k20 : Class := { plain "java/util/List" (some 0) with
  accessFlags := 1537
  interfaces := #[19]
  cf := some (fileOf pool20 8 #[] #[] 1537 103 #[120] #[])
  fields := #[]
  methods := #[]
  instanceTypes := #[]
  staticTypes := #[]
  resolved := Array.replicate 251 none
  statics := none }

def pool21 : Array CpInfo := pool [(2, .class_ 4), (1, u "java/util/AbstractCollection"), (0, u "<init>"), (0, u "()V"), (1, .class_ 10), (1, u "java/util/AbstractList"), (0, u "modCount"), (0, u "I"), (64, .class_ 78), (0, u "java/util/AbstractList$Itr"), (3, .class_ 83), (0, u "java/util/AbstractList$ListItr"), (9, .class_ 94), (0, u "java/util/AbstractList$RandomAccessSubList"), (3, .class_ 99), (0, u "java/util/AbstractList$SubList"), (33, .class_ 134), (0, u "java/util/List"), (73, .class_ 209), (0, u "java/util/AbstractList$SubList$1"), (0, .class_ 211), (0, u "java/util/AbstractList$RandomAccessSpliterator")] 6

def k21m0 : Method := { name := "<init>", desc := "()V", sig := { parameters := [], returnType := none }, accessFlags := 4, code := none }
/-- java/util/AbstractList -/
def k21 : Class := { plain "java/util/AbstractList" (some 18) with
  accessFlags := 1057
  interfaces := #[20]
  cf := some (fileOf pool21 8 #[.nestMembers #[93, 98, 208, 210, 82, 77]] #[{ accessFlags := 4, nameIndex := 5, descriptorIndex := 6, attributes := #[] }] 1057 2 #[133] #[{ accessFlags := 132, nameIndex := 11, descriptorIndex := 12, attributes := #[] }])
  fields := #[{ name := "modCount", type := .int, accessFlags := 132, slot := 0, constantValue := 0 }]
  methods := #[k21m0]
  instanceTypes := #[.int]
  staticTypes := #[]
  resolved := Array.replicate 218 none
  statics := none }

def pool22 : Array CpInfo := pool [(1, .class_ 2), (0, u "java/util/RandomAccess"), (0, .class_ 4), (0, u "java/lang/Object")] 2

/-- java/util/RandomAccess -/
def k22 : Class := { plain "java/util/RandomAccess" (some 0) with
  accessFlags := 1537
  interfaces := #[]
  cf := some (fileOf pool22 1 #[] #[] 1537 3 #[] #[])
  fields := #[]
  methods := #[]
  instanceTypes := #[]
  staticTypes := #[]
  resolved := Array.replicate 7 none
  statics := none }

def pool23 : Array CpInfo := pool [(2, .class_ 4), (1, u "java/util/AbstractList"), (0, u "<init>"), (0, u "()V"), (1, .class_ 10), (1, u "java/util/Collections"), (54, .class_ 66), (0, u "java/util/Collections$EmptyList"), (0, .class_ 68), (0, u "java/util/RandomAccess"), (0, .class_ 70), (0, u "java/io/Serializable"), (0, u "serialVersionUID"), (0, u "J")] 77

def k23m0 : Method := { name := "<init>", desc := "()V", sig := { parameters := [], returnType := none }, accessFlags := 2, code := none }
/-- java/util/Collections$EmptyList -/
def k23 : Class := { plain "java/util/Collections$EmptyList" (some 21) with
  accessFlags := 32
  interfaces := #[22, 2]
  cf := some (fileOf pool23 65 #[.nestHost 8] #[{ accessFlags := 2, nameIndex := 5, descriptorIndex := 6, attributes := #[] }] 32 2 #[67, 69] #[{ accessFlags := 26, nameIndex := 71, descriptorIndex := 72, attributes := #[] }])
  fields := #[{ name := "serialVersionUID", type := .long, accessFlags := 26, slot := 0, constantValue := 0 }]
  methods := #[k23m0]
  instanceTypes := #[.int]
  staticTypes := #[.long]
  resolved := Array.replicate 150 none
  statics := none }

def pool24 : Array CpInfo := pool [(2, .class_ 4), (1, u "java/lang/StackTraceElement"), (0, u "<init>"), (2, .class_ 10), (1, u "java/lang/Object"), (0, u "()V"), (2, u "format"), (0, u "B"), (2, u "classLoaderName"), (0, u "Ljava/lang/String;"), (2, u "moduleName"), (2, u "moduleVersion"), (12, u "declaringClass"), (4, u "methodName"), (2, u "fileName"), (2, u "lineNumber"), (0, u "I"), (65, u "declaringClassObject"), (0, u "Ljava/lang/Class;"), (33, .class_ 153), (1, u "java/lang/StackTraceElement$HashedModules"), (17, .class_ 172), (0, u "java/io/Serializable"), (0, u "NATIVE_METHOD"), (1, u "UNKNOWN_SOURCE"), (2, u "BUILTIN_CLASS_LOADER"), (1, u "JDK_NON_UPGRADEABLE_MODULE"), (1, u "serialVersionUID"), (0, u "J")] 51

def k24m0 : Method := { name := "<init>", desc := "()V", sig := { parameters := [], returnType := none }, accessFlags := 2, code := none }
/-- java/lang/StackTraceElement -/
def k24 : Class := { plain "java/lang/StackTraceElement" (some 0) with
  accessFlags := 49
  interfaces := #[2]
  cf := some (fileOf pool24 2 #[.nestMembers #[151]] #[{ accessFlags := 2, nameIndex := 5, descriptorIndex := 11, attributes := #[] }] 49 8 #[171] #[{ accessFlags := 26, nameIndex := 173, descriptorIndex := 19, attributes := #[] }, { accessFlags := 26, nameIndex := 175, descriptorIndex := 19, attributes := #[] }, { accessFlags := 130, nameIndex := 116, descriptorIndex := 117, attributes := #[] }, { accessFlags := 2, nameIndex := 18, descriptorIndex := 19, attributes := #[] }, { accessFlags := 2, nameIndex := 22, descriptorIndex := 19, attributes := #[] }, { accessFlags := 2, nameIndex := 25, descriptorIndex := 19, attributes := #[] }, { accessFlags := 2, nameIndex := 38, descriptorIndex := 19, attributes := #[] }, { accessFlags := 2, nameIndex := 43, descriptorIndex := 19, attributes := #[] }, { accessFlags := 2, nameIndex := 46, descriptorIndex := 19, attributes := #[] }, { accessFlags := 2, nameIndex := 49, descriptorIndex := 50, attributes := #[] }, { accessFlags := 2, nameIndex := 14, descriptorIndex := 15, attributes := #[] }, { accessFlags := 26, nameIndex := 178, descriptorIndex := 15, attributes := #[] }, { accessFlags := 26, nameIndex := 180, descriptorIndex := 15, attributes := #[] }, { accessFlags := 26, nameIndex := 182, descriptorIndex := 183, attributes := #[] }])
  fields := #[{ name := "NATIVE_METHOD", type := (.object "java/lang/String"), accessFlags := 26, slot := 0, constantValue := 0 }, { name := "UNKNOWN_SOURCE", type := (.object "java/lang/String"), accessFlags := 26, slot := 1, constantValue := 0 }, { name := "declaringClassObject", type := (.object "java/lang/Class"), accessFlags := 130, slot := 0, constantValue := 0 }, { name := "classLoaderName", type := (.object "java/lang/String"), accessFlags := 2, slot := 1, constantValue := 0 }, { name := "moduleName", type := (.object "java/lang/String"), accessFlags := 2, slot := 2, constantValue := 0 }, { name := "moduleVersion", type := (.object "java/lang/String"), accessFlags := 2, slot := 3, constantValue := 0 }, { name := "declaringClass", type := (.object "java/lang/String"), accessFlags := 2, slot := 4, constantValue := 0 }, { name := "methodName", type := (.object "java/lang/String"), accessFlags := 2, slot := 5, constantValue := 0 }, { name := "fileName", type := (.object "java/lang/String"), accessFlags := 2, slot := 6, constantValue := 0 }, { name := "lineNumber", type := .int, accessFlags := 2, slot := 7, constantValue := 0 }, { name := "format", type := .byte, accessFlags := 2, slot := 8, constantValue := 0 }, { name := "BUILTIN_CLASS_LOADER", type := .byte, accessFlags := 26, slot := 2, constantValue := 0 }, { name := "JDK_NON_UPGRADEABLE_MODULE", type := .byte, accessFlags := 26, slot := 3, constantValue := 0 }, { name := "serialVersionUID", type := .long, accessFlags := 26, slot := 4, constantValue := 0 }]
  methods := #[k24m0]
  instanceTypes := #[(.object "java/lang/Class"), (.object "java/lang/String"), (.object "java/lang/String"), (.object "java/lang/String"), (.object "java/lang/String"), (.object "java/lang/String"), (.object "java/lang/String"), .int, .byte]
  staticTypes := #[(.object "java/lang/String"), (.object "java/lang/String"), .byte, .byte, .long]
  resolved := Array.replicate 235 none
  statics := none }

def pool25 : Array CpInfo := pool [(1, u "java/lang/Cloneable"), (0, .class_ 1), (0, u "java/lang/Object"), (0, .class_ 3)] 3

/-- java/lang/Cloneable -/
def k25 : Class := { plain "java/lang/Cloneable" (some 0) with
  accessFlags := 1537
  interfaces := #[]
  cf := some (fileOf pool25 2 #[] #[] 1537 4 #[] #[])
  fields := #[]
  methods := #[]
  instanceTypes := #[]
  staticTypes := #[]
  resolved := Array.replicate 8 none
  statics := none }

/-- the primitive byte -/
def k26 : Class := { plain "byte" none with kind := .primitive 'B', accessFlags := 0x411 }
/-- [B -/
def k27 : Class := { plain "[B" (some 0) with kind := .array 26 .byte, interfaces := #[25, 2], accessFlags := 1041 }

/-- the primitive char -/
def k28 : Class := { plain "char" none with kind := .primitive 'C', accessFlags := 0x411 }
/-- [C -/
def k29 : Class := { plain "[C" (some 0) with kind := .array 28 .char, interfaces := #[25, 2], accessFlags := 1041 }

/-- the primitive int -/
def k30 : Class := { plain "int" none with kind := .primitive 'I', accessFlags := 0x411 }
/-- [I -/
def k31 : Class := { plain "[I" (some 0) with kind := .array 30 .int, interfaces := #[25, 2], accessFlags := 1041 }

/-- [Ljava/lang/Object; -/
def k32 : Class := { plain "[Ljava/lang/Object;" (some 0) with kind := .array 0 (.object "java/lang/Object"), interfaces := #[25, 2], accessFlags := 1041 }

/-- [Ljava/lang/StackTraceElement; -/
def k33 : Class := { plain "[Ljava/lang/StackTraceElement;" (some 0) with kind := .array 24 (.object "java/lang/StackTraceElement"), interfaces := #[25, 2], accessFlags := 1041 }

/-- [Ljava/lang/Throwable; -/
def k34 : Class := { plain "[Ljava/lang/Throwable;" (some 0) with kind := .array 8 (.object "java/lang/Throwable"), interfaces := #[25, 2], accessFlags := 1041 }

def heap : Heap := #[{ cls := 7, slots := #[.long 0, .int 1, .null, .int 0, .null, .int 0, .int 0], vm := .statics 7 },
  { cls := 8, slots := #[.long 0, .ref 4, .ref 5, .null, .null, .null, .null, .ref 6, .int 1], vm := .statics 8 },
  { cls := 12, slots := #[.int 0, .int 0, .int 0, .int 0, .int 0, .int 0, .int 0, .int 0, .null, .null, .ref 5, .null], vm := .statics 12 },
  { cls := 14, slots := #[.null, .null, .null], vm := .statics 14 },
  { cls := 33, slots := #[], vm := .none },
  { cls := 23, slots := #[.int 0], vm := .none },
  { cls := 34, slots := #[], vm := .none }]
def classes : Array Class := #[k0, k1, k2, k3, k4, k5, k6, k7, k8, k9, k10, k11, k12, k13, k14, k15, k16, k17, k18, k19, k20, k21, k22, k23, k24, k25, k26, k27, k28, k29, k30, k31, k32, k33, k34]
def interned : List (Array UInt16 × Addr) := []
def slotsUsed : Nat := 32
def theMethod : MethodId := ⟨1, 1⟩
def args0 : Array Value := #[.int 5, .int 5, .int 5, .int 5]
def aboutOver (below : List Frame) : State where
  vm := { classes := classes, interned := interned.toArray }
  heap := heap
  slotsUsed := slotsUsed
  threads := #[{ frames := .invoking theMethod args0 :: below }]
def below0 : List Frame := [.native { method := ⟨0, 0⟩, args := #[] }]
def about1 : State := aboutOver below0
def p0 : Program := .bare "" "" ""
def e0 : Env := launch0.env 0 0 0
theorem w_frames : about1.frames = Frame.invoking theMethod args0 :: below0 := rfl
set_option maxRecDepth 65536 in
theorem w_args : argsFit about1.vm theMethod args0 = true := by decide +kernel
set_option maxRecDepth 65536 in
theorem w_heap : heapFits about1 = true := by decide +kernel
set_option maxRecDepth 65536 in
theorem w_runnable : about1.curStatus? = some .runnable := by decide +kernel
set_option maxRecDepth 65536 in
theorem w_alone : about1.alone = true := by decide +kernel
set_option maxRecDepth 65536 in
theorem w_named : about1.methodNamed? x = some theMethod := by decide +kernel
set_option maxRecDepth 65536 in
theorem w_hears : about1.hears theMethod below0 = true := by decide +kernel
set_option maxRecDepth 65536 in
theorem w_ripe : about1.ripe theMethod args0 below0 = true := by decide +kernel
theorem w_running : about1.status = .running := rfl
set_option maxRecDepth 65536 in
theorem w_room : about1.hasRoom e0.platform room_1 = true :=
  launch0.hasRoom_least _ room_1 (by decide +kernel) (by decide +kernel) (by decide +kernel) (by decide +kernel) (by decide +kernel) (by decide +kernel)
theorem allAtoms_all (ts : List Jvm.Cond) (a : Array Jvm.Value) (st : Jvm.State) : (allAtoms ts).before a st = ts.all (fun c => c.before a st) := by
  induction ts with
  | nil => rfl
  | cons c t ih =>
    show (Jvm.Cond.and c (allAtoms t)).before a st = _
    rw [Jvm.Cond.before_and, ih, List.all_cons]
def words1 : List Jvm.Cond := Jvm.Cond.code x code maxLocals ret :: tables_1
/-- a 'code' word, met by the world's own term for the bytes: nothing is compared byte by byte -/
theorem code_word {y : MethodName} {bytes : ByteArray} {mx : Nat} {rt : Option FieldType} {a : Array Value} {s : State} {m : MethodId} {meth : Method} {c : Code} (h1 : s.methodNamed? y = some m) (h2 : s.vm.method? m = some meth) (h3 : meth.code = some c) (h4 : c.code = bytes)
    (h5 : (c.maxLocals == mx && c.exceptionTable.isEmpty && decide (c.maxStack ≤ mostOperands) && decide (meth.sig.returnType = rt) && !meth.locks && decide (parseMethodDescriptor y.desc = some meth.sig)) = true) : (Jvm.Cond.code y bytes mx rt).before a s = true := by
  simp only [Bool.and_eq_true, beq_iff_eq, Bool.not_eq_true', decide_eq_true_eq] at h5
  obtain ⟨⟨⟨⟨⟨g1, g2⟩, g3⟩, g4⟩, g5⟩, g6⟩ := h5
  simp [Cond.before, Cond.holds, Cond.value, h1, h2, h3, h4, g1, g2, g3, g4, g5, g6]
def isCode : Jvm.Cond → Bool
  | .code _ _ _ _ => true
  | _ => false
theorem all_split {L : List Jvm.Cond} {P : Jvm.Cond → Bool} (h1 : L.all (fun c => isCode c || P c) = true) (h2 : ∀ c ∈ L.filter isCode, P c = true) : L.all P = true := by
  refine List.all_eq_true.mpr fun c hc => ?_
  have h := List.all_eq_true.mp h1 c hc
  rcases Bool.eq_false_or_eq_true (isCode c) with hi | hi
  · exact h2 c (List.mem_filter.mpr ⟨hc, hi⟩)
  · simpa [hi] using h
set_option maxRecDepth 65536 in
theorem w_c0 : (Jvm.Cond.code x code maxLocals ret).before args0 about1 = true := code_word (m := ⟨1, 1⟩) (meth := k1m1) (c := k1c1) (by decide +kernel) rfl rfl rfl (by decide +kernel)
set_option maxRecDepth 65536 in
theorem w_c1 : (Jvm.Cond.code ({ cls := "java/lang/String", name := "<init>", desc := "([C)V" } : Jvm.MethodName) jdk_42_method_3_code (2 : Nat) (Option.none : Option Jvm.ClassFile.FieldType)).before args0 about1 = true := code_word (m := ⟨7, 1⟩) (meth := k7m1) (c := k7c1) (by decide +kernel) rfl rfl rfl (by decide +kernel)
set_option maxRecDepth 65536 in
theorem w_c2 : (Jvm.Cond.code ({ cls := "java/lang/String", name := "<init>", desc := "([CIILjava/lang/Void;)V" } : Jvm.MethodName) jdk_42_method_149_code (6 : Nat) (Option.none : Option Jvm.ClassFile.FieldType)).before args0 about1 = true := code_word (m := ⟨7, 3⟩) (meth := k7m3) (c := k7c3) (by decide +kernel) rfl rfl rfl (by decide +kernel)
set_option maxRecDepth 65536 in
theorem w_c3 : (Jvm.Cond.code ({ cls := "java/lang/Object", name := "<init>", desc := "()V" } : Jvm.MethodName) object_method_1_code (1 : Nat) (Option.none : Option Jvm.ClassFile.FieldType)).before args0 about1 = true := code_word (m := ⟨0, 0⟩) (meth := k0m0) (c := k0c0) (by decide +kernel) rfl rfl rfl (by decide +kernel)
set_option maxRecDepth 65536 in
theorem w_c4 : (Jvm.Cond.code ({ cls := "com/example/seekret/seekret/server/KeystoreException", name := "refused", desc := "(Ljava/lang/String;)Lcom/example/seekret/seekret/server/KeystoreException;" } : Jvm.MethodName) prog_26_method_3_code (1 : Nat) (Option.some (Jvm.ClassFile.FieldType.object "com/example/seekret/seekret/server/KeystoreException"))).before args0 about1 = true := code_word (m := ⟨10, 1⟩) (meth := k10m1) (c := k10c1) (by decide +kernel) rfl rfl rfl (by decide +kernel)
set_option maxRecDepth 65536 in
theorem w_c5 : (Jvm.Cond.code ({ cls := "com/example/seekret/seekret/server/KeystoreException", name := "<init>", desc := "(ILjava/lang/String;)V" } : Jvm.MethodName) prog_26_method_1_code (3 : Nat) (Option.none : Option Jvm.ClassFile.FieldType)).before args0 about1 = true := code_word (m := ⟨10, 0⟩) (meth := k10m0) (c := k10c0) (by decide +kernel) rfl rfl rfl (by decide +kernel)
set_option maxRecDepth 65536 in
theorem w_c6 : (Jvm.Cond.code ({ cls := "java/lang/Exception", name := "<init>", desc := "(Ljava/lang/String;)V" } : Jvm.MethodName) jdk_59_method_2_code (2 : Nat) (Option.none : Option Jvm.ClassFile.FieldType)).before args0 about1 = true := code_word (m := ⟨9, 1⟩) (meth := k9m1) (c := k9c1) (by decide +kernel) rfl rfl rfl (by decide +kernel)
set_option maxRecDepth 65536 in
theorem w_c7 : (Jvm.Cond.code ({ cls := "java/lang/Throwable", name := "<init>", desc := "(Ljava/lang/String;)V" } : Jvm.MethodName) jdk_78_method_2_code (2 : Nat) (Option.none : Option Jvm.ClassFile.FieldType)).before args0 about1 = true := code_word (m := ⟨8, 1⟩) (meth := k8m1) (c := k8c1) (by decide +kernel) rfl rfl rfl (by decide +kernel)
set_option maxRecDepth 65536 in
theorem w_c8 : (Jvm.Cond.code ({ cls := "java/lang/Throwable", name := "<init>", desc := "()V" } : Jvm.MethodName) jdk_78_method_1_code (1 : Nat) (Option.none : Option Jvm.ClassFile.FieldType)).before args0 about1 = true := code_word (m := ⟨8, 0⟩) (meth := k8m0) (c := k8c0) (by decide +kernel) rfl rfl rfl (by decide +kernel)
set_option maxRecDepth 65536 in
theorem w_c9 : (Jvm.Cond.code ({ cls := "com/example/seekret/seekret/server/KeystoreException", name := "status", desc := "()I" } : Jvm.MethodName) prog_26_method_5_code (1 : Nat) (Option.some Jvm.ClassFile.FieldType.int)).before args0 about1 = true := code_word (m := ⟨10, 2⟩) (meth := k10m2) (c := k10c2) (by decide +kernel) rfl rfl rfl (by decide +kernel)
set_option maxRecDepth 65536 in
theorem w_c10 : (Jvm.Cond.code ({ cls := "java/lang/Throwable", name := "getMessage", desc := "()Ljava/lang/String;" } : Jvm.MethodName) jdk_78_method_6_code (1 : Nat) (Option.some (Jvm.ClassFile.FieldType.object "java/lang/String"))).before args0 about1 = true := code_word (m := ⟨8, 2⟩) (meth := k8m2) (c := k8c2) (by decide +kernel) rfl rfl rfl (by decide +kernel)
set_option maxRecDepth 65536 in
theorem w_c11 : (Jvm.Cond.code ({ cls := "java/lang/String", name := "equals", desc := "(Ljava/lang/Object;)Z" } : Jvm.MethodName) jdk_42_method_66_code (3 : Nat) (Option.some Jvm.ClassFile.FieldType.boolean)).before args0 about1 = true := code_word (m := ⟨7, 2⟩) (meth := k7m2) (c := k7c2) (by decide +kernel) rfl rfl rfl (by decide +kernel)
set_option maxRecDepth 65536 in
theorem w_c12 : (Jvm.Cond.code ({ cls := "java/lang/StringUTF16", name := "compress", desc := "([CII)[B" } : Jvm.MethodName) jdk_52_method_16_code (6 : Nat) (Option.some (Jvm.ClassFile.FieldType.array Jvm.ClassFile.FieldType.byte))).before args0 about1 = true := code_word (m := ⟨11, 2⟩) (meth := k11m2) (c := k11c2) (by decide +kernel) rfl rfl rfl (by decide +kernel)
set_option maxRecDepth 65536 in
theorem w_c13 : (Jvm.Cond.code ({ cls := "java/lang/StringUTF16", name := "compress", desc := "([CI[BII)I" } : Jvm.MethodName) jdk_52_method_21_code (7 : Nat) (Option.some Jvm.ClassFile.FieldType.int)).before args0 about1 = true := code_word (m := ⟨11, 3⟩) (meth := k11m3) (c := k11c3) (by decide +kernel) rfl rfl rfl (by decide +kernel)
set_option maxRecDepth 65536 in
theorem w_c14 : (Jvm.Cond.code ({ cls := "java/lang/StringUTF16", name := "coderFromArrayLen", desc := "([BI)B" } : Jvm.MethodName) jdk_52_method_15_code (2 : Nat) (Option.some Jvm.ClassFile.FieldType.byte)).before args0 about1 = true := code_word (m := ⟨11, 1⟩) (meth := k11m1) (c := k11c1) (by decide +kernel) rfl rfl rfl (by decide +kernel)
def codes1 : List Jvm.Cond := [Jvm.Cond.code x code maxLocals ret, Jvm.Cond.code ({ cls := "java/lang/String", name := "<init>", desc := "([C)V" } : Jvm.MethodName) jdk_42_method_3_code (2 : Nat) (Option.none : Option Jvm.ClassFile.FieldType), Jvm.Cond.code ({ cls := "java/lang/String", name := "<init>", desc := "([CIILjava/lang/Void;)V" } : Jvm.MethodName) jdk_42_method_149_code (6 : Nat) (Option.none : Option Jvm.ClassFile.FieldType), Jvm.Cond.code ({ cls := "java/lang/Object", name := "<init>", desc := "()V" } : Jvm.MethodName) object_method_1_code (1 : Nat) (Option.none : Option Jvm.ClassFile.FieldType), Jvm.Cond.code ({ cls := "com/example/seekret/seekret/server/KeystoreException", name := "refused", desc := "(Ljava/lang/String;)Lcom/example/seekret/seekret/server/KeystoreException;" } : Jvm.MethodName) prog_26_method_3_code (1 : Nat) (Option.some (Jvm.ClassFile.FieldType.object "com/example/seekret/seekret/server/KeystoreException")), Jvm.Cond.code ({ cls := "com/example/seekret/seekret/server/KeystoreException", name := "<init>", desc := "(ILjava/lang/String;)V" } : Jvm.MethodName) prog_26_method_1_code (3 : Nat) (Option.none : Option Jvm.ClassFile.FieldType), Jvm.Cond.code ({ cls := "java/lang/Exception", name := "<init>", desc := "(Ljava/lang/String;)V" } : Jvm.MethodName) jdk_59_method_2_code (2 : Nat) (Option.none : Option Jvm.ClassFile.FieldType), Jvm.Cond.code ({ cls := "java/lang/Throwable", name := "<init>", desc := "(Ljava/lang/String;)V" } : Jvm.MethodName) jdk_78_method_2_code (2 : Nat) (Option.none : Option Jvm.ClassFile.FieldType), Jvm.Cond.code ({ cls := "java/lang/Throwable", name := "<init>", desc := "()V" } : Jvm.MethodName) jdk_78_method_1_code (1 : Nat) (Option.none : Option Jvm.ClassFile.FieldType), Jvm.Cond.code ({ cls := "com/example/seekret/seekret/server/KeystoreException", name := "status", desc := "()I" } : Jvm.MethodName) prog_26_method_5_code (1 : Nat) (Option.some Jvm.ClassFile.FieldType.int), Jvm.Cond.code ({ cls := "java/lang/Throwable", name := "getMessage", desc := "()Ljava/lang/String;" } : Jvm.MethodName) jdk_78_method_6_code (1 : Nat) (Option.some (Jvm.ClassFile.FieldType.object "java/lang/String")), Jvm.Cond.code ({ cls := "java/lang/String", name := "equals", desc := "(Ljava/lang/Object;)Z" } : Jvm.MethodName) jdk_42_method_66_code (3 : Nat) (Option.some Jvm.ClassFile.FieldType.boolean), Jvm.Cond.code ({ cls := "java/lang/StringUTF16", name := "compress", desc := "([CII)[B" } : Jvm.MethodName) jdk_52_method_16_code (6 : Nat) (Option.some (Jvm.ClassFile.FieldType.array Jvm.ClassFile.FieldType.byte)), Jvm.Cond.code ({ cls := "java/lang/StringUTF16", name := "compress", desc := "([CI[BII)I" } : Jvm.MethodName) jdk_52_method_21_code (7 : Nat) (Option.some Jvm.ClassFile.FieldType.int), Jvm.Cond.code ({ cls := "java/lang/StringUTF16", name := "coderFromArrayLen", desc := "([BI)B" } : Jvm.MethodName) jdk_52_method_15_code (2 : Nat) (Option.some Jvm.ClassFile.FieldType.byte)]
set_option maxRecDepth 65536 in
theorem codes_eq : words1.filter isCode = codes1 := rfl
theorem w_codes : ∀ c ∈ words1.filter isCode, c.before args0 about1 = true := by
  rw [codes_eq]
  intro c hc
  simp only [codes1, List.mem_cons, List.not_mem_nil, or_false] at hc
  rcases hc with rfl | rfl | rfl | rfl | rfl | rfl | rfl | rfl | rfl | rfl | rfl | rfl | rfl | rfl | rfl
  · exact w_c0
  · exact w_c1
  · exact w_c2
  · exact w_c3
  · exact w_c4
  · exact w_c5
  · exact w_c6
  · exact w_c7
  · exact w_c8
  · exact w_c9
  · exact w_c10
  · exact w_c11
  · exact w_c12
  · exact w_c13
  · exact w_c14
set_option maxRecDepth 65536 in
theorem w_t1 : (words1.take 24).all (fun c => isCode c || c.before args0 about1) = true := by decide +kernel
set_option maxRecDepth 65536 in
theorem w_t2 : ((words1.drop 24).take 24).all (fun c => isCode c || c.before args0 about1) = true := by decide +kernel
set_option maxRecDepth 65536 in
theorem w_t3 : (((words1.drop 24).drop 24).take 24).all (fun c => isCode c || c.before args0 about1) = true := by decide +kernel
set_option maxRecDepth 65536 in
theorem w_t4 : ((((words1.drop 24).drop 24).drop 24).take 24).all (fun c => isCode c || c.before args0 about1) = true := by decide +kernel
set_option maxRecDepth 65536 in
theorem w_t5 : ((((words1.drop 24).drop 24).drop 24).drop 24).all (fun c => isCode c || c.before args0 about1) = true := by decide +kernel
theorem w_tables : (allAtoms (Jvm.Cond.code x code maxLocals ret :: tables_1)).before args0 about1 = true := by
  rw [allAtoms_all]
  show words1.all (fun c => c.before args0 about1) = true
  refine all_split ?_ w_codes
  rw [← List.take_append_drop 24 words1, List.all_append, w_t1, ← List.take_append_drop 24 (words1.drop 24), List.all_append, w_t2, ← List.take_append_drop 24 ((words1.drop 24).drop 24), List.all_append, w_t3, ← List.take_append_drop 24 (((words1.drop 24).drop 24).drop 24), List.all_append, w_t4, w_t5]
  rfl
set_option maxRecDepth 65536 in
theorem w_rest : rest_1_c.before args0 about1 = true := by decide +kernel
set_option maxRecDepth 65536 in
theorem w_case : (Jvm.Cond.and given_1 narrow_1).before args0 about1 = true := by decide +kernel
set_option maxRecDepth 65536 in
theorem w_consts : constsHeld consts_1 about1 := Jvm.Lit.constsHeldB_iff.mp (by decide +kernel)
theorem w_applies : (headSpec (Jvm.Cond.code x code maxLocals ret :: tables_1) room_1).applies x e0.platform about1 = true :=
  (Spec.applies_iff w_frames).mpr ⟨w_running, w_runnable, w_alone, w_named, w_hears, w_ripe, w_room, w_tables⟩
theorem atStart : AtStart classFile x code maxLocals ret World_1 tables_1 room_1 Calls_1 rest_1 Pre_1 launch0 p0 e0 about1 theMethod args0 below0 :=
  ⟨lists_1, trivial, launch0.admits_env _ _ _, launch0.least_env, fairChoices_fair.cas, fairChoices_fair.clock, w_frames, w_args, w_heap, w_applies, ⟨(by decide +kernel : framesKnown about1 = true), ⟨(by decide +kernel : tablesKnown about1 = true), ⟨w_consts, trivial⟩⟩⟩, w_rest, w_case⟩
end start1
theorem witness_1 : WitnessClaimed_1 := ⟨start1.p0, start1.e0, start1.about1, start1.theMethod, start1.args0, start1.below0, start1.atStart⟩
end Jvm.Pilot.@@N@@
